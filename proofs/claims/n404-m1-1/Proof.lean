import JvmDerived
import JvmDerived.Pilot.@@N@@Statement
import JvmDerived.Pilot.@@N@@Code
set_option linter.unusedVariables false
set_option linter.unusedSimpArgs false
namespace Jvm.Pilot.@@N@@
open Jvm Jvm.ClassFile Sem Op Lib Jvm.Free Jvm.Stand Jvm.LawKit Jvm.RoadKit Bundle Jvm.Pilot.@@N@@.Jvm.D
section OwnWalk
/-- what a walk still owes from where it stands -/
def Go (p : Program) (e : Env) (below : List Frame) (Q : Outcome → State → Prop) (T : State) (g : JFrame) : Prop :=
  ∃ s₂ o, Steps p.tables e below (T.setTop g) s₂ ∧ s₂.status = .running ∧ Ended s₂ below o ∧ Q o s₂
/-- what a body owes at its end -/
def Qend (s : State) (Qf : Option Value → Heap → List Loc → Prop) (kc ks : Nat) (o : Outcome) (U : State) : Prop :=
  ∃ v L, o = .returned v ∧ Qf v U.heap L ∧ FrameEnd s o U L kc ks
variable {p : Program} {l : Launch} {e : Env} {R : Room} {s : State} {m : MethodId} {args : Array Value} {below : List Frame} {meth : Method} {c : Code} {T : State} {locs : List Loc} {cells slots : Nat} {Q : Outcome → State → Prop} {pc : Nat} {Ls : Array Slot} {rest : List Value}
theorem Go.step {T' : State} {g g' : JFrame} (k : ∀ t, Steps p.tables e below (T'.setTop g') t → Steps p.tables e below (T.setTop g) t) (h : Go p e below Q T' g') : Go p e below Q T g := by
  obtain ⟨t, o, h1, h2⟩ := h
  exact ⟨t, o, k t h1, h2⟩
theorem Go.cast {g g' : JFrame} (q : g = g') (h : Go p e below Q T g') : Go p e below Q T g := q ▸ h
theorem g_iadd (X : Stand p l e R s m args below meth c T locs cells slots) (hx : p.tables.exec = Jvm.exec) {x y : Int32} (pc' : Nat) (hd : decode c.code pc = .ok (.iadd, 1))  (hp : pc + 1 = pc')
    (k : Go p e below Q T (mkF m pc' Ls (.int (x + y) :: rest))) : Go p e below Q T (mkF m pc Ls (.int y :: .int x :: rest)) := by
  subst hp; exact Go.step (fun t k => XS.iadd X.here hx rfl hd rfl k) k
theorem g_isub (X : Stand p l e R s m args below meth c T locs cells slots) (hx : p.tables.exec = Jvm.exec) {x y : Int32} (pc' : Nat) (hd : decode c.code pc = .ok (.isub, 1))  (hp : pc + 1 = pc')
    (k : Go p e below Q T (mkF m pc' Ls (.int (x - y) :: rest))) : Go p e below Q T (mkF m pc Ls (.int y :: .int x :: rest)) := by
  subst hp; exact Go.step (fun t k => XS.isub X.here hx rfl hd rfl k) k
theorem g_imul (X : Stand p l e R s m args below meth c T locs cells slots) (hx : p.tables.exec = Jvm.exec) {x y : Int32} (pc' : Nat) (hd : decode c.code pc = .ok (.imul, 1))  (hp : pc + 1 = pc')
    (k : Go p e below Q T (mkF m pc' Ls (.int (x * y) :: rest))) : Go p e below Q T (mkF m pc Ls (.int y :: .int x :: rest)) := by
  subst hp; exact Go.step (fun t k => XS.imul X.here hx rfl hd rfl k) k
theorem g_iand (X : Stand p l e R s m args below meth c T locs cells slots) (hx : p.tables.exec = Jvm.exec) {x y : Int32} (pc' : Nat) (hd : decode c.code pc = .ok (.iand, 1))  (hp : pc + 1 = pc')
    (k : Go p e below Q T (mkF m pc' Ls (.int (x &&& y) :: rest))) : Go p e below Q T (mkF m pc Ls (.int y :: .int x :: rest)) := by
  subst hp; exact Go.step (fun t k => XS.iand X.here hx rfl hd rfl k) k
theorem g_ior (X : Stand p l e R s m args below meth c T locs cells slots) (hx : p.tables.exec = Jvm.exec) {x y : Int32} (pc' : Nat) (hd : decode c.code pc = .ok (.ior, 1))  (hp : pc + 1 = pc')
    (k : Go p e below Q T (mkF m pc' Ls (.int (x ||| y) :: rest))) : Go p e below Q T (mkF m pc Ls (.int y :: .int x :: rest)) := by
  subst hp; exact Go.step (fun t k => XS.ior X.here hx rfl hd rfl k) k
theorem g_ixor (X : Stand p l e R s m args below meth c T locs cells slots) (hx : p.tables.exec = Jvm.exec) {x y : Int32} (pc' : Nat) (hd : decode c.code pc = .ok (.ixor, 1))  (hp : pc + 1 = pc')
    (k : Go p e below Q T (mkF m pc' Ls (.int (x ^^^ y) :: rest))) : Go p e below Q T (mkF m pc Ls (.int y :: .int x :: rest)) := by
  subst hp; exact Go.step (fun t k => XS.ixor X.here hx rfl hd rfl k) k
theorem g_ishl (X : Stand p l e R s m args below meth c T locs cells slots) (hx : p.tables.exec = Jvm.exec) {x y : Int32} (pc' : Nat) (hd : decode c.code pc = .ok (.ishl, 1))  (hp : pc + 1 = pc')
    (k : Go p e below Q T (mkF m pc' Ls (.int (x <<< (y &&& 31)) :: rest))) : Go p e below Q T (mkF m pc Ls (.int y :: .int x :: rest)) := by
  subst hp; exact Go.step (fun t k => XS.ishl X.here hx rfl hd rfl k) k
theorem g_ishr (X : Stand p l e R s m args below meth c T locs cells slots) (hx : p.tables.exec = Jvm.exec) {x y : Int32} (pc' : Nat) (hd : decode c.code pc = .ok (.ishr, 1))  (hp : pc + 1 = pc')
    (k : Go p e below Q T (mkF m pc' Ls (.int (x >>> (y &&& 31)) :: rest))) : Go p e below Q T (mkF m pc Ls (.int y :: .int x :: rest)) := by
  subst hp; exact Go.step (fun t k => XS.ishr X.here hx rfl hd rfl k) k
theorem g_iushr (X : Stand p l e R s m args below meth c T locs cells slots) (hx : p.tables.exec = Jvm.exec) {x y : Int32} (pc' : Nat) (hd : decode c.code pc = .ok (.iushr, 1))  (hp : pc + 1 = pc')
    (k : Go p e below Q T (mkF m pc' Ls (.int ((x.toUInt32 >>> (y &&& 31).toUInt32).toInt32) :: rest))) : Go p e below Q T (mkF m pc Ls (.int y :: .int x :: rest)) := by
  subst hp; exact Go.step (fun t k => XS.iushr X.here hx rfl hd rfl k) k
theorem g_irem (X : Stand p l e R s m args below meth c T locs cells slots) (hx : p.tables.exec = Jvm.exec) {x y : Int32} (pc' : Nat) (hd : decode c.code pc = .ok (.irem, 1)) (hy : y ≠ 0) (hp : pc + 1 = pc')
    (k : Go p e below Q T (mkF m pc' Ls (.int (x % y) :: rest))) : Go p e below Q T (mkF m pc Ls (.int y :: .int x :: rest)) := by
  subst hp; exact Go.step (fun t k => iremM X hx rfl hd rfl hy k) k
theorem g_idiv (X : Stand p l e R s m args below meth c T locs cells slots) (hx : p.tables.exec = Jvm.exec) {x y : Int32} (pc' : Nat) (hd : decode c.code pc = .ok (.idiv, 1)) (hy : y ≠ 0) (hp : pc + 1 = pc')
    (k : Go p e below Q T (mkF m pc' Ls (.int (x / y) :: rest))) : Go p e below Q T (mkF m pc Ls (.int y :: .int x :: rest)) := by
  subst hp; exact Go.step (fun t k => XS.idiv X.here hx rfl hd rfl hy k) k
theorem g_ladd (X : Stand p l e R s m args below meth c T locs cells slots) (hx : p.tables.exec = Jvm.exec) {x y : Int64} (pc' : Nat) (hd : decode c.code pc = .ok (.ladd, 1))  (hp : pc + 1 = pc')
    (k : Go p e below Q T (mkF m pc' Ls (.long (x + y) :: rest))) : Go p e below Q T (mkF m pc Ls (.long y :: .long x :: rest)) := by
  subst hp; exact Go.step (fun t k => XS.ladd X.here hx rfl hd rfl k) k
theorem g_lsub (X : Stand p l e R s m args below meth c T locs cells slots) (hx : p.tables.exec = Jvm.exec) {x y : Int64} (pc' : Nat) (hd : decode c.code pc = .ok (.lsub, 1))  (hp : pc + 1 = pc')
    (k : Go p e below Q T (mkF m pc' Ls (.long (x - y) :: rest))) : Go p e below Q T (mkF m pc Ls (.long y :: .long x :: rest)) := by
  subst hp; exact Go.step (fun t k => XS.lsub X.here hx rfl hd rfl k) k
theorem g_lmul (X : Stand p l e R s m args below meth c T locs cells slots) (hx : p.tables.exec = Jvm.exec) {x y : Int64} (pc' : Nat) (hd : decode c.code pc = .ok (.lmul, 1))  (hp : pc + 1 = pc')
    (k : Go p e below Q T (mkF m pc' Ls (.long (x * y) :: rest))) : Go p e below Q T (mkF m pc Ls (.long y :: .long x :: rest)) := by
  subst hp; exact Go.step (fun t k => XS.lmul X.here hx rfl hd rfl k) k
theorem g_land (X : Stand p l e R s m args below meth c T locs cells slots) (hx : p.tables.exec = Jvm.exec) {x y : Int64} (pc' : Nat) (hd : decode c.code pc = .ok (.land, 1))  (hp : pc + 1 = pc')
    (k : Go p e below Q T (mkF m pc' Ls (.long (x &&& y) :: rest))) : Go p e below Q T (mkF m pc Ls (.long y :: .long x :: rest)) := by
  subst hp; exact Go.step (fun t k => XS.land X.here hx rfl hd rfl k) k
theorem g_lor (X : Stand p l e R s m args below meth c T locs cells slots) (hx : p.tables.exec = Jvm.exec) {x y : Int64} (pc' : Nat) (hd : decode c.code pc = .ok (.lor, 1))  (hp : pc + 1 = pc')
    (k : Go p e below Q T (mkF m pc' Ls (.long (x ||| y) :: rest))) : Go p e below Q T (mkF m pc Ls (.long y :: .long x :: rest)) := by
  subst hp; exact Go.step (fun t k => XS.lor X.here hx rfl hd rfl k) k
theorem g_lxor (X : Stand p l e R s m args below meth c T locs cells slots) (hx : p.tables.exec = Jvm.exec) {x y : Int64} (pc' : Nat) (hd : decode c.code pc = .ok (.lxor, 1))  (hp : pc + 1 = pc')
    (k : Go p e below Q T (mkF m pc' Ls (.long (x ^^^ y) :: rest))) : Go p e below Q T (mkF m pc Ls (.long y :: .long x :: rest)) := by
  subst hp; exact Go.step (fun t k => XS.lxor X.here hx rfl hd rfl k) k
theorem g_ldiv (X : Stand p l e R s m args below meth c T locs cells slots) (hx : p.tables.exec = Jvm.exec) {x y : Int64} (pc' : Nat) (hd : decode c.code pc = .ok (.ldiv, 1)) (hy : y ≠ 0) (hp : pc + 1 = pc')
    (k : Go p e below Q T (mkF m pc' Ls (.long (x / y) :: rest))) : Go p e below Q T (mkF m pc Ls (.long y :: .long x :: rest)) := by
  subst hp; exact Go.step (fun t k => XS.ldiv X.here hx rfl hd rfl hy k) k
theorem g_lshl (X : Stand p l e R s m args below meth c T locs cells slots) (hx : p.tables.exec = Jvm.exec) {x : Int64} {y : Int32} (pc' : Nat) (hd : decode c.code pc = .ok (.lshl, 1))  (hp : pc + 1 = pc')
    (k : Go p e below Q T (mkF m pc' Ls (.long (x <<< (y &&& 0x3f).toInt64) :: rest))) : Go p e below Q T (mkF m pc Ls (.int y :: .long x :: rest)) := by
  subst hp; exact Go.step (fun t k => XS.lshl X.here hx rfl hd rfl k) k
theorem g_lshr (X : Stand p l e R s m args below meth c T locs cells slots) (hx : p.tables.exec = Jvm.exec) {x : Int64} {y : Int32} (pc' : Nat) (hd : decode c.code pc = .ok (.lshr, 1))  (hp : pc + 1 = pc')
    (k : Go p e below Q T (mkF m pc' Ls (.long (x >>> (y &&& 0x3f).toInt64) :: rest))) : Go p e below Q T (mkF m pc Ls (.int y :: .long x :: rest)) := by
  subst hp; exact Go.step (fun t k => XS.lshr X.here hx rfl hd rfl k) k
theorem g_lushr (X : Stand p l e R s m args below meth c T locs cells slots) (hx : p.tables.exec = Jvm.exec) {x : Int64} {y : Int32} (pc' : Nat) (hd : decode c.code pc = .ok (.lushr, 1))  (hp : pc + 1 = pc')
    (k : Go p e below Q T (mkF m pc' Ls (.long ((x.toUInt64 >>> (y &&& 0x3f).toInt64.toUInt64).toInt64) :: rest))) : Go p e below Q T (mkF m pc Ls (.int y :: .long x :: rest)) := by
  subst hp; exact Go.step (fun t k => XS.lushr X.here hx rfl hd rfl k) k
theorem g_i2b (X : Stand p l e R s m args below meth c T locs cells slots) (hx : p.tables.exec = Jvm.exec) {x : Int32} (pc' : Nat) (hd : decode c.code pc = .ok (.i2b, 1))  (hp : pc + 1 = pc')
    (k : Go p e below Q T (mkF m pc' Ls (.int (x.toInt8.toInt32) :: rest))) : Go p e below Q T (mkF m pc Ls (.int x :: rest)) := by
  subst hp; exact Go.step (fun t k => XS.i2b X.here hx rfl hd rfl k) k
theorem g_i2c (X : Stand p l e R s m args below meth c T locs cells slots) (hx : p.tables.exec = Jvm.exec) {x : Int32} (pc' : Nat) (hd : decode c.code pc = .ok (.i2c, 1))  (hp : pc + 1 = pc')
    (k : Go p e below Q T (mkF m pc' Ls (.int (x.toUInt32.toUInt16.toUInt32.toInt32) :: rest))) : Go p e below Q T (mkF m pc Ls (.int x :: rest)) := by
  subst hp; exact Go.step (fun t k => XS.i2c X.here hx rfl hd rfl k) k
theorem g_i2s (X : Stand p l e R s m args below meth c T locs cells slots) (hx : p.tables.exec = Jvm.exec) {x : Int32} (pc' : Nat) (hd : decode c.code pc = .ok (.i2s, 1))  (hp : pc + 1 = pc')
    (k : Go p e below Q T (mkF m pc' Ls (.int (x.toInt16.toInt32) :: rest))) : Go p e below Q T (mkF m pc Ls (.int x :: rest)) := by
  subst hp; exact Go.step (fun t k => XS.i2s X.here hx rfl hd rfl k) k
theorem g_i2l (X : Stand p l e R s m args below meth c T locs cells slots) (hx : p.tables.exec = Jvm.exec) {x : Int32} (pc' : Nat) (hd : decode c.code pc = .ok (.i2l, 1))  (hp : pc + 1 = pc')
    (k : Go p e below Q T (mkF m pc' Ls (.long (x.toInt64) :: rest))) : Go p e below Q T (mkF m pc Ls (.int x :: rest)) := by
  subst hp; exact Go.step (fun t k => XS.i2l X.here hx rfl hd rfl k) k
theorem g_l2i (X : Stand p l e R s m args below meth c T locs cells slots) (hx : p.tables.exec = Jvm.exec) {x : Int64} (pc' : Nat) (hd : decode c.code pc = .ok (.l2i, 1))  (hp : pc + 1 = pc')
    (k : Go p e below Q T (mkF m pc' Ls (.int (x.toInt32) :: rest))) : Go p e below Q T (mkF m pc Ls (.long x :: rest)) := by
  subst hp; exact Go.step (fun t k => XS.l2i X.here hx rfl hd rfl k) k
theorem g_ineg (X : Stand p l e R s m args below meth c T locs cells slots) (hx : p.tables.exec = Jvm.exec) {x : Int32} (pc' : Nat) (hd : decode c.code pc = .ok (.ineg, 1))  (hp : pc + 1 = pc')
    (k : Go p e below Q T (mkF m pc' Ls (.int (-x) :: rest))) : Go p e below Q T (mkF m pc Ls (.int x :: rest)) := by
  subst hp; exact Go.step (fun t k => XS.ineg X.here hx rfl hd rfl k) k
theorem g_lneg (X : Stand p l e R s m args below meth c T locs cells slots) (hx : p.tables.exec = Jvm.exec) {x : Int64} (pc' : Nat) (hd : decode c.code pc = .ok (.lneg, 1))  (hp : pc + 1 = pc')
    (k : Go p e below Q T (mkF m pc' Ls (.long (-x) :: rest))) : Go p e below Q T (mkF m pc Ls (.long x :: rest)) := by
  subst hp; exact Go.step (fun t k => XS.lneg X.here hx rfl hd rfl k) k
theorem g_lcmp (X : Stand p l e R s m args below meth c T locs cells slots) (hx : p.tables.exec = Jvm.exec) {x y : Int64} (pc' : Nat) (hd : decode c.code pc = .ok (.lcmp, 1))  (hp : pc + 1 = pc')
    (k : Go p e below Q T (mkF m pc' Ls (.int (Jvm.Free.XT.cmpL x y) :: rest))) : Go p e below Q T (mkF m pc Ls (.long y :: .long x :: rest)) := by
  subst hp; exact Go.step (fun t k => Jvm.Free.XT.lcmp X.here hx rfl hd rfl k) k
theorem g_iloadN (X : Stand p l e R s m args below meth c T locs cells slots) (hx : p.tables.exec = Jvm.exec) {k' : Fin 4} {v : Int32} (pc' : Nat) (hd : decode c.code pc = .ok (.iload_n k', 1)) (hl : Ls[k'.val]? = some (.val (.int v))) (hp : pc + 1 = pc')
    (k : Go p e below Q T (mkF m pc' Ls (.int v :: rest))) : Go p e below Q T (mkF m pc Ls (rest)) := by
  subst hp; exact Go.step (fun t k => XS.iloadN X.here hx rfl hd hl k) k
theorem g_iload (X : Stand p l e R s m args below meth c T locs cells slots) (hx : p.tables.exec = Jvm.exec) {k' : Nat} {v : Int32} (pc' : Nat) (hd : decode c.code pc = .ok (.iload k', 2)) (hl : Ls[k']? = some (.val (.int v))) (hp : pc + 2 = pc')
    (k : Go p e below Q T (mkF m pc' Ls (.int v :: rest))) : Go p e below Q T (mkF m pc Ls (rest)) := by
  subst hp; exact Go.step (fun t k => XS.iload X.here hx rfl hd hl k) k
theorem g_lloadN (X : Stand p l e R s m args below meth c T locs cells slots) (hx : p.tables.exec = Jvm.exec) {k' : Fin 4} {v : Int64} (pc' : Nat) (hd : decode c.code pc = .ok (.lload_n k', 1)) (hl : Ls[k'.val]? = some (.val (.long v))) (hp : pc + 1 = pc')
    (k : Go p e below Q T (mkF m pc' Ls (.long v :: rest))) : Go p e below Q T (mkF m pc Ls (rest)) := by
  subst hp; exact Go.step (fun t k => XS.lloadN X.here hx rfl hd hl k) k
theorem g_lload (X : Stand p l e R s m args below meth c T locs cells slots) (hx : p.tables.exec = Jvm.exec) {k' : Nat} {v : Int64} (pc' : Nat) (hd : decode c.code pc = .ok (.lload k', 2)) (hl : Ls[k']? = some (.val (.long v))) (hp : pc + 2 = pc')
    (k : Go p e below Q T (mkF m pc' Ls (.long v :: rest))) : Go p e below Q T (mkF m pc Ls (rest)) := by
  subst hp; exact Go.step (fun t k => XS.lload X.here hx rfl hd hl k) k
theorem g_aloadN (X : Stand p l e R s m args below meth c T locs cells slots) (hx : p.tables.exec = Jvm.exec) {k' : Fin 4} {v : Value} (pc' : Nat) (hd : decode c.code pc = .ok (.aload_n k', 1)) (hl : Ls[k'.val]? = some (.val v)) (hv : v.isRef = true) (hp : pc + 1 = pc')
    (k : Go p e below Q T (mkF m pc' Ls (v :: rest))) : Go p e below Q T (mkF m pc Ls (rest)) := by
  subst hp; exact Go.step (fun t k => XS.aloadN X.here hx rfl hd hl hv k) k
theorem g_aload (X : Stand p l e R s m args below meth c T locs cells slots) (hx : p.tables.exec = Jvm.exec) {k' : Nat} {v : Value} (pc' : Nat) (hd : decode c.code pc = .ok (.aload k', 2)) (hl : Ls[k']? = some (.val v)) (hv : v.isRef = true) (hp : pc + 2 = pc')
    (k : Go p e below Q T (mkF m pc' Ls (v :: rest))) : Go p e below Q T (mkF m pc Ls (rest)) := by
  subst hp; exact Go.step (fun t k => XS.aload X.here hx rfl hd hl hv k) k
theorem g_istoreN (X : Stand p l e R s m args below meth c T locs cells slots) (hx : p.tables.exec = Jvm.exec) {k' : Fin 4} {x : Int32} (pc' : Nat) (hd : decode c.code pc = .ok (.istore_n k', 1)) (Ls' : Array Slot) (hl : storeLocals Ls k'.val (.int x) = some Ls') (hp : pc + 1 = pc')
    (k : Go p e below Q T (mkF m pc' Ls' (rest))) : Go p e below Q T (mkF m pc Ls (.int x :: rest)) := by
  subst hp; exact Go.step (fun t k => XS.istoreN X.here hx rfl hd rfl hl k) k
theorem g_istore (X : Stand p l e R s m args below meth c T locs cells slots) (hx : p.tables.exec = Jvm.exec) {k' : Nat} {x : Int32} (pc' : Nat) (hd : decode c.code pc = .ok (.istore k', 2)) (Ls' : Array Slot) (hl : storeLocals Ls k' (.int x) = some Ls') (hp : pc + 2 = pc')
    (k : Go p e below Q T (mkF m pc' Ls' (rest))) : Go p e below Q T (mkF m pc Ls (.int x :: rest)) := by
  subst hp; exact Go.step (fun t k => XS.istore X.here hx rfl hd rfl hl k) k
theorem g_lstoreN (X : Stand p l e R s m args below meth c T locs cells slots) (hx : p.tables.exec = Jvm.exec) {k' : Fin 4} {x : Int64} (pc' : Nat) (hd : decode c.code pc = .ok (.lstore_n k', 1)) (Ls' : Array Slot) (hl : storeLocals Ls k'.val (.long x) = some Ls') (hp : pc + 1 = pc')
    (k : Go p e below Q T (mkF m pc' Ls' (rest))) : Go p e below Q T (mkF m pc Ls (.long x :: rest)) := by
  subst hp; exact Go.step (fun t k => XS.lstoreN X.here hx rfl hd rfl hl k) k
theorem g_lstore (X : Stand p l e R s m args below meth c T locs cells slots) (hx : p.tables.exec = Jvm.exec) {k' : Nat} {x : Int64} (pc' : Nat) (hd : decode c.code pc = .ok (.lstore k', 2)) (Ls' : Array Slot) (hl : storeLocals Ls k' (.long x) = some Ls') (hp : pc + 2 = pc')
    (k : Go p e below Q T (mkF m pc' Ls' (rest))) : Go p e below Q T (mkF m pc Ls (.long x :: rest)) := by
  subst hp; exact Go.step (fun t k => XS.lstore X.here hx rfl hd rfl hl k) k
theorem g_astoreN (X : Stand p l e R s m args below meth c T locs cells slots) (hx : p.tables.exec = Jvm.exec) {k' : Fin 4} {x : Value} (pc' : Nat) (hd : decode c.code pc = .ok (.astore_n k', 1)) (hv : x.isRef = true) (Ls' : Array Slot) (hl : storeLocals Ls k'.val x = some Ls') (hp : pc + 1 = pc')
    (k : Go p e below Q T (mkF m pc' Ls' (rest))) : Go p e below Q T (mkF m pc Ls (x :: rest)) := by
  subst hp; exact Go.step (fun t k => XS.astoreN X.here hx rfl hd rfl hv hl k) k
theorem g_astore (X : Stand p l e R s m args below meth c T locs cells slots) (hx : p.tables.exec = Jvm.exec) {k' : Nat} {x : Value} (pc' : Nat) (hd : decode c.code pc = .ok (.astore k', 2)) (hv : x.isRef = true) (Ls' : Array Slot) (hl : storeLocals Ls k' x = some Ls') (hp : pc + 2 = pc')
    (k : Go p e below Q T (mkF m pc' Ls' (rest))) : Go p e below Q T (mkF m pc Ls (x :: rest)) := by
  subst hp; exact Go.step (fun t k => XS.astore X.here hx rfl hd rfl hv hl k) k
theorem g_iinc (X : Stand p l e R s m args below meth c T locs cells slots) (hx : p.tables.exec = Jvm.exec) {k' : Nat} {cst : Int} {x : Int32} (pc' : Nat) (hd : decode c.code pc = .ok (.iinc k' cst, 3)) (v : Int32) (hv : Int32.ofInt cst = v) (hl : Ls[k']? = some (.val (.int x))) (Ls' : Array Slot) (hl' : storeLocals Ls k' (.int (x + v)) = some Ls') (hp : pc + 3 = pc')
    (k : Go p e below Q T (mkF m pc' Ls' (rest))) : Go p e below Q T (mkF m pc Ls (rest)) := by
  subst hp; exact Go.step (fun t k => XS.iinc X.here hx rfl hd hl (by rw [hv]; exact hl') k) k
theorem g_iincC (X : Stand p l e R s m args below meth c T locs cells slots) (hx : p.tables.exec = Jvm.exec) {k' : Nat} {cst : Int} {x : Int32} (pc' : Nat) (hd : decode c.code pc = .ok (.iinc k' cst, 3)) (v w : Int32) (hv : Int32.ofInt cst = v) (hw : x + v = w) (hl : Ls[k']? = some (.val (.int x))) (Ls' : Array Slot) (hl' : storeLocals Ls k' (.int w) = some Ls') (hp : pc + 3 = pc')
    (k : Go p e below Q T (mkF m pc' Ls' (rest))) : Go p e below Q T (mkF m pc Ls (rest)) := by
  subst hp; exact Go.step (fun t k => XS.iinc X.here hx rfl hd hl (by rw [hv, hw]; exact hl') k) k
theorem g_iconst (X : Stand p l e R s m args below meth c T locs cells slots) (hx : p.tables.exec = Jvm.exec) {i : Int} (pc' : Nat) (hd : decode c.code pc = .ok (.iconst i, 1)) (v : Int32) (hv : Int32.ofInt i = v) (hp : pc + 1 = pc')
    (k : Go p e below Q T (mkF m pc' Ls (.int v :: rest))) : Go p e below Q T (mkF m pc Ls (rest)) := by
  subst hp; exact Go.step (fun t k => XS.iconst X.here hx rfl hd (by rw [hv]; exact k)) k
theorem g_bipush (X : Stand p l e R s m args below meth c T locs cells slots) (hx : p.tables.exec = Jvm.exec) {i : Int} (pc' : Nat) (hd : decode c.code pc = .ok (.bipush i, 2)) (v : Int32) (hv : (Int8.ofInt i).toInt32 = v) (hp : pc + 2 = pc')
    (k : Go p e below Q T (mkF m pc' Ls (.int v :: rest))) : Go p e below Q T (mkF m pc Ls (rest)) := by
  subst hp; exact Go.step (fun t k => XS.bipush X.here hx rfl hd (by rw [hv]; exact k)) k
theorem g_sipush (X : Stand p l e R s m args below meth c T locs cells slots) (hx : p.tables.exec = Jvm.exec) {i : Int} (pc' : Nat) (hd : decode c.code pc = .ok (.sipush i, 3)) (v : Int32) (hv : (Int16.ofInt i).toInt32 = v) (hp : pc + 3 = pc')
    (k : Go p e below Q T (mkF m pc' Ls (.int v :: rest))) : Go p e below Q T (mkF m pc Ls (rest)) := by
  subst hp; exact Go.step (fun t k => XS.sipush X.here hx rfl hd (by rw [hv]; exact k)) k
theorem g_lconst (X : Stand p l e R s m args below meth c T locs cells slots) (hx : p.tables.exec = Jvm.exec) {i : Fin 2} (pc' : Nat) (hd : decode c.code pc = .ok (.lconst i, 1)) (v : Int64) (hv : Int64.ofNat i = v) (hp : pc + 1 = pc')
    (k : Go p e below Q T (mkF m pc' Ls (.long v :: rest))) : Go p e below Q T (mkF m pc Ls (rest)) := by
  subst hp; exact Go.step (fun t k => XS.lconst X.here hx rfl hd (by rw [hv]; exact k)) k
theorem g_null (X : Stand p l e R s m args below meth c T locs cells slots) (hx : p.tables.exec = Jvm.exec)  (pc' : Nat) (hd : decode c.code pc = .ok (.aconst_null, 1))  (hp : pc + 1 = pc')
    (k : Go p e below Q T (mkF m pc' Ls (.null :: rest))) : Go p e below Q T (mkF m pc Ls (rest)) := by
  subst hp; exact Go.step (fun t k => XS.aconstNull X.here hx rfl hd k) k
theorem g_dup (X : Stand p l e R s m args below meth c T locs cells slots) (hx : p.tables.exec = Jvm.exec) {x : Value} (pc' : Nat) (hd : decode c.code pc = .ok (.dup, 1)) (hc : x.category = 1) (hp : pc + 1 = pc')
    (k : Go p e below Q T (mkF m pc' Ls (x :: x :: rest))) : Go p e below Q T (mkF m pc Ls (x :: rest)) := by
  subst hp; exact Go.step (fun t k => XS.dup X.here hx rfl hd rfl hc k) k
theorem g_pop (X : Stand p l e R s m args below meth c T locs cells slots) (hx : p.tables.exec = Jvm.exec) {x : Value} (pc' : Nat) (hd : decode c.code pc = .ok (.pop, 1)) (hc : x.category = 1) (hp : pc + 1 = pc')
    (k : Go p e below Q T (mkF m pc' Ls (rest))) : Go p e below Q T (mkF m pc Ls (x :: rest)) := by
  subst hp; exact Go.step (fun t k => XS.pop X.here hx rfl hd rfl hc k) k
theorem g_dup2 (X : Stand p l e R s m args below meth c T locs cells slots) (hx : p.tables.exec = Jvm.exec) {x y : Value} (pc' : Nat) (hd : decode c.code pc = .ok (.dup2, 1)) (hc : x.category = 1) (hc' : y.category = 1) (hp : pc + 1 = pc')
    (k : Go p e below Q T (mkF m pc' Ls (x :: y :: x :: y :: rest))) : Go p e below Q T (mkF m pc Ls (x :: y :: rest)) := by
  subst hp; exact Go.step (fun t k => Jvm.Free.XT.dup2 X.here hx rfl hd rfl hc hc' k) k
theorem g_dupX1 (X : Stand p l e R s m args below meth c T locs cells slots) (hx : p.tables.exec = Jvm.exec) {x y : Value} (pc' : Nat) (hd : decode c.code pc = .ok (.dup_x1, 1)) (hc : x.category = 1) (hc' : y.category = 1) (hp : pc + 1 = pc')
    (k : Go p e below Q T (mkF m pc' Ls (x :: y :: x :: rest))) : Go p e below Q T (mkF m pc Ls (x :: y :: rest)) := by
  subst hp; exact Go.step (fun t k => XS.dupX1 X.here hx rfl hd rfl hc hc' k) k
theorem g_ldcI (X : Stand p l e R s m args below meth c T locs cells slots) (hx : p.tables.exec = Jvm.exec) {Z : State} {a0 : Array Value} (hZ : Z.Warmed39 s.vm) {own : String} {index : Nat} (v : Int32) (hown : s.vm.findClass own = some m.cls) (w : (Jvm.Cond.constant own index v).before a0 Z = true) (pc' : Nat) (hd : decode c.code pc = .ok (.ldc index, 2))  (hp : pc + 2 = pc')
    (k : Go p e below Q T (mkF m pc' Ls (.int v :: rest))) : Go p e below Q T (mkF m pc Ls (rest)) := by
  subst hp; exact Go.step (fun t k => X.ldcI hx hown (mv hZ w) rfl hd k) k
theorem g_ldcWI (X : Stand p l e R s m args below meth c T locs cells slots) (hx : p.tables.exec = Jvm.exec) {Z : State} {a0 : Array Value} (hZ : Z.Warmed39 s.vm) {own : String} {index : Nat} (v : Int32) (hown : s.vm.findClass own = some m.cls) (w : (Jvm.Cond.constant own index v).before a0 Z = true) (pc' : Nat) (hd : decode c.code pc = .ok (.ldc_w index, 3))  (hp : pc + 3 = pc')
    (k : Go p e below Q T (mkF m pc' Ls (.int v :: rest))) : Go p e below Q T (mkF m pc Ls (rest)) := by
  subst hp; exact Go.step (fun t k => X.ldcWI hx hown (mv hZ w) rfl hd k) k
theorem g_ldc2J (X : Stand p l e R s m args below meth c T locs cells slots) (hx : p.tables.exec = Jvm.exec) {Z : State} {a0 : Array Value} (hZ : Z.Warmed39 s.vm) {own : String} {index : Nat} (v : Int64) (hown : s.vm.findClass own = some m.cls) (w : (Jvm.Cond.constantLong own index v).before a0 Z = true) (pc' : Nat) (hd : decode c.code pc = .ok (.ldc2_w index, 3))  (hp : pc + 3 = pc')
    (k : Go p e below Q T (mkF m pc' Ls (.long v :: rest))) : Go p e below Q T (mkF m pc Ls (rest)) := by
  subst hp; exact Go.step (fun t k => X.ldc2J hx hown (mv hZ w) rfl hd k) k
theorem g_goto (X : Stand p l e R s m args below meth c T locs cells slots) (hx : p.tables.exec = Jvm.exec) (pc' : Nat) {o : Int} (hd : decode c.code pc = .ok (.goto o, 3)) (ho : 0 ≤ (pc : Int) + o) (hp : ((pc : Int) + o).toNat = pc') {st : List Value}
    (k : Go p e below Q T (mkF m pc' Ls st)) : Go p e below Q T (mkF m pc Ls st) := Go.step (fun t k => XS.goto X.here hx rfl rfl hd ho hp k) k
theorem g_ifT (X : Stand p l e R s m args below meth c T locs cells slots) (hx : p.tables.exec = Jvm.exec) (pc' : Nat) {o : Int} {cd : ClassFile.Cond} {x : Int32} (hd : decode c.code pc = .ok (.ifCond cd o, 3)) (hc : ifCond.holds cd x = true) (ho : 0 ≤ (pc : Int) + o) (hp : ((pc : Int) + o).toNat = pc')
    (k : Go p e below Q T (mkF m pc' Ls rest)) : Go p e below Q T (mkF m pc Ls (.int x :: rest)) := Go.step (fun t k => XS.ifYes X.here hx rfl rfl hd rfl hc ho hp k) k
theorem g_ifF (X : Stand p l e R s m args below meth c T locs cells slots) (hx : p.tables.exec = Jvm.exec) (pc' : Nat) {o : Int} {cd : ClassFile.Cond} {x : Int32} (hd : decode c.code pc = .ok (.ifCond cd o, 3)) (hc : ifCond.holds cd x = false) (hp : pc + 3 = pc')
    (k : Go p e below Q T (mkF m pc' Ls rest)) : Go p e below Q T (mkF m pc Ls (.int x :: rest)) := by subst hp; exact Go.step (fun t k => XS.ifNo X.here hx rfl hd rfl hc k) k
theorem g_icT (X : Stand p l e R s m args below meth c T locs cells slots) (hx : p.tables.exec = Jvm.exec) (pc' : Nat) {o : Int} {cd : ClassFile.Cond} {x y : Int32} (hd : decode c.code pc = .ok (.if_icmp cd o, 3)) (hc : if_icmp.holds cd x y = true) (ho : 0 ≤ (pc : Int) + o) (hp : ((pc : Int) + o).toNat = pc')
    (k : Go p e below Q T (mkF m pc' Ls rest)) : Go p e below Q T (mkF m pc Ls (.int y :: .int x :: rest)) := Go.step (fun t k => XS.icmpYes X.here hx rfl rfl hd rfl hc ho hp k) k
theorem g_icF (X : Stand p l e R s m args below meth c T locs cells slots) (hx : p.tables.exec = Jvm.exec) (pc' : Nat) {o : Int} {cd : ClassFile.Cond} {x y : Int32} (hd : decode c.code pc = .ok (.if_icmp cd o, 3)) (hc : if_icmp.holds cd x y = false) (hp : pc + 3 = pc')
    (k : Go p e below Q T (mkF m pc' Ls rest)) : Go p e below Q T (mkF m pc Ls (.int y :: .int x :: rest)) := by subst hp; exact Go.step (fun t k => XS.icmpNo X.here hx rfl hd rfl hc k) k
theorem g_swIn (X : Stand p l e R s m args below meth c T locs cells slots) (hx : p.tables.exec = Jvm.exec) (pc' : Nat) {dflt low high : Int} {offs : Array Int} {len : Nat} {o : Int} {i : Int32} (hd : decode c.code pc = .ok (.tableswitch dflt low high offs, len)) (hin : ¬ (i.toInt < low ∨ i.toInt > high)) (hoff : offs[(i.toInt - low).toNat]? = some o) (ho : 0 ≤ (pc : Int) + o) (hp : ((pc : Int) + o).toNat = pc')
    (k : Go p e below Q T (mkF m pc' Ls rest)) : Go p e below Q T (mkF m pc Ls (.int i :: rest)) := Go.step (fun t k => XS.tswIn X.here hx rfl rfl hd rfl hin hoff ho hp k) k
theorem g_swOut (X : Stand p l e R s m args below meth c T locs cells slots) (hx : p.tables.exec = Jvm.exec) (pc' : Nat) {dflt low high : Int} {offs : Array Int} {len : Nat} {i : Int32} (hd : decode c.code pc = .ok (.tableswitch dflt low high offs, len)) (hout : i.toInt < low ∨ i.toInt > high) (ho : 0 ≤ (pc : Int) + dflt) (hp : ((pc : Int) + dflt).toNat = pc')
    (k : Go p e below Q T (mkF m pc' Ls rest)) : Go p e below Q T (mkF m pc Ls (.int i :: rest)) := Go.step (fun t k => XS.tswOut X.here hx rfl rfl hd rfl hout ho hp k) k
theorem g_nullT (X : Stand p l e R s m args below meth c T locs cells slots) (hx : p.tables.exec = Jvm.exec) (pc' : Nat) {o : Int} (hd : decode c.code pc = .ok (.ifnull o, 3)) (ho : 0 ≤ (pc : Int) + o) (hp : ((pc : Int) + o).toNat = pc')
    (k : Go p e below Q T (mkF m pc' Ls rest)) : Go p e below Q T (mkF m pc Ls (.null :: rest)) := Go.step (fun t k => XS.ifnullYes X.here hx rfl rfl hd rfl ho hp k) k
theorem g_nullF (X : Stand p l e R s m args below meth c T locs cells slots) (hx : p.tables.exec = Jvm.exec) (pc' : Nat) {o : Int} {b : Addr} (hd : decode c.code pc = .ok (.ifnull o, 3)) (hp : pc + 3 = pc')
    (k : Go p e below Q T (mkF m pc' Ls rest)) : Go p e below Q T (mkF m pc Ls (.ref b :: rest)) := by subst hp; exact Go.step (fun t k => XS.ifnullNo X.here hx rfl hd rfl k) k
theorem g_nonnullT (X : Stand p l e R s m args below meth c T locs cells slots) (hx : p.tables.exec = Jvm.exec) (pc' : Nat) {o : Int} {b : Addr} (hd : decode c.code pc = .ok (.ifnonnull o, 3)) (ho : 0 ≤ (pc : Int) + o) (hp : ((pc : Int) + o).toNat = pc')
    (k : Go p e below Q T (mkF m pc' Ls rest)) : Go p e below Q T (mkF m pc Ls (.ref b :: rest)) := Go.step (fun t k => XS.ifnonnullYes X.here hx rfl rfl hd rfl ho hp k) k
theorem g_nonnullF (X : Stand p l e R s m args below meth c T locs cells slots) (hx : p.tables.exec = Jvm.exec) (pc' : Nat) {o : Int} (hd : decode c.code pc = .ok (.ifnonnull o, 3)) (hp : pc + 3 = pc')
    (k : Go p e below Q T (mkF m pc' Ls rest)) : Go p e below Q T (mkF m pc Ls (.null :: rest)) := by subst hp; exact Go.step (fun t k => XS.ifnonnullNo X.here hx rfl hd rfl k) k
theorem own_end {Qf : Option Value → Heap → List Loc → Prop} {kc ks : Nat} {g : JFrame} (X : Stand p l e R s m args below meth c T locs cells slots) (hx : p.tables.exec = Jvm.exec) (v : Option Value) (hv : meth.sig.returnType = none → v = none) (hlocks : meth.locks = false)
    (st : ∀ fs, (∀ (f : JFrame) (acts : List Action), f.method = m → f.locked = none → f.entered = [] → (doReturn e (T.setTop f) acts v).1 = T.setFrames fs) → Steps p.tables e below (T.setTop g) (T.setFrames fs))
    (hc : cells ≤ kc) (hs : slots ≤ ks) (hQ : Qf v T.heap locs) : Go p e below (Qend s Qf kc ks) T g := by
  obtain ⟨fs, hr, hrun, hended, hW, hsame⟩ := X.leave (v := v) hv hlocks
  exact ⟨_, _, st fs hr, hrun, hended, _, _, rfl, hQ, ⟨_, rfl⟩, hW, hsame.mono hc hs⟩
theorem g_iret {Qf : Option Value → Heap → List Loc → Prop} {kc ks : Nat} (X : Stand p l e R s m args below meth c T locs cells slots) (hx : p.tables.exec = Jvm.exec) {z : Int32} (hret : meth.sig.returnType = some .int) (hlocks : meth.locks = false) (hd : decode c.code pc = .ok (.ireturn, 1)) (hc : cells ≤ kc) (hs : slots ≤ ks)
    (hQ : Qf (some (.int z)) T.heap locs) : Go p e below (Qend s Qf kc ks) T (mkF m pc Ls (.int z :: rest)) :=
  own_end X hx _ (fun h => by rw [hret] at h; cases h) hlocks (fun fs hr => retOut X hx hret rfl (Or.inl ⟨rfl, Or.inl rfl, _, rfl⟩) hd hr) hc hs hQ
theorem g_lret {Qf : Option Value → Heap → List Loc → Prop} {kc ks : Nat} (X : Stand p l e R s m args below meth c T locs cells slots) (hx : p.tables.exec = Jvm.exec) {z : Int64} (hret : meth.sig.returnType = some .long) (hlocks : meth.locks = false) (hd : decode c.code pc = .ok (.lreturn, 1)) (hc : cells ≤ kc) (hs : slots ≤ ks)
    (hQ : Qf (some (.long z)) T.heap locs) : Go p e below (Qend s Qf kc ks) T (mkF m pc Ls (.long z :: rest)) :=
  own_end X hx _ (fun h => by rw [hret] at h; cases h) hlocks (fun fs hr => retOut X hx hret rfl (Or.inr (Or.inl ⟨rfl, rfl, _, rfl⟩)) hd hr) hc hs hQ
theorem g_nret {Qf : Option Value → Heap → List Loc → Prop} {kc ks : Nat} (X : Stand p l e R s m args below meth c T locs cells slots) (hx : p.tables.exec = Jvm.exec) {z : Int32} {t : FieldType} (ht : t = .boolean ∨ t = .byte ∨ t = .char ∨ t = .short) (hret : meth.sig.returnType = some t) (hlocks : meth.locks = false) (hd : decode c.code pc = .ok (.ireturn, 1)) (hc : cells ≤ kc) (hs : slots ≤ ks)
    (hQ : Qf (some (.int (nar t z))) T.heap locs) : Go p e below (Qend s Qf kc ks) T (mkF m pc Ls (.int z :: rest)) :=
  own_end X hx _ (fun h => by rw [hret] at h; cases h) hlocks (fun fs hr => retN X hx hret ht hd hr) hc hs hQ
theorem g_aret {Qf : Option Value → Heap → List Loc → Prop} {kc ks : Nat} (X : Stand p l e R s m args below meth c T locs cells slots) (hx : p.tables.exec = Jvm.exec) {w : Value} {t : FieldType} (ht : t.isReference = true) (hw : w.isRef = true) (hn : narrow t w = w) (hret : meth.sig.returnType = some t) (hlocks : meth.locks = false) (hd : decode c.code pc = .ok (.areturn, 1)) (hc : cells ≤ kc) (hs : slots ≤ ks)
    (hQ : Qf (some w) T.heap locs) : Go p e below (Qend s Qf kc ks) T (mkF m pc Ls (w :: rest)) :=
  own_end X hx _ (fun h => by rw [hret] at h; cases h) hlocks (fun fs hr => retOut X hx hret hn (Or.inr (Or.inr (Or.inr (Or.inr ⟨rfl, ht, hw⟩)))) hd hr) hc hs hQ
theorem g_ret0 {Qf : Option Value → Heap → List Loc → Prop} {kc ks : Nat} (X : Stand p l e R s m args below meth c T locs cells slots) (hx : p.tables.exec = Jvm.exec) (hret : meth.sig.returnType = none) (hlocks : meth.locks = false) (hd : decode c.code pc = .ok (.return_, 1)) (hc : cells ≤ kc) (hs : slots ≤ ks)
    (hQ : Qf none T.heap locs) : Go p e below (Qend s Qf kc ks) T (mkF m pc Ls []) :=
  own_end X hx _ (fun _ => rfl) hlocks (fun fs hr => X.returnOut hx hret hd hr) hc hs hQ
/-- from a body's first row -/
theorem own_start {y : MethodName} {bytes : ByteArray} {maxL : Nat} {ret : Option FieldType} {ws : List Jvm.Cond} {rm : Room} {as' : Array Value} {Z : State} {h0 : Heap} {Qf : Option Value → Heap → List Loc → Prop} (hp : plainFor y = true)
    (body : ∀ (p : Program) (e : Env) (s : State) (m : MethodId) (below : List Frame) (meth : Method) (c : Code) (T : State), Stand p l e rm s m as' below meth c T [] 0 0 → p.tables.exec = Jvm.exec → c.code = bytes → c.maxLocals = maxL → s.vm.findClass y.cls = some m.cls →
      meth.name = y.name → meth.sig.returnType = ret → meth.locks = false → Z.Warmed39 s.vm → T.heap = h0 → Go p e below (Qend s Qf rm.cells rm.slots) T (entryFrame m as' maxL)) :
    MetFree l y (head1 (Jvm.Cond.code y bytes maxL ret :: ws) rm) (fun a U => a = as' ∧ Z.Warmed39 U.vm ∧ U.heap = h0) (fun _ _ _ _ _ => True) (fun _ U o U' => ∃ v L, o = .returned v ∧ Qf v U'.heap L ∧ FrameEnd U o U' L rm.cells rm.slots) := by
  refine MetFree.of_bodySF hp hisR ?_
  intro p e s m args below meth c s₁ Bd hml0 hP hK
  obtain ⟨rfl, hZ, hh⟩ := hP
  exact body p e s m below meth c s₁ (Stand.of_body Bd) Bd.exec Bd.bytes hml0 (findClass_of_methodNamed Bd.named) (name_of_methodNamed Bd.named Bd.method).1 Bd.returns Bd.notSynchronized hZ (by rw [← hh, Bd.state]; rfl)
/-- a static call, paid by the callee's own contract -/
theorem g_callS (X : Stand p l e R s m args below meth c T locs cells slots) (hx : p.tables.exec = Jvm.exec) {Z : State} {a0 : Array Value} (hZ : Z.Warmed39 s.vm) {own : String} {index : Nat} {y : MethodName} {bytes : ByteArray} {maxL : Nat} {ret' : Option FieldType} {rm : Room} {Qc : Option Value → Heap → List Loc → Prop} {h : Heap} (pc' : Nat) (argsL : List Value) (rest : List Value) (W : Nat)
    (hown : s.vm.findClass own = some m.cls) (w1 : (Jvm.Cond.methodLink own index y).before a0 Z = true) (w2 : (Jvm.Cond.static y).before a0 Z = true) (w3 : (Jvm.Cond.initialized y.cls).before a0 Z = true) (w4 : (Jvm.Cond.code y bytes maxL ret').before a0 Z = true) (hy : y.cls ≠ "java/lang/invoke/MethodHandle" ∧ y.cls ≠ "java/lang/invoke/VarHandle")
    (eT : T.heap = h)
    (hM : MetFree l y (head1 [Jvm.Cond.code y bytes maxL ret'] rm) (fun a U => a = argsL.toArray ∧ Z.Warmed39 U.vm ∧ U.heap = h) (fun _ _ _ _ _ => True) (fun _ U o U' => ∃ v L, o = .returned v ∧ Qc v U'.heap L ∧ FrameEnd U o U' L rm.cells rm.slots))
    (hf : rm.frames + 1 ≤ R.frames) (hl : W + (maxL + 11) + rm.locals ≤ R.locals) (hcl : cells + rm.cells ≤ R.cells) (hsl : slots + rm.slots ≤ R.slots)
    (hsize : Ls.size = c.maxLocals) {st : List Value} (hstack : st = argsL.reverse ++ rest) {ps : List FieldType} {r : Option FieldType} (hdesc : parseMethodDescriptor y.desc = some ⟨ps, r⟩) (hlen : argsL.length = ps.length) (hW : (rest.map fun v => v.category).sum ≤ W) (hd : decode c.code pc = .ok (.invokestatic index, 3)) (hp : pc + 3 = pc')
    (k : ∀ (v : Option Value) (T' : State) (L : List Loc), Stand p l e R s m args below meth c T' (locs ++ L) (cells + rm.cells) (slots + rm.slots) → Qc v T'.heap L → Go p e below Q T' (mkF m pc' Ls (v.toList ++ rest))) : Go p e below Q T (mkF m pc Ls st) := by
  subst hp hstack
  obtain ⟨v, _, ⟨T', L', k', n'⟩, -, X', ⟨L, hQ, l1, y1, z1⟩, st⟩ := Jvm.LawKit.callS X hx (y := y) hown (mvT hZ w1) (mvT hZ w2) (mvT hZ w3) (mvT hZ w4) hy (backOf (W := W) hM hZ w4 w3 hf hl) (g := mkF m pc Ls (argsL.reverse ++ rest)) rfl hsize (argsL := argsL) (rest := rest) (lenOf hdesc hlen) rfl (by show 2 * 0 + _ ≤ _; omega) hd (fun _ _ => ⟨rfl, eT, hcl, hsl⟩)
  dsimp only [Pt.U, Pt.locs, Pt.cells, Pt.slots] at X' l1 y1 z1 st hQ
  subst l1 y1 z1
  exact Go.step (fun t k => st _ k) (k v T' L X' hQ)
end OwnWalk
section OwnArr
variable {p : Program} {l : Launch} {e : Env} {R : Room} {s : State} {m : MethodId} {args : Array Value} {below : List Frame} {meth : Method} {c : Code} {T : State} {locs : List Loc} {cells slots : Nat} {Q : Outcome → State → Prop} {pc : Nat} {Ls : Array Slot} {rest : List Value} {Z : State} {a0 : Array Value} {h h' : Heap} {a b : Addr} {ty : FieldType} {n : Nat} {f f' : Nat → Value} {ws : List Addr} {sl : Nat} {v : Value}
/-- in heap h the array at a has n places; place i holds f i -/
def AV (Z : State) (h : Heap) (a : Addr) (ty : FieldType) (n : Nat) (f : Nat → Value) : Prop := ∃ c : Cell, Arr Z h a c ty ∧ c.slots.size = n ∧ ∀ i, i < n → c.slots[i]? = some (f i)
theorem AV.lt (F : AV Z h a ty n f) : a < h.size := by obtain ⟨c, A, -⟩ := F; exact A.lt
theorem AV.ext (F : AV Z h a ty n f) (E : Ext h h') : AV Z h' a ty n f := by obtain ⟨c, A, r⟩ := F; exact ⟨c, A.ext E, r⟩
theorem AV.keep (F : AV Z h a ty n f) (K : Keep h h' ws) (q : a ∉ ws) : AV Z h' a ty n f := by obtain ⟨c, A, r⟩ := F; exact ⟨c, ⟨K.2.1 a c A.1 q, A.2⟩, r⟩
theorem AV.other (F : AV Z h b ty n f) (W : Wr h h' a sl v) (q : b ≠ a) : AV Z h' b ty n f := by obtain ⟨c, A, r⟩ := F; exact ⟨c, A.other W q, r⟩
theorem AV.set (F : AV Z h a ty n f) (W : Wr h h' a sl v) : AV Z h' a ty n (fun i => if i = sl then v else f i) := by
  obtain ⟨c, A, S, H⟩ := F
  refine ⟨c.setSlot sl v, A.same W, by rw [sz_set]; exact S, fun i hi => ?_⟩
  by_cases q : i = sl
  · subst q
    simp [Cell.setSlot, S, hi]
  · show (c.slots.setIfInBounds sl v)[i]? = some (if i = sl then v else f i)
    rw [Array.getElem?_setIfInBounds_ne (Ne.symm q), if_neg q]
    exact H i hi
theorem AV.congr (F : AV Z h a ty n f) (q : ∀ i, i < n → f i = f' i) : AV Z h a ty n f' := by obtain ⟨c, A, S, H⟩ := F; exact ⟨c, A, S, fun i hi => by rw [← q i hi]; exact H i hi⟩
theorem own_ix {j : Int32} {i : Nat} (hi : j.toInt = i) : j.toNatClampNeg = i := by show j.toInt.toNat = i; omega
theorem own_nn {j : Int32} {i : Nat} (hi : j.toInt = i) : ¬ j < 0 := by rw [Int32.lt_iff_toInt_lt, hi]; show ¬ (i : Int) < 0; omega
theorem own_in {c : Cell} {j : Int32} {i : Nat} (S : c.slots.size = n) (hi : j.toInt = i) (hin : i < n) : ¬ (j < 0 ∨ c.slots.size ≤ j.toNatClampNeg) := by
  rw [own_ix hi, S]; exact fun q => q.elim (own_nn hi) (fun q => by omega)
theorem g_newarr (X : Stand p l e R s m args below meth c T locs cells slots) (hx : p.tables.exec = Jvm.exec) (hZ : Z.Warmed39 s.vm) {aty : ArrayType} (pc' : Nat) (w : (Jvm.Cond.arrayClass (newarray.typeOf aty)).before a0 Z = true) (eT : T.heap = h) {z : Int32} (hd : decode c.code pc = .ok (.newarray aty, 2)) (nn : Nat) (hn : z.toInt = nn) (cap : Nat) (hcap : nn ≤ cap) (hb8 : cap * 8 ≤ 536870912) (hc : cells + 1 ≤ R.cells) (hl : slots + cap ≤ R.slots) (hp : pc + 2 = pc')
    (k : ∀ (T' : State) (a : Addr), Stand p l e R s m args below meth c T' locs (cells + 1) (slots + cap) → Ext h T'.heap → a = h.size → AV Z T'.heap a (newarray.typeOf aty) nn (fun _ => defaultValue (newarray.typeOf aty)) → Go p e below Q T' (mkF m pc' Ls (.ref a :: rest))) : Go p e below Q T (mkF m pc Ls (.int z :: rest)) := by
  subst hp
  obtain ⟨T', h', cA, X', e', E, A, st⟩ := newP X hx hZ w eT (g := mkF m pc Ls (.int z :: rest)) rfl hd rfl (own_nn hn) (cap := cap) (by rw [own_ix hn]; exact hcap) hb8 hc hl
  subst e'
  refine Go.step (fun t k => st t k) (k T' _ X' E rfl ⟨_, A, by rw [sz_new, own_ix hn], fun i hi => ?_⟩)
  simp [newA, own_ix hn, hi]
theorem g_arrlen (X : Stand p l e R s m args below meth c T locs cells slots) (hx : p.tables.exec = Jvm.exec) (hZ : Z.Warmed39 s.vm) (pc' : Nat) (eT : T.heap = h) (F : AV Z h a ty n f) (z : Int32) (hz : z.toInt = n) (hd : decode c.code pc = .ok (.arraylength, 1)) (hp : pc + 1 = pc')
    (k : Go p e below Q T (mkF m pc' Ls (.int z :: rest))) : Go p e below Q T (mkF m pc Ls (.ref a :: rest)) := by
  subst hp
  obtain ⟨cl, A, S, H⟩ := F
  have q : cl.slots.size.toInt32 = z := len_of (by rw [own_ix hz]; exact S) (own_nn hz)
  rw [← q] at k
  have st := X.arraylength hx (cell := cl) (ty := ty) (by rw [eT]; exact A.1) (State.isArrayOf_alike hZ.alike A.2.1) (g := mkF m pc Ls (.ref a :: rest)) rfl rfl hd
  exact Go.step (fun t k => st t k) k
theorem g_bastore (X : Stand p l e R s m args below meth c T locs cells slots) (hx : p.tables.exec = Jvm.exec) (hZ : Z.Warmed39 s.vm) (pc' : Nat) (eT : T.heap = h) (F : AV Z h a .byte n f) {j : Int32} {x : Int32} (hd : decode c.code pc = .ok (.bastore, 1)) (i : Nat) (hi : j.toInt = i) (hin : i < n) (hp : pc + 1 = pc')
    (k : ∀ (T' : State), Stand p l e R s m args below meth c T' (locs ++ [⟨a, i⟩]) cells slots → Wr h T'.heap a i (.int (nar .byte x)) → AV Z T'.heap a .byte n (fun q => if q = i then .int (nar .byte x) else f q) → Go p e below Q T' (mkF m pc' Ls rest)) : Go p e below Q T (mkF m pc Ls (.int x :: .int j :: .ref a :: rest)) := by
  subst hp
  obtain ⟨cl, A, S, H⟩ := F
  obtain ⟨T', h', X', e', W, st⟩ := stB X hx hZ eT A (own_in S hi hin) (g := mkF m pc Ls (.int x :: .int j :: .ref a :: rest)) rfl rfl hd
  subst e'
  rw [own_ix hi] at X' W
  exact Go.step (fun t k => st t k) (k T' X' W (AV.set ⟨cl, A, S, H⟩ W))
theorem g_iastore (X : Stand p l e R s m args below meth c T locs cells slots) (hx : p.tables.exec = Jvm.exec) (hZ : Z.Warmed39 s.vm) (pc' : Nat) (eT : T.heap = h) (F : AV Z h a .int n f) {j : Int32} {x : Int32} (hd : decode c.code pc = .ok (.iastore, 1)) (i : Nat) (hi : j.toInt = i) (hin : i < n) (hp : pc + 1 = pc')
    (k : ∀ (T' : State), Stand p l e R s m args below meth c T' (locs ++ [⟨a, i⟩]) cells slots → Wr h T'.heap a i (.int x) → AV Z T'.heap a .int n (fun q => if q = i then .int x else f q) → Go p e below Q T' (mkF m pc' Ls rest)) : Go p e below Q T (mkF m pc Ls (.int x :: .int j :: .ref a :: rest)) := by
  subst hp
  obtain ⟨cl, A, S, H⟩ := F
  obtain ⟨T', h', X', e', W, st⟩ := stI X hx hZ eT A (own_in S hi hin) (g := mkF m pc Ls (.int x :: .int j :: .ref a :: rest)) rfl rfl hd
  subst e'
  rw [own_ix hi] at X' W
  exact Go.step (fun t k => st t k) (k T' X' W (AV.set ⟨cl, A, S, H⟩ W))
theorem g_lastore (X : Stand p l e R s m args below meth c T locs cells slots) (hx : p.tables.exec = Jvm.exec) (hZ : Z.Warmed39 s.vm) (pc' : Nat) (eT : T.heap = h) (F : AV Z h a .long n f) {j : Int32} {x : Int64} (hd : decode c.code pc = .ok (.lastore, 1)) (i : Nat) (hi : j.toInt = i) (hin : i < n) (hp : pc + 1 = pc')
    (k : ∀ (T' : State), Stand p l e R s m args below meth c T' (locs ++ [⟨a, i⟩]) cells slots → Wr h T'.heap a i (.long x) → AV Z T'.heap a .long n (fun q => if q = i then .long x else f q) → Go p e below Q T' (mkF m pc' Ls rest)) : Go p e below Q T (mkF m pc Ls (.long x :: .int j :: .ref a :: rest)) := by
  subst hp
  obtain ⟨cl, A, S, H⟩ := F
  obtain ⟨T', h', X', e', W, st⟩ := stJ X hx hZ eT A (own_in S hi hin) (g := mkF m pc Ls (.long x :: .int j :: .ref a :: rest)) rfl rfl hd
  subst e'
  rw [own_ix hi] at X' W
  exact Go.step (fun t k => st t k) (k T' X' W (AV.set ⟨cl, A, S, H⟩ W))
theorem g_baload (X : Stand p l e R s m args below meth c T locs cells slots) (hx : p.tables.exec = Jvm.exec) (hZ : Z.Warmed39 s.vm) (pc' : Nat) (eT : T.heap = h) (F : AV Z h a .byte n f) {j : Int32} (hd : decode c.code pc = .ok (.baload, 1)) (i : Nat) (hi : j.toInt = i) (hin : i < n) (v : Value) (hv : f i = v) (hp : pc + 1 = pc')
    (k : Go p e below Q T (mkF m pc' Ls (v :: rest))) : Go p e below Q T (mkF m pc Ls (.int j :: .ref a :: rest)) := by
  subst hp hv
  obtain ⟨cl, A, S, H⟩ := F
  have st := X.baloadBytes hx (cell := cl) (j := j) (v := f i) (by rw [eT]; exact A.1) (State.isArrayOf_alike hZ.alike A.2.1) A.2.2 (own_in S hi hin) (by rw [own_ix hi]; exact H i hin) (g := mkF m pc Ls (.int j :: .ref a :: rest)) rfl rfl hd
  exact Go.step (fun t k => st t k) k
theorem g_iaload (X : Stand p l e R s m args below meth c T locs cells slots) (hx : p.tables.exec = Jvm.exec) (hZ : Z.Warmed39 s.vm) (pc' : Nat) (eT : T.heap = h) (F : AV Z h a .int n f) {j : Int32} (hd : decode c.code pc = .ok (.iaload, 1)) (i : Nat) (hi : j.toInt = i) (hin : i < n) (v : Value) (hv : f i = v) (hp : pc + 1 = pc')
    (k : Go p e below Q T (mkF m pc' Ls (v :: rest))) : Go p e below Q T (mkF m pc Ls (.int j :: .ref a :: rest)) := by
  subst hp hv
  obtain ⟨cl, A, S, H⟩ := F
  have st := X.iaload hx (cell := cl) (j := j) (v := f i) (by rw [eT]; exact A.1) (State.isArrayOf_alike hZ.alike A.2.1) A.2.2 (own_in S hi hin) (by rw [own_ix hi]; exact H i hin) (g := mkF m pc Ls (.int j :: .ref a :: rest)) rfl rfl hd
  exact Go.step (fun t k => st t k) k
theorem g_laload (X : Stand p l e R s m args below meth c T locs cells slots) (hx : p.tables.exec = Jvm.exec) (hZ : Z.Warmed39 s.vm) (pc' : Nat) (eT : T.heap = h) (F : AV Z h a .long n f) {j : Int32} (hd : decode c.code pc = .ok (.laload, 1)) (i : Nat) (hi : j.toInt = i) (hin : i < n) (v : Value) (hv : f i = v) (hp : pc + 1 = pc')
    (k : Go p e below Q T (mkF m pc' Ls (v :: rest))) : Go p e below Q T (mkF m pc Ls (.int j :: .ref a :: rest)) := by
  subst hp hv
  obtain ⟨cl, A, S, H⟩ := F
  have st := X.laload hx (cell := cl) (j := j) (v := f i) (by rw [eT]; exact A.1) (State.isArrayOf_alike hZ.alike A.2.1) A.2.2 (own_in S hi hin) (by rw [own_ix hi]; exact H i hin) (g := mkF m pc Ls (.int j :: .ref a :: rest)) rfl rfl hd
  exact Go.step (fun t k => st t k) k
end OwnArr
section OwnCopy
variable {p : Program} {l : Launch} {e : Env} {R : Room} {s : State} {m : MethodId} {args : Array Value} {below : List Frame} {meth : Method} {c : Code} {T : State} {locs : List Loc} {cells slots : Nat} {Q : Outcome → State → Prop} {pc : Nat} {Ls : Array Slot} {rest : List Value} {Z : State} {a0 : Array Value} {h h' : Heap} {a b : Addr} {ty : FieldType} {own : String} {index : Nat}
theorem AV.arv {n : Nat} {f : Nat → Value} (F : AV Z h a ty n f) (dv : Value) (hn : n < 2 ^ 31) (hf : ∀ i, i < n → fits ty (f i) = true) : ∃ k, Arv Z h a k ty (Int32.ofNat n) ((List.range n).map f) dv := by
  obtain ⟨cl, A, S, H⟩ := F
  have e : (Int32.ofNat n).toInt = n := Int32.toInt_ofNat_of_lt hn
  have g : ∀ i, i < n → ((List.range n).map f).getD i dv = f i := fun i hi => by simp [List.getD, hi]
  refine ⟨cl.cls, cl, A, rfl, by rw [own_ix e]; exact S, own_nn e, fun i hi => ?_, fun i hi => ?_⟩
  · rw [S] at hi; rw [g i hi]; exact H i hi
  · rw [S] at hi; rw [g i hi]; exact hf i hi
theorem g_copy (X : Stand p l e R s m args below meth c T locs cells slots) (hx : p.tables.exec = Jvm.exec) (hZ : Z.Warmed39 s.vm) (pc' : Nat) (W : Nat) {n n' : Nat} {f f' : Nat → Value} {n0 : Nat} {sp dp nn : Int32} (i j q : Nat) (hown : s.vm.findClass own = some m.cls)
    (w1 : (Jvm.Cond.methodLink own index Jvm.Stand.acN).before a0 Z = true) (w2 : (Jvm.Cond.native Jvm.Stand.acN).before a0 Z = true) (w3 : (Jvm.Cond.static Jvm.Stand.acN).before a0 Z = true) (w4 : (Jvm.Cond.initialized "java/lang/System").before a0 Z = true) (eT : T.heap = h)
    (A : AV Z h a ty n f) (B : AV Z h b ty n' f') (hr : refKind ty = false) (fa : ∀ i, i < n → fits ty (f i) = true) (fb : ∀ i, i < n' → fits ty (f' i) = true) (hn : n < 2 ^ 31) (hn' : n' < 2 ^ 31) (hi : sp.toInt = i) (hj : dp.toInt = j) (hq : nn.toInt = q) (h4 : i + q ≤ n) (h5 : j + q ≤ n') (N : Fr n0 locs) (ge : n0 ≤ b)
    (hsize : Ls.size = c.maxLocals) (hd : decode c.code pc = .ok (.invokestatic index, 3)) (hf : 1 ≤ R.frames) (hW : (rest.map fun v => v.category).sum ≤ W) (hlo : W + (nativeFrameWords "java/lang/System" "arraycopy" 5 + 11) ≤ R.locals) (hp : pc + 3 = pc')
    (k : ∀ (T' : State) (L : List Loc), Stand p l e R s m args below meth c T' L cells slots → Fr n0 L → Keep h T'.heap [b] → AV Z T'.heap b ty n' (fun x => if j ≤ x ∧ x < j + q then f (i + (x - j)) else f' x) → Go p e below Q T' (mkF m pc' Ls rest)) :
    Go p e below Q T (mkF m pc Ls (.int nn :: .int dp :: .ref b :: .int sp :: .ref a :: rest)) := by
  subst hp
  obtain ⟨k1, A'⟩ := A.arv .null hn fa
  obtain ⟨k2, B'⟩ := B.arv .null hn' fb
  have en : (Int32.ofNat n).toInt = n := Int32.toInt_ofNat_of_lt hn
  have en' : (Int32.ofNat n').toInt = n' := Int32.toInt_ofNat_of_lt hn'
  obtain ⟨T', h', L, X', e', N', K, B2, st⟩ := cpA X hx hZ hown w1 w2 w3 w4 eT A' B' (Or.inl ⟨rfl, hr⟩) (own_nn hi) (own_nn hj) (own_nn hq) (by rw [own_ix hi, own_ix hq, own_ix en]; exact h4) (by rw [own_ix hj, own_ix hq, own_ix en']; exact h5) rfl (by rw [own_ix hj, own_ix hq]; simpa using h5) N ge (g := mkF m pc Ls (.int nn :: .int dp :: .ref b :: .int sp :: .ref a :: rest)) rfl hsize rfl hd hf (W := W) (by show 2 * 0 + _ ≤ _; omega) hlo
  subst e'
  refine Go.step (fun t k => st t k) (k T' L X' N' K ?_)
  obtain ⟨cl, Ac, -, S, -, H, -⟩ := B2
  rw [own_ix en'] at S
  refine ⟨cl, Ac, S, fun x hx => ?_⟩
  have hx' : x < cl.slots.size := by rw [S]; exact hx
  rw [H x hx', own_ix hj, own_ix hq, own_ix hi]
  congr 1
  simp only [List.getD_eq_getElem?_getD, List.getElem?_append, List.length_append, List.length_take, List.length_map, List.length_range, List.getElem?_take, List.getElem?_drop, List.getElem?_map]
  have m1 : min j n' = j := by omega
  rw [m1]
  by_cases c1 : x < j
  · have d1 : x < j + q := by omega
    rw [if_neg (show ¬ (j ≤ x ∧ x < j + q) by omega)]
    simp [c1, d1, hx]
  · by_cases c2 : x < j + q
    · have e1 : i + (x - j) < n := by omega
      have e2 : x - j < q := by omega
      rw [if_pos (show j ≤ x ∧ x < j + q by omega)]
      simp [c1, c2, e1, e2]
    · have e1 : j + q + (x - (j + q)) = x := by omega
      rw [if_neg (show ¬ (j ≤ x ∧ x < j + q) by omega)]
      simp [c2, e1, hx]
end OwnCopy
section OwnObj
variable {p : Program} {l : Launch} {e : Env} {R : Room} {s : State} {m : MethodId} {args : Array Value} {below : List Frame} {meth : Method} {c : Code} {T : State} {locs : List Loc} {cells slots : Nat} {Q : Outcome → State → Prop} {pc : Nat} {Ls : Array Slot} {rest : List Value} {Z : State} {a0 : Array Value} {h h' : Heap} {a : Addr} {v : Value} {own C O fn fd : String} {index kk : Nat}
theorem g_new (X : Stand p l e R s m args below meth c T locs cells slots) (hx : p.tables.exec = Jvm.exec) (hZ : Z.Warmed39 s.vm) (pc' : Nat) (hown : s.vm.findClass own = some m.cls) (w : (Jvm.Cond.classLink own index C).before a0 Z = true) (wi : (Jvm.Cond.instantiable C kk).before a0 Z = true) (wz : (Jvm.Cond.initialized C).before a0 Z = true) (eT : T.heap = h) (hd : decode c.code pc = .ok (.new index, 3)) (hc : cells + 1 ≤ R.cells) (hl : slots + kk ≤ R.slots) (hp : pc + 3 = pc')
    (k : ∀ (T' : State) (a : Addr), Stand p l e R s m args below meth c T' locs (cells + 1) (slots + kk) → Ext h T'.heap → a = h.size → Exa Z T'.heap a C → (∀ {O nm d : String} {ty : FieldType}, Laid Z a0 C O nm d → parseFieldDescriptor d = some ty → Fld Z T'.heap a O nm d (defaultValue ty)) → Go p e below Q T' (mkF m pc' Ls (.ref a :: rest))) : Go p e below Q T (mkF m pc Ls rest) := by
  subst hp
  obtain ⟨T', h', X', e', E, A, D, -, st⟩ := newO X hx hZ hown w wi wz eT (g := mkF m pc Ls rest) rfl hd hc hl
  subst e'
  exact Go.step (fun t k => st t k) (k T' _ X' E rfl A D)
theorem g_initO (X : Stand p l e R s m args below meth c T locs cells slots) (hx : p.tables.exec = Jvm.exec) (hZ : Z.Warmed39 s.vm) (pc' : Nat) (W : Nat) (hown : s.vm.findClass own = some m.cls) (w1 : (Jvm.Cond.methodLink own index Lib.objectInit).before a0 Z = true) (w2 : (Jvm.Cond.instanceMethod Lib.objectInit).before a0 Z = true) (w3 : (Jvm.Cond.code Lib.objectInit ⟨#[0xb1]⟩ 1 none).before a0 Z = true) (eT : T.heap = h) (hsize : Ls.size = c.maxLocals) (hd : decode c.code pc = .ok (.invokespecial index, 3)) (hf : 1 ≤ R.frames) (hW : (rest.map fun v => v.category).sum ≤ W) (hl : W + 12 ≤ R.locals) (hp : pc + 3 = pc')
    (k : ∀ (T' : State), Stand p l e R s m args below meth c T' locs cells slots → T'.heap = h → Go p e below Q T' (mkF m pc' Ls rest)) : Go p e below Q T (mkF m pc Ls (.ref a :: rest)) := by
  subst hp
  obtain ⟨T', X', e', st⟩ := initO X hx hZ hown w1 w2 w3 eT (g := mkF m pc Ls (.ref a :: rest)) rfl hsize rfl hd hf (W := W) (by show 2 * 0 + _ ≤ _; omega) hl
  exact Go.step (fun t k => st t k) (k T' X' e')
theorem g_putF (X : Stand p l e R s m args below meth c T locs cells slots) (hx : p.tables.exec = Jvm.exec) (hZ : Z.Warmed39 s.vm) (pc' : Nat) {ty : FieldType} {old : Value} (hown : s.vm.findClass own = some m.cls) (w : (Jvm.Cond.fieldLink own index O fn fd).before a0 Z = true) (eT : T.heap = h) (F : Fld Z h a O fn fd old) (E : Exa Z h a C) (L : (Jvm.Cond.lays C O fn fd).before a0 Z = true ∨ ((Jvm.Cond.laysFinal C O fn fd).before a0 Z = true ∧ own = O ∧ meth.name = "<init>")) (wi : (Jvm.Cond.instantiable C kk).before a0 Z = true)
    (hty : parseFieldDescriptor fd = some ty) (hn : narrow ty v = v) (hf : fits ty v = true) (hd : decode c.code pc = .ok (.putfield index, 3)) (hp : pc + 3 = pc')
    (k : ∀ (T' : State), Stand p l e R s m args below meth c T' (locs ++ [⟨a, Jvm.RoadKit.slotOf Z O fn fd⟩]) cells slots → Wr h T'.heap a (Jvm.RoadKit.slotOf Z O fn fd) v → Go p e below Q T' (mkF m pc' Ls rest)) : Go p e below Q T (mkF m pc Ls (v :: .ref a :: rest)) := by
  subst hp
  obtain ⟨T', h', X', e', W, st⟩ := putF X hx hZ hown (host := "") (Or.inl w) Via.refl eT F E L wi hty hn hf (g := mkF m pc Ls (v :: .ref a :: rest)) rfl rfl hd
  subst e'
  exact Go.step (fun t k => st t k) (k T' X' W)
theorem g_getF (X : Stand p l e R s m args below meth c T locs cells slots) (hx : p.tables.exec = Jvm.exec) (hZ : Z.Warmed39 s.vm) (pc' : Nat) (hown : s.vm.findClass own = some m.cls) (w : (Jvm.Cond.fieldLink own index O fn fd).before a0 Z = true) (eT : T.heap = h) (F : Fld Z h a O fn fd v) (hd : decode c.code pc = .ok (.getfield index, 3)) (hp : pc + 3 = pc')
    (k : ∀ (T' : State), Stand p l e R s m args below meth c T' locs cells slots → T'.heap = h → Go p e below Q T' (mkF m pc' Ls (v :: rest))) : Go p e below Q T (mkF m pc Ls (.ref a :: rest)) := by
  subst hp
  obtain ⟨T', X', e', st⟩ := getF X hx hZ hown (host := "") (Or.inl w) Via.refl eT F (g := mkF m pc Ls (.ref a :: rest)) rfl rfl hd
  exact Go.step (fun t k => st t k) (k T' X' e')
/-- a constructor, paid by its contract -/
theorem g_special (X : Stand p l e R s m args below meth c T locs cells slots) (hx : p.tables.exec = Jvm.exec) (hZ : Z.Warmed39 s.vm) {y : MethodName} {bytes : ByteArray} {maxL : Nat} {rm : Room} {Qc : Option Value → Heap → List Loc → Prop} (pc' : Nat) (a : Addr) (argsL : List Value) (rest : List Value) (W : Nat) (hy1 : y.name = "<init>")
    (hown : s.vm.findClass own = some m.cls) (w1 : (Jvm.Cond.methodLink own index y).before a0 Z = true) (w2 : (Jvm.Cond.instanceMethod y).before a0 Z = true) (w3 : (Jvm.Cond.initialized y.cls).before a0 Z = true) (w4 : (Jvm.Cond.code y bytes maxL none).before a0 Z = true) (hy : y.cls ≠ "java/lang/invoke/MethodHandle" ∧ y.cls ≠ "java/lang/invoke/VarHandle")
    (eT : T.heap = h)
    (hM : MetFree l y (head1 [Jvm.Cond.code y bytes maxL none] rm) (fun a' U => a' = (Value.ref a :: argsL).toArray ∧ Z.Warmed39 U.vm ∧ U.heap = h) (fun _ _ _ _ _ => True) (fun _ U o U' => ∃ v L, o = .returned v ∧ Qc v U'.heap L ∧ FrameEnd U o U' L rm.cells rm.slots))
    (hf : rm.frames + 1 ≤ R.frames) (hl : W + (maxL + 11) + rm.locals ≤ R.locals) (hcl : cells + rm.cells ≤ R.cells) (hsl : slots + rm.slots ≤ R.slots)
    (hsize : Ls.size = c.maxLocals) {st : List Value} (hstack : st = argsL.reverse ++ .ref a :: rest) {ps : List FieldType} {r : Option FieldType} (hdesc : parseMethodDescriptor y.desc = some ⟨ps, r⟩) (hlen : argsL.length = ps.length) (hW : (rest.map fun v => v.category).sum ≤ W) (hd : decode c.code pc = .ok (.invokespecial index, 3)) (hp : pc + 3 = pc')
    (k : ∀ (v : Option Value) (T' : State) (L : List Loc), Stand p l e R s m args below meth c T' (locs ++ L) (cells + rm.cells) (slots + rm.slots) → Qc v T'.heap L → Go p e below Q T' (mkF m pc' Ls (v.toList ++ rest))) : Go p e below Q T (mkF m pc Ls st) := by
  subst hp hstack
  obtain ⟨v, _, ⟨T', L', k', n'⟩, -, X', ⟨L, hQ, l1, y1, z1⟩, st⟩ := X.specialBack hx (y := y) hy1 hown (mvT hZ w1) (mvT hZ w2) (mvT hZ w4) hy (backOf (W := W) hM hZ w4 w3 hf hl) (g := mkF m pc Ls (argsL.reverse ++ .ref a :: rest)) rfl hsize (Steps.refl _) (a := a) (argsL := argsL) (rest := rest) (lenOf hdesc hlen) rfl (by show 2 * 0 + _ ≤ _; omega) hd (fun _ _ => ⟨rfl, eT, hcl, hsl⟩)
  dsimp only [Pt.U, Pt.locs, Pt.cells, Pt.slots] at X' l1 y1 z1 st hQ
  subst l1 y1 z1
  exact Go.step (fun t k => st.trans k) (k v T' L X' hQ)
/-- an instance method, paid by its contract -/
theorem g_virtual (X : Stand p l e R s m args below meth c T locs cells slots) (hx : p.tables.exec = Jvm.exec) (hZ : Z.Warmed39 s.vm) {y : MethodName} {bytes : ByteArray} {maxL : Nat} {ret' : Option FieldType} {rm : Room} {Qc : Option Value → Heap → List Loc → Prop} (pc' : Nat) (a : Addr) (argsL : List Value) (rest : List Value) (W : Nat) (E : Exa Z h a C)
    (hown : s.vm.findClass own = some m.cls) (w1 : (Jvm.Cond.methodLink own index y).before a0 Z = true) (w2 : (Jvm.Cond.declares y).before a0 Z = true) (w5 : (Jvm.Cond.selects C y y).before a0 Z = true) (w6 : (Jvm.Cond.instanceMethod y).before a0 Z = true) (w3 : (Jvm.Cond.initialized y.cls).before a0 Z = true) (w4 : (Jvm.Cond.code y bytes maxL ret').before a0 Z = true) (hy : y.cls ≠ "java/lang/invoke/MethodHandle" ∧ y.cls ≠ "java/lang/invoke/VarHandle")
    (eT : T.heap = h)
    (hM : MetFree l y (head1 [Jvm.Cond.code y bytes maxL ret'] rm) (fun a' U => a' = (Value.ref a :: argsL).toArray ∧ Z.Warmed39 U.vm ∧ U.heap = h) (fun _ _ _ _ _ => True) (fun _ U o U' => ∃ v L, o = .returned v ∧ Qc v U'.heap L ∧ FrameEnd U o U' L rm.cells rm.slots))
    (hf : rm.frames + 1 ≤ R.frames) (hl : W + (maxL + 11) + rm.locals ≤ R.locals) (hcl : cells + rm.cells ≤ R.cells) (hsl : slots + rm.slots ≤ R.slots)
    (hsize : Ls.size = c.maxLocals) {st : List Value} (hstack : st = argsL.reverse ++ .ref a :: rest) {ps : List FieldType} {r : Option FieldType} (hdesc : parseMethodDescriptor y.desc = some ⟨ps, r⟩) (hlen : argsL.length = ps.length) (hW : (rest.map fun v => v.category).sum ≤ W) (hd : decode c.code pc = .ok (.invokevirtual index, 3)) (hp : pc + 3 = pc')
    (k : ∀ (v : Option Value) (T' : State) (L : List Loc), Stand p l e R s m args below meth c T' (locs ++ L) (cells + rm.cells) (slots + rm.slots) → Qc v T'.heap L → Go p e below Q T' (mkF m pc' Ls (v.toList ++ rest))) : Go p e below Q T (mkF m pc Ls st) := by
  subst hp hstack
  obtain ⟨cB, kB, q1, q2, q3⟩ := isOf (T := T) hZ eT E
  obtain ⟨v, _, ⟨T', L', k', n'⟩, -, X', ⟨L, hQ, l1, y1, z1⟩, st⟩ := X.virtualBack hx (y := y) (z := y) hown (mvT hZ w1) (mvT hZ w2) (notFace_of_selects (args := #[]) (mvT hZ w5)) (mvT hZ w5) (mvT hZ w6) hy (backOf (W := W) hM hZ w4 w3 hf hl) q1 q3 (g := mkF m pc Ls (argsL.reverse ++ .ref a :: rest)) rfl hsize (Steps.refl _) (argsL := argsL) (rest := rest) (lenOf hdesc hlen) rfl (by show 2 * 0 + _ ≤ _; omega) hd (fun _ _ => ⟨rfl, eT, hcl, hsl⟩)
  dsimp only [Pt.U, Pt.locs, Pt.cells, Pt.slots] at X' l1 y1 z1 st hQ
  subst l1 y1 z1
  exact Go.step (fun t k => st.trans k) (k v T' L X' hQ)
end OwnObj

theorem d1_0 : decode prog_31_method_1_code 0 = .ok (.aload_n 0, 1) := by decide +kernel
theorem d1_1 : decode prog_31_method_1_code 1 = .ok (.invokespecial 1, 3) := by decide +kernel
theorem d1_4 : decode prog_31_method_1_code 4 = .ok (.aload_n 0, 1) := by decide +kernel
theorem d1_5 : decode prog_31_method_1_code 5 = .ok (.bipush 8, 2) := by decide +kernel
theorem d1_7 : decode prog_31_method_1_code 7 = .ok (.newarray .int, 2) := by decide +kernel
theorem d1_9 : decode prog_31_method_1_code 9 = .ok (.putfield 7, 3) := by decide +kernel
theorem d1_12 : decode prog_31_method_1_code 12 = .ok (.return_, 1) := by decide +kernel
theorem d3_0 : decode prog_31_method_3_code 0 = .ok (.iload_n 3, 1) := by decide +kernel
theorem d3_1 : decode prog_31_method_3_code 1 = .ok (.iload_n 2, 1) := by decide +kernel
theorem d3_2 : decode prog_31_method_3_code 2 = .ok (.isub, 1) := by decide +kernel
theorem d3_3 : decode prog_31_method_3_code 3 = .ok (.istore 4, 2) := by decide +kernel
theorem d3_5 : decode prog_31_method_3_code 5 = .ok (.aload_n 0, 1) := by decide +kernel
theorem d3_6 : decode prog_31_method_3_code 6 = .ok (.getfield 13, 3) := by decide +kernel
theorem d3_9 : decode prog_31_method_3_code 9 = .ok (.iload 4, 2) := by decide +kernel
theorem d3_11 : decode prog_31_method_3_code 11 = .ok (.iadd, 1) := by decide +kernel
theorem d3_12 : decode prog_31_method_3_code 12 = .ok (.aload_n 0, 1) := by decide +kernel
theorem d3_13 : decode prog_31_method_3_code 13 = .ok (.getfield 7, 3) := by decide +kernel
theorem d3_16 : decode prog_31_method_3_code 16 = .ok (.arraylength, 1) := by decide +kernel
theorem d3_17 : decode prog_31_method_3_code 17 = .ok (.if_icmp .le 31, 3) := by decide +kernel
theorem d3_20 : decode prog_31_method_3_code 20 = .ok (.aload_n 0, 1) := by decide +kernel
theorem d3_21 : decode prog_31_method_3_code 21 = .ok (.aload_n 0, 1) := by decide +kernel
theorem d3_22 : decode prog_31_method_3_code 22 = .ok (.getfield 7, 3) := by decide +kernel
theorem d3_25 : decode prog_31_method_3_code 25 = .ok (.iconst 2, 1) := by decide +kernel
theorem d3_26 : decode prog_31_method_3_code 26 = .ok (.aload_n 0, 1) := by decide +kernel
theorem d3_27 : decode prog_31_method_3_code 27 = .ok (.getfield 7, 3) := by decide +kernel
theorem d3_30 : decode prog_31_method_3_code 30 = .ok (.arraylength, 1) := by decide +kernel
theorem d3_31 : decode prog_31_method_3_code 31 = .ok (.imul, 1) := by decide +kernel
theorem d3_32 : decode prog_31_method_3_code 32 = .ok (.aload_n 0, 1) := by decide +kernel
theorem d3_33 : decode prog_31_method_3_code 33 = .ok (.getfield 13, 3) := by decide +kernel
theorem d3_36 : decode prog_31_method_3_code 36 = .ok (.iload 4, 2) := by decide +kernel
theorem d3_38 : decode prog_31_method_3_code 38 = .ok (.iadd, 1) := by decide +kernel
theorem d3_39 : decode prog_31_method_3_code 39 = .ok (.invokestatic 23, 3) := by decide +kernel
theorem d3_42 : decode prog_31_method_3_code 42 = .ok (.invokestatic 17, 3) := by decide +kernel
theorem d3_45 : decode prog_31_method_3_code 45 = .ok (.putfield 7, 3) := by decide +kernel
theorem d3_48 : decode prog_31_method_3_code 48 = .ok (.aload_n 1, 1) := by decide +kernel
theorem d3_49 : decode prog_31_method_3_code 49 = .ok (.iload_n 2, 1) := by decide +kernel
theorem d3_50 : decode prog_31_method_3_code 50 = .ok (.aload_n 0, 1) := by decide +kernel
theorem d3_51 : decode prog_31_method_3_code 51 = .ok (.getfield 7, 3) := by decide +kernel
theorem d3_54 : decode prog_31_method_3_code 54 = .ok (.aload_n 0, 1) := by decide +kernel
theorem d3_55 : decode prog_31_method_3_code 55 = .ok (.getfield 13, 3) := by decide +kernel
theorem d3_58 : decode prog_31_method_3_code 58 = .ok (.iload 4, 2) := by decide +kernel
theorem d3_60 : decode prog_31_method_3_code 60 = .ok (.invokestatic 29, 3) := by decide +kernel
theorem d3_63 : decode prog_31_method_3_code 63 = .ok (.aload_n 0, 1) := by decide +kernel
theorem d3_64 : decode prog_31_method_3_code 64 = .ok (.dup, 1) := by decide +kernel
theorem d3_65 : decode prog_31_method_3_code 65 = .ok (.getfield 13, 3) := by decide +kernel
theorem d3_68 : decode prog_31_method_3_code 68 = .ok (.iload 4, 2) := by decide +kernel
theorem d3_70 : decode prog_31_method_3_code 70 = .ok (.iadd, 1) := by decide +kernel
theorem d3_71 : decode prog_31_method_3_code 71 = .ok (.putfield 13, 3) := by decide +kernel
theorem d3_74 : decode prog_31_method_3_code 74 = .ok (.return_, 1) := by decide +kernel
theorem d4_0 : decode prog_31_method_6_code 0 = .ok (.aload_n 0, 1) := by decide +kernel
theorem d4_1 : decode prog_31_method_6_code 1 = .ok (.getfield 13, 3) := by decide +kernel
theorem d4_4 : decode prog_31_method_6_code 4 = .ok (.newarray .int, 2) := by decide +kernel
theorem d4_6 : decode prog_31_method_6_code 6 = .ok (.astore_n 1, 1) := by decide +kernel
theorem d4_7 : decode prog_31_method_6_code 7 = .ok (.iconst 0, 1) := by decide +kernel
theorem d4_8 : decode prog_31_method_6_code 8 = .ok (.istore_n 2, 1) := by decide +kernel
theorem d4_9 : decode prog_31_method_6_code 9 = .ok (.iload_n 2, 1) := by decide +kernel
theorem d4_10 : decode prog_31_method_6_code 10 = .ok (.aload_n 0, 1) := by decide +kernel
theorem d4_11 : decode prog_31_method_6_code 11 = .ok (.getfield 13, 3) := by decide +kernel
theorem d4_14 : decode prog_31_method_6_code 14 = .ok (.if_icmp .ge 25, 3) := by decide +kernel
theorem d4_17 : decode prog_31_method_6_code 17 = .ok (.aload_n 1, 1) := by decide +kernel
theorem d4_18 : decode prog_31_method_6_code 18 = .ok (.iload_n 2, 1) := by decide +kernel
theorem d4_19 : decode prog_31_method_6_code 19 = .ok (.aload_n 0, 1) := by decide +kernel
theorem d4_20 : decode prog_31_method_6_code 20 = .ok (.getfield 7, 3) := by decide +kernel
theorem d4_23 : decode prog_31_method_6_code 23 = .ok (.aload_n 0, 1) := by decide +kernel
theorem d4_24 : decode prog_31_method_6_code 24 = .ok (.getfield 13, 3) := by decide +kernel
theorem d4_27 : decode prog_31_method_6_code 27 = .ok (.iconst 1, 1) := by decide +kernel
theorem d4_28 : decode prog_31_method_6_code 28 = .ok (.isub, 1) := by decide +kernel
theorem d4_29 : decode prog_31_method_6_code 29 = .ok (.iload_n 2, 1) := by decide +kernel
theorem d4_30 : decode prog_31_method_6_code 30 = .ok (.isub, 1) := by decide +kernel
theorem d4_31 : decode prog_31_method_6_code 31 = .ok (.iaload, 1) := by decide +kernel
theorem d4_32 : decode prog_31_method_6_code 32 = .ok (.iastore, 1) := by decide +kernel
theorem d4_33 : decode prog_31_method_6_code 33 = .ok (.iinc 2 1, 3) := by decide +kernel
theorem d4_36 : decode prog_31_method_6_code 36 = .ok (.goto (-27), 3) := by decide +kernel
theorem d4_39 : decode prog_31_method_6_code 39 = .ok (.aload_n 1, 1) := by decide +kernel
theorem d4_40 : decode prog_31_method_6_code 40 = .ok (.areturn, 1) := by decide +kernel
theorem d5_0 : decode method_3_code 0 = .ok (.iload_n 1, 1) := by decide +kernel
theorem d5_1 : decode method_3_code 1 = .ok (.iload_n 2, 1) := by decide +kernel
theorem d5_2 : decode method_3_code 2 = .ok (.if_icmp .lt 5, 3) := by decide +kernel
theorem d5_5 : decode method_3_code 5 = .ok (.iconst 1, 1) := by decide +kernel
theorem d5_6 : decode method_3_code 6 = .ok (.ireturn, 1) := by decide +kernel
theorem d5_7 : decode method_3_code 7 = .ok (.aload_n 0, 1) := by decide +kernel
theorem d5_8 : decode method_3_code 8 = .ok (.iload_n 1, 1) := by decide +kernel
theorem d5_9 : decode method_3_code 9 = .ok (.iaload, 1) := by decide +kernel
theorem d5_10 : decode method_3_code 10 = .ok (.iload_n 2, 1) := by decide +kernel
theorem d5_11 : decode method_3_code 11 = .ok (.iconst 1, 1) := by decide +kernel
theorem d5_12 : decode method_3_code 12 = .ok (.isub, 1) := by decide +kernel
theorem d5_13 : decode method_3_code 13 = .ok (.iload_n 1, 1) := by decide +kernel
theorem d5_14 : decode method_3_code 14 = .ok (.isub, 1) := by decide +kernel
theorem d5_15 : decode method_3_code 15 = .ok (.aload_n 3, 1) := by decide +kernel
theorem d5_16 : decode method_3_code 16 = .ok (.iload 4, 2) := by decide +kernel
theorem d5_18 : decode method_3_code 18 = .ok (.aload 5, 2) := by decide +kernel
theorem d5_20 : decode method_3_code 20 = .ok (.invokestatic 7, 3) := by decide +kernel
theorem d5_23 : decode method_3_code 23 = .ok (.if_icmp .ne 7, 3) := by decide +kernel
theorem d5_26 : decode method_3_code 26 = .ok (.iconst 1, 1) := by decide +kernel
theorem d5_27 : decode method_3_code 27 = .ok (.goto 4, 3) := by decide +kernel
theorem d5_31 : decode method_3_code 31 = .ok (.ireturn, 1) := by decide +kernel
theorem d6_0 : decode method_2_code 0 = .ok (.iload_n 0, 1) := by decide +kernel
theorem d6_1 : decode method_2_code 1 = .ok (.iload_n 2, 1) := by decide +kernel
theorem d6_2 : decode method_2_code 2 = .ok (.if_icmp .ge 7, 3) := by decide +kernel
theorem d6_5 : decode method_2_code 5 = .ok (.aload_n 1, 1) := by decide +kernel
theorem d6_6 : decode method_2_code 6 = .ok (.iload_n 0, 1) := by decide +kernel
theorem d6_7 : decode method_2_code 7 = .ok (.iaload, 1) := by decide +kernel
theorem d6_8 : decode method_2_code 8 = .ok (.ireturn, 1) := by decide +kernel
theorem d6_9 : decode method_2_code 9 = .ok (.aload_n 3, 1) := by decide +kernel
theorem d6_10 : decode method_2_code 10 = .ok (.iload_n 0, 1) := by decide +kernel
theorem d6_11 : decode method_2_code 11 = .ok (.iload_n 2, 1) := by decide +kernel
theorem d6_12 : decode method_2_code 12 = .ok (.isub, 1) := by decide +kernel
theorem d6_13 : decode method_2_code 13 = .ok (.iaload, 1) := by decide +kernel
theorem d6_14 : decode method_2_code 14 = .ok (.ireturn, 1) := by decide +kernel
theorem d7_0 : decode prog_31_method_2_code 0 = .ok (.aload_n 0, 1) := by decide +kernel
theorem d7_1 : decode prog_31_method_2_code 1 = .ok (.getfield 13, 3) := by decide +kernel
theorem d7_4 : decode prog_31_method_2_code 4 = .ok (.aload_n 0, 1) := by decide +kernel
theorem d7_5 : decode prog_31_method_2_code 5 = .ok (.getfield 7, 3) := by decide +kernel
theorem d7_8 : decode prog_31_method_2_code 8 = .ok (.arraylength, 1) := by decide +kernel
theorem d7_9 : decode prog_31_method_2_code 9 = .ok (.if_icmp .ne 20, 3) := by decide +kernel
theorem d7_12 : decode prog_31_method_2_code 12 = .ok (.aload_n 0, 1) := by decide +kernel
theorem d7_13 : decode prog_31_method_2_code 13 = .ok (.aload_n 0, 1) := by decide +kernel
theorem d7_14 : decode prog_31_method_2_code 14 = .ok (.getfield 7, 3) := by decide +kernel
theorem d7_17 : decode prog_31_method_2_code 17 = .ok (.iconst 2, 1) := by decide +kernel
theorem d7_18 : decode prog_31_method_2_code 18 = .ok (.aload_n 0, 1) := by decide +kernel
theorem d7_19 : decode prog_31_method_2_code 19 = .ok (.getfield 13, 3) := by decide +kernel
theorem d7_22 : decode prog_31_method_2_code 22 = .ok (.imul, 1) := by decide +kernel
theorem d7_23 : decode prog_31_method_2_code 23 = .ok (.invokestatic 17, 3) := by decide +kernel
theorem d7_26 : decode prog_31_method_2_code 26 = .ok (.putfield 7, 3) := by decide +kernel
theorem d7_29 : decode prog_31_method_2_code 29 = .ok (.aload_n 0, 1) := by decide +kernel
theorem d7_30 : decode prog_31_method_2_code 30 = .ok (.getfield 7, 3) := by decide +kernel
theorem d7_33 : decode prog_31_method_2_code 33 = .ok (.aload_n 0, 1) := by decide +kernel
theorem d7_34 : decode prog_31_method_2_code 34 = .ok (.dup, 1) := by decide +kernel
theorem d7_35 : decode prog_31_method_2_code 35 = .ok (.getfield 13, 3) := by decide +kernel
theorem d7_38 : decode prog_31_method_2_code 38 = .ok (.dup_x1, 1) := by decide +kernel
theorem d7_39 : decode prog_31_method_2_code 39 = .ok (.iconst 1, 1) := by decide +kernel
theorem d7_40 : decode prog_31_method_2_code 40 = .ok (.iadd, 1) := by decide +kernel
theorem d7_41 : decode prog_31_method_2_code 41 = .ok (.putfield 13, 3) := by decide +kernel
theorem d7_44 : decode prog_31_method_2_code 44 = .ok (.iload_n 1, 1) := by decide +kernel
theorem d7_45 : decode prog_31_method_2_code 45 = .ok (.iastore, 1) := by decide +kernel
theorem d7_46 : decode prog_31_method_2_code 46 = .ok (.return_, 1) := by decide +kernel
theorem d8_0 : decode jdk_65_method_123_code 0 = .ok (.iload_n 1, 1) := by decide +kernel
theorem d8_1 : decode jdk_65_method_123_code 1 = .ok (.aload_n 0, 1) := by decide +kernel
theorem d8_2 : decode jdk_65_method_123_code 2 = .ok (.arraylength, 1) := by decide +kernel
theorem d8_3 : decode jdk_65_method_123_code 3 = .ok (.if_icmp .ne 11, 3) := by decide +kernel
theorem d8_14 : decode jdk_65_method_123_code 14 = .ok (.iload_n 1, 1) := by decide +kernel
theorem d8_15 : decode jdk_65_method_123_code 15 = .ok (.newarray .int, 2) := by decide +kernel
theorem d8_17 : decode jdk_65_method_123_code 17 = .ok (.astore_n 2, 1) := by decide +kernel
theorem d8_18 : decode jdk_65_method_123_code 18 = .ok (.aload_n 0, 1) := by decide +kernel
theorem d8_19 : decode jdk_65_method_123_code 19 = .ok (.iconst 0, 1) := by decide +kernel
theorem d8_20 : decode jdk_65_method_123_code 20 = .ok (.aload_n 2, 1) := by decide +kernel
theorem d8_21 : decode jdk_65_method_123_code 21 = .ok (.iconst 0, 1) := by decide +kernel
theorem d8_22 : decode jdk_65_method_123_code 22 = .ok (.aload_n 0, 1) := by decide +kernel
theorem d8_23 : decode jdk_65_method_123_code 23 = .ok (.arraylength, 1) := by decide +kernel
theorem d8_24 : decode jdk_65_method_123_code 24 = .ok (.iload_n 1, 1) := by decide +kernel
theorem d8_25 : decode jdk_65_method_123_code 25 = .ok (.invokestatic 304, 3) := by decide +kernel
theorem d8_28 : decode jdk_65_method_123_code 28 = .ok (.invokestatic 150, 3) := by decide +kernel
theorem d8_31 : decode jdk_65_method_123_code 31 = .ok (.aload_n 2, 1) := by decide +kernel
theorem d8_32 : decode jdk_65_method_123_code 32 = .ok (.areturn, 1) := by decide +kernel
theorem d9_0 : decode jdk_29_method_69_code 0 = .ok (.iload_n 0, 1) := by decide +kernel
theorem d9_1 : decode jdk_29_method_69_code 1 = .ok (.iload_n 1, 1) := by decide +kernel
theorem d9_2 : decode jdk_29_method_69_code 2 = .ok (.if_icmp .gt 7, 3) := by decide +kernel
theorem d9_5 : decode jdk_29_method_69_code 5 = .ok (.iload_n 0, 1) := by decide +kernel
theorem d9_6 : decode jdk_29_method_69_code 6 = .ok (.goto 4, 3) := by decide +kernel
theorem d9_9 : decode jdk_29_method_69_code 9 = .ok (.iload_n 1, 1) := by decide +kernel
theorem d9_10 : decode jdk_29_method_69_code 10 = .ok (.ireturn, 1) := by decide +kernel
theorem d10_0 : decode jdk_29_method_65_code 0 = .ok (.iload_n 0, 1) := by decide +kernel
theorem d10_1 : decode jdk_29_method_65_code 1 = .ok (.iload_n 1, 1) := by decide +kernel
theorem d10_2 : decode jdk_29_method_65_code 2 = .ok (.if_icmp .lt 7, 3) := by decide +kernel
theorem d10_5 : decode jdk_29_method_65_code 5 = .ok (.iload_n 0, 1) := by decide +kernel
theorem d10_6 : decode jdk_29_method_65_code 6 = .ok (.goto 4, 3) := by decide +kernel
theorem d10_9 : decode jdk_29_method_65_code 9 = .ok (.iload_n 1, 1) := by decide +kernel
theorem d10_10 : decode jdk_29_method_65_code 10 = .ok (.ireturn, 1) := by decide +kernel
theorem pd_0 : parseMethodDescriptor "(II)I" = some ⟨[.int, .int], some .int⟩ := by decide +kernel
theorem pd_1 : parseMethodDescriptor "([II)[I" = some ⟨[(.array .int), .int], some (.array .int)⟩ := by decide +kernel
theorem pd_2 : parseMethodDescriptor "(I[II[I)I" = some ⟨[.int, (.array .int), .int, (.array .int)], some .int⟩ := by decide +kernel
theorem pd_3 : parseMethodDescriptor "()V" = some ⟨[], none⟩ := by decide +kernel
theorem pd_4 : parseMethodDescriptor "([III)V" = some ⟨[(.array .int), .int, .int], none⟩ := by decide +kernel
theorem pd_5 : parseMethodDescriptor "()[I" = some ⟨[], some (.array .int)⟩ := by decide +kernel
theorem pd_6 : parseMethodDescriptor "([III[II[I)Z" = some ⟨[(.array .int), .int, .int, (.array .int), .int, (.array .int)], some .boolean⟩ := by decide +kernel
theorem pd_7 : parseMethodDescriptor "(I)V" = some ⟨[.int], none⟩ := by decide +kernel
theorem pn_0 : plainFor (⟨"java/lang/Math", "max", "(II)I"⟩ : MethodName) = true := by first | exact plainFor_of_name (by first | (simp [plainName, overriddenIn]; done) | decide +kernel) | decide +kernel
theorem pn_1 : plainFor (⟨"java/lang/Math", "min", "(II)I"⟩ : MethodName) = true := by first | exact plainFor_of_name (by first | (simp [plainName, overriddenIn]; done) | decide +kernel) | decide +kernel
theorem pn_2 : plainFor (⟨"java/util/Arrays", "copyOf", "([II)[I"⟩ : MethodName) = true := by first | exact plainFor_of_name (by first | (simp [plainName, overriddenIn]; done) | decide +kernel) | decide +kernel
theorem pn_3 : plainFor (⟨"com/example/twigtrim/twigtrim/NodeBuffer", "<init>", "()V"⟩ : MethodName) = true := by first | exact plainFor_of_name (by first | (simp [plainName, overriddenIn]; done) | decide +kernel) | decide +kernel
theorem pn_4 : plainFor (⟨"com/example/twigtrim/twigtrim/NodeBuffer", "add", "(I)V"⟩ : MethodName) = true := by first | exact plainFor_of_name (by first | (simp [plainName, overriddenIn]; done) | decide +kernel) | decide +kernel
theorem pn_5 : plainFor (⟨"com/example/twigtrim/twigtrim/NodeBuffer", "addAll", "([III)V"⟩ : MethodName) = true := by first | exact plainFor_of_name (by first | (simp [plainName, overriddenIn]; done) | decide +kernel) | decide +kernel
theorem pn_6 : plainFor (⟨"com/example/twigtrim/twigtrim/NodeBuffer", "toReversedArray", "()[I"⟩ : MethodName) = true := by first | exact plainFor_of_name (by first | (simp [plainName, overriddenIn]; done) | decide +kernel) | decide +kernel
theorem pn_7 : plainFor (⟨"com/example/twigtrim/twigtrim/NodeBufferToReversedArrayPinLaw", "expected", "(I[II[I)I"⟩ : MethodName) = true := by first | exact plainFor_of_name (by first | (simp [plainName, overriddenIn]; done) | decide +kernel) | decide +kernel
theorem pn_8 : plainFor (⟨"com/example/twigtrim/twigtrim/NodeBufferToReversedArrayPinLaw", "at", "([III[II[I)Z"⟩ : MethodName) = true := by first | exact plainFor_of_name (by first | (simp [plainName, overriddenIn]; done) | decide +kernel) | decide +kernel
theorem pn_9 : plainFor x = true := by first | exact plainFor_of_name (by first | (simp [plainName, overriddenIn]; done) | decide +kernel) | decide +kernel
theorem own_ints {Z : State} {h : Heap} {a : Addr} {n : Nat} {f : Nat → Value} (F : AV Z h a .int n f) (hf : ∀ i, i < n → ∃ z, f i = .int z) : ∃ g : Nat → Int32, AV Z h a .int n (fun i => .int (g i)) :=
  ⟨fun i => (match f i with | .int z => z | _ => 0), F.congr (fun i hi => by obtain ⟨z, q⟩ := hf i hi; simp only [q])⟩
theorem own_z {x : Int32} {k : Int32} {j : Nat} (h : x.toInt = j) (hk : k.toInt = j) : x = k := Int32.toInt_inj.mp (by rw [h, hk])
theorem own_plus {a k : Int32} {o j : Nat} (ha : a.toInt = o) (hk : k.toInt = j) (ho : o + j < 1000) : (a + k).toInt = ((o + j : Nat) : Int) := by
  have q := c_iadd a k
  have b := rng32 (a + k)
  omega
theorem own_minus {a k : Int32} {o j : Nat} (ha : a.toInt = o) (hk : k.toInt = j) (ho : j ≤ o) (h1 : o < 1000) : (a - k).toInt = ((o - j : Nat) : Int) := by
  have q := c_isub a k
  have b := rng32 (a - k)
  omega
theorem own_lt {i n : Int32} {a b : Nat} (hi : i.toInt = a) (hn : n.toInt = b) : i < n ↔ a < b := by rw [Int32.lt_iff_toInt_lt, hi, hn]; omega
def fMax (a b : Int32) : Int32 := if a < b then b else a
def fMin (a b : Int32) : Int32 := if b < a then b else a
def QI (r : Int32) (h0 : Heap) (n0 : Nat) (v : Option Value) (h : Heap) (L : List Loc) : Prop := v = some (.int r) ∧ Fr n0 L ∧ h = h0
/-- a NodeBuffer that holds s ints in an array of cap -/
def Buf (Z : State) (h : Heap) (b t : Addr) (cap : Nat) (sz : Int32) (s : Nat) (g : Nat → Int32) : Prop :=
  Exa Z h b "com/example/twigtrim/twigtrim/NodeBuffer" ∧ Fld Z h b "com/example/twigtrim/twigtrim/NodeBuffer" "nodes" "[I" (.ref t) ∧ Fld Z h b "com/example/twigtrim/twigtrim/NodeBuffer" "size" "I" (.int sz) ∧ AV Z h t .int cap (fun i => .int (g i)) ∧ sz.toInt = s ∧ ((cap = 8 ∧ s ≤ 8) ∨ (cap = 16 ∧ s ≤ 13))
set_option maxRecDepth 65536 in
set_option maxHeartbeats 40000000 in
theorem rm10 (l : Launch) (Z : State) (a0 : Array Value) (hw : ∀ d ∈ tables_1, d.before a0 Z = true) (ws : List Jvm.Cond) (a b : Int32) (h0 : Heap) (n0 : Nat) (Z0 : n0 ≤ h0.size)  :
    MetFree l (⟨"java/lang/Math", "max", "(II)I"⟩ : MethodName) (head1 (Jvm.Cond.code (⟨"java/lang/Math", "max", "(II)I"⟩ : MethodName) jdk_29_method_65_code 2 (some .int) :: ws) ({ frames := 0, cells := 0, slots := 0, locals := 0 } : Room)) (fun av_ U_ => av_ = #[(.int a), (.int b)] ∧ Z.Warmed39 U_.vm ∧ U_.heap = h0) (fun _ _ _ _ _ => True) (fun _ U_ o_ W_ => ∃ v_ L_, o_ = .returned v_ ∧ QI (fMax a b) h0 n0 v_ W_.heap L_ ∧ FrameEnd U_ o_ W_ L_ ({ frames := 0, cells := 0, slots := 0, locals := 0 } : Room).cells ({ frames := 0, cells := 0, slots := 0, locals := 0 } : Room).slots) := by
  refine own_start pn_0 ?_
  intro p e s m below meth c T0 X0 hx hby hml hown hnm hret hlk hZ e0
  have N0 := Fr.nil n0
  have M0 := Z0
  refine Go.cast (show entryFrame m #[(.int a), (.int b)] 2 = (mkF m 0 #[.val (.int a), .val (.int b)] []) from (by first | (simp [entryFrame, mkF, argsToLocals, Value.category, maxLocals]; done) | rfl)) ?_
  refine g_iloadN X0 hx 1 (hb hby d10_0) rfl rfl ?_
  refine g_iloadN X0 hx 2 (hb hby d10_1) rfl rfl ?_
  by_cases c2 : a < b
  · refine g_icT X0 hx 9 (hb hby d10_2) (Jvm.Free.XT.ii_lt_t c2) (by decide) (by decide) ?_
    refine g_iloadN X0 hx 10 (hb hby d10_9) rfl rfl ?_
    refine g_iret X0 hx hret hlk (hb hby d10_10) (by decide) (by decide) ?_
    exact ⟨by simp [fMax, c2], N0, e0⟩
  · refine g_icF X0 hx 5 (hb hby d10_2) (Jvm.Free.XT.ii_lt_f c2) rfl ?_
    refine g_iloadN X0 hx 6 (hb hby d10_5) rfl rfl ?_
    refine g_goto X0 hx 10 (hb hby d10_6) (by decide) (by decide) ?_
    refine g_iret X0 hx hret hlk (hb hby d10_10) (by decide) (by decide) ?_
    exact ⟨by simp [fMax, c2], N0, e0⟩
set_option maxRecDepth 65536 in
set_option maxHeartbeats 40000000 in
theorem rm9 (l : Launch) (Z : State) (a0 : Array Value) (hw : ∀ d ∈ tables_1, d.before a0 Z = true) (ws : List Jvm.Cond) (a b : Int32) (h0 : Heap) (n0 : Nat) (Z0 : n0 ≤ h0.size)  :
    MetFree l (⟨"java/lang/Math", "min", "(II)I"⟩ : MethodName) (head1 (Jvm.Cond.code (⟨"java/lang/Math", "min", "(II)I"⟩ : MethodName) jdk_29_method_69_code 2 (some .int) :: ws) ({ frames := 0, cells := 0, slots := 0, locals := 0 } : Room)) (fun av_ U_ => av_ = #[(.int a), (.int b)] ∧ Z.Warmed39 U_.vm ∧ U_.heap = h0) (fun _ _ _ _ _ => True) (fun _ U_ o_ W_ => ∃ v_ L_, o_ = .returned v_ ∧ QI (fMin a b) h0 n0 v_ W_.heap L_ ∧ FrameEnd U_ o_ W_ L_ ({ frames := 0, cells := 0, slots := 0, locals := 0 } : Room).cells ({ frames := 0, cells := 0, slots := 0, locals := 0 } : Room).slots) := by
  refine own_start pn_1 ?_
  intro p e s m below meth c T0 X0 hx hby hml hown hnm hret hlk hZ e0
  have N0 := Fr.nil n0
  have M0 := Z0
  refine Go.cast (show entryFrame m #[(.int a), (.int b)] 2 = (mkF m 0 #[.val (.int a), .val (.int b)] []) from (by first | (simp [entryFrame, mkF, argsToLocals, Value.category, maxLocals]; done) | rfl)) ?_
  refine g_iloadN X0 hx 1 (hb hby d9_0) rfl rfl ?_
  refine g_iloadN X0 hx 2 (hb hby d9_1) rfl rfl ?_
  by_cases c2 : b < a
  · refine g_icT X0 hx 9 (hb hby d9_2) (Jvm.Free.XT.ii_gt_t c2) (by decide) (by decide) ?_
    refine g_iloadN X0 hx 10 (hb hby d9_9) rfl rfl ?_
    refine g_iret X0 hx hret hlk (hb hby d9_10) (by decide) (by decide) ?_
    exact ⟨by simp [fMin, c2], N0, e0⟩
  · refine g_icF X0 hx 5 (hb hby d9_2) (Jvm.Free.XT.ii_gt_f c2) rfl ?_
    refine g_iloadN X0 hx 6 (hb hby d9_5) rfl rfl ?_
    refine g_goto X0 hx 10 (hb hby d9_6) (by decide) (by decide) ?_
    refine g_iret X0 hx hret hlk (hb hby d9_10) (by decide) (by decide) ?_
    exact ⟨by simp [fMin, c2], N0, e0⟩
def QA (Z : State) (n : Nat) (f : Nat → Value) (h0 : Heap) (n0 : Nat) (v : Option Value) (h : Heap) (L : List Loc) : Prop := ∃ a, v = some (.ref a) ∧ Fr n0 L ∧ n0 ≤ a ∧ h0.size ≤ a ∧ Keep h0 h [] ∧ AV Z h a .int n f
set_option maxRecDepth 65536 in
set_option maxHeartbeats 40000000 in
theorem rm8 (l : Launch) (Z : State) (a0 : Array Value) (hw : ∀ d ∈ tables_1, d.before a0 Z = true) (ws : List Jvm.Cond) (a : Addr) (g : Nat → Int32) (h0 : Heap) (n0 : Nat) (Z0 : n0 ≤ h0.size) (F_a : AV Z h0 a .int 8 (fun i => .int (g i))) :
    MetFree l (⟨"java/util/Arrays", "copyOf", "([II)[I"⟩ : MethodName) (head1 (Jvm.Cond.code (⟨"java/util/Arrays", "copyOf", "([II)[I"⟩ : MethodName) jdk_65_method_123_code 3 (some (.array .int)) :: ws) ({ frames := 1, cells := 1, slots := 16, locals := 60 } : Room)) (fun av_ U_ => av_ = #[(.ref a), (.int (16 : Int32))] ∧ Z.Warmed39 U_.vm ∧ U_.heap = h0) (fun _ _ _ _ _ => True) (fun _ U_ o_ W_ => ∃ v_ L_, o_ = .returned v_ ∧ QA Z 16 (fun i => .int (if i < 8 then g i else 0)) h0 n0 v_ W_.heap L_ ∧ FrameEnd U_ o_ W_ L_ ({ frames := 1, cells := 1, slots := 16, locals := 60 } : Room).cells ({ frames := 1, cells := 1, slots := 16, locals := 60 } : Room).slots) := by
  refine own_start pn_2 ?_
  intro p e s m below meth c T0 X0 hx hby hml hown hnm hret hlk hZ e0
  have N0 := Fr.nil n0
  have M0 := Z0
  have K0 : Keep h0 h0 [] := Keep.refl _ _
  refine Go.cast (show entryFrame m #[(.ref a), (.int (16 : Int32))] 3 = (mkF m 0 #[.val (.ref a), .val (.int (16 : Int32)), .unset] []) from (by first | (simp [entryFrame, mkF, argsToLocals, Value.category, maxLocals]; done) | rfl)) ?_
  refine g_iloadN X0 hx 1 (hb hby d8_0) rfl rfl ?_
  refine g_aloadN X0 hx 2 (hb hby d8_1) rfl rfl rfl ?_
  refine g_arrlen X0 hx hZ 3 e0 F_a (8 : Int32) (by decide) (hb hby d8_2) rfl ?_
  refine g_icT X0 hx 14 (hb hby d8_3) (by decide) (by decide) (by decide) ?_
  refine g_iloadN X0 hx 15 (hb hby d8_14) rfl rfl ?_
  refine g_newarr X0 hx hZ 17 (hw _ (List.mem_of_getElem? (i := 0) rfl)) e0 (hb hby d8_15) (16) (by decide) 16 (by decide) (by decide) (by decide) (by decide) rfl ?_
  intro T1 t X1 E1 g_t F_t
  have e1 : T1.heap = T1.heap := rfl
  have N1 := N0
  have Z_t : n0 ≤ t := by rw [g_t]; exact M0
  have M1 : n0 ≤ T1.heap.size := Nat.le_trans M0 E1.1
  have ne_a_t : a ≠ t := by rw [g_t]; exact Nat.ne_of_lt F_a.lt
  replace F_a := F_a.ext E1
  have G_t : h0.size ≤ t := by rw [g_t]; exact K0.1
  have K1 : Keep h0 T1.heap [] := K0.ext E1
  refine g_astoreN X1 hx 18 (hb hby d8_17) rfl #[.val (.ref a), .val (.int (16 : Int32)), .val (.ref t)] rfl rfl ?_
  refine g_aloadN X1 hx 19 (hb hby d8_18) rfl rfl rfl ?_
  refine g_iconst X1 hx 20 (hb hby d8_19) (0 : Int32) (by decide) rfl ?_
  refine g_aloadN X1 hx 21 (hb hby d8_20) rfl rfl rfl ?_
  refine g_iconst X1 hx 22 (hb hby d8_21) (0 : Int32) (by decide) rfl ?_
  refine g_aloadN X1 hx 23 (hb hby d8_22) rfl rfl rfl ?_
  refine g_arrlen X1 hx hZ 24 e1 F_a (8 : Int32) (by decide) (hb hby d8_23) rfl ?_
  refine g_iloadN X1 hx 25 (hb hby d8_24) rfl rfl ?_
  refine g_callS X1 hx hZ 28 [(.int (8 : Int32)), (.int (16 : Int32))] [(.int (0 : Int32)), (.ref t), (.int (0 : Int32)), (.ref a)] 4 hown (hw _ (List.mem_of_getElem? (i := 45) rfl)) (hw _ (List.mem_of_getElem? (i := 46) rfl)) (hw _ (List.mem_of_getElem? (i := 47) rfl)) (hw _ (List.mem_of_getElem? (i := 48) rfl)) (by decide) e1 (rm9 l Z a0 hw [] (8 : Int32) (16 : Int32) T1.heap n0 M1) (by decide) (by decide) (by decide) (by decide) (by rw [hml]; rfl) rfl pd_0 rfl (Nat.le_of_eq rfl) (hb hby d8_25) rfl ?_
  intro v2 T2 L2 X2 q2
  obtain ⟨rfl, Nq2, e2⟩ := q2
  have N2 := Fr.app N1 Nq2
  have M2 := M1
  have K2 := K1
  rw [show fMin (8 : Int32) (16 : Int32) = 8 by decide]
  refine g_copy X2 hx hZ 31 0 (0) (0) (8) hown (hw _ (List.mem_of_getElem? (i := 49) rfl)) (hw _ (List.mem_of_getElem? (i := 23) rfl)) (hw _ (List.mem_of_getElem? (i := 21) rfl)) (hw _ (List.mem_of_getElem? (i := 22) rfl)) e2 F_a F_t rfl (fun _ _ => rfl) (fun _ _ => rfl) (by decide) (by decide) (by decide) (by decide) (by decide) (by decide) (by decide) N2 Z_t (by rw [hml]; rfl) (hb hby d8_28) (by decide) (Nat.le_of_eq rfl) (by decide) rfl ?_
  intro T3 L3 X3 N3 Kc3 G3
  have e3 : T3.heap = T3.heap := rfl
  have M3 : n0 ≤ T3.heap.size := Nat.le_trans M2 Kc3.1
  replace F_a := F_a.keep Kc3 (ninS ne_a_t nin0)
  replace F_t := G3
  have K3 : Keep h0 T3.heap [] := K2.trans Kc3 (allS (Or.inr G_t) all0)
  refine g_aloadN X3 hx 32 (hb hby d8_31) rfl rfl rfl ?_
  refine g_aret X3 hx rfl rfl rfl hret hlk (hb hby d8_32) (by decide) (by decide) ?_
  exact ⟨t, rfl, N3, Z_t, G_t, K3, F_t.congr (f' := fun i => .int (if i < 8 then g i else 0)) (fun i hi => by by_cases q : i < 8 <;> simp [q] <;> rfl)⟩
def Q1 (Z : State) (b : Addr) (h0 : Heap) (n0 : Nat) (v : Option Value) (h : Heap) (L : List Loc) : Prop :=
  v = none ∧ Fr n0 L ∧ Keep h0 h [b] ∧ ∃ t, n0 ≤ t ∧ h0.size ≤ t ∧ Buf Z h b t 8 0 0 (fun _ => 0)
set_option maxRecDepth 65536 in
set_option maxHeartbeats 40000000 in
theorem rm1 (l : Launch) (Z : State) (a0 : Array Value) (hw : ∀ d ∈ tables_1, d.before a0 Z = true) (ws : List Jvm.Cond) (b : Addr) (h0 : Heap) (n0 : Nat) (Z0 : n0 ≤ h0.size) (E_b : Exa Z h0 b "com/example/twigtrim/twigtrim/NodeBuffer") (Z_b : n0 ≤ b) (f_b_nodes : Fld Z h0 b "com/example/twigtrim/twigtrim/NodeBuffer" "nodes" "[I" .null) (f_b_size : Fld Z h0 b "com/example/twigtrim/twigtrim/NodeBuffer" "size" "I" (.int 0)) :
    MetFree l (⟨"com/example/twigtrim/twigtrim/NodeBuffer", "<init>", "()V"⟩ : MethodName) (head1 (Jvm.Cond.code (⟨"com/example/twigtrim/twigtrim/NodeBuffer", "<init>", "()V"⟩ : MethodName) prog_31_method_1_code 1 none :: ws) ({ frames := 1, cells := 1, slots := 8, locals := 12 } : Room)) (fun av_ U_ => av_ = #[(.ref b)] ∧ Z.Warmed39 U_.vm ∧ U_.heap = h0) (fun _ _ _ _ _ => True) (fun _ U_ o_ W_ => ∃ v_ L_, o_ = .returned v_ ∧ Q1 Z b h0 n0 v_ W_.heap L_ ∧ FrameEnd U_ o_ W_ L_ ({ frames := 1, cells := 1, slots := 8, locals := 12 } : Room).cells ({ frames := 1, cells := 1, slots := 8, locals := 12 } : Room).slots) := by
  refine own_start pn_3 ?_
  intro p e s m below meth c T0 X0 hx hby hml hown hnm hret hlk hZ e0
  have N0 := Fr.nil n0
  have M0 := Z0
  have K0 : Keep h0 h0 [b] := Keep.refl _ _
  refine Go.cast (show entryFrame m #[(.ref b)] 1 = (mkF m 0 #[.val (.ref b)] []) from (by first | (simp [entryFrame, mkF, argsToLocals, Value.category, maxLocals]; done) | rfl)) ?_
  refine g_aloadN X0 hx 1 (hb hby d1_0) rfl rfl rfl ?_
  refine g_initO X0 hx hZ 4 0 hown (hw _ (List.mem_of_getElem? (i := 8) rfl)) (hw _ (List.mem_of_getElem? (i := 9) rfl)) (hw _ (List.mem_of_getElem? (i := 10) rfl)) e0 (by rw [hml]; rfl) (hb hby d1_1) (by decide) (Nat.le_of_eq rfl) (by decide) rfl ?_
  intro T1 X1 e1
  have N1 := N0
  have M1 := M0
  have K1 := K0
  refine g_aloadN X1 hx 5 (hb hby d1_4) rfl rfl rfl ?_
  refine g_bipush X1 hx 7 (hb hby d1_5) (8 : Int32) (by decide) rfl ?_
  refine g_newarr X1 hx hZ 9 (hw _ (List.mem_of_getElem? (i := 0) rfl)) e1 (hb hby d1_7) (8) (by decide) 8 (by decide) (by decide) (by decide) (by decide) rfl ?_
  intro T2 t X2 E2 g_t F_t
  have e2 : T2.heap = T2.heap := rfl
  have N2 := N1
  have Z_t : n0 ≤ t := by rw [g_t]; exact M1
  have M2 : n0 ≤ T2.heap.size := Nat.le_trans M1 E2.1
  have ne_b_t : b ≠ t := by rw [g_t]; exact Nat.ne_of_lt E_b.lt
  replace E_b := E_b.ext E2
  replace f_b_nodes := f_b_nodes.ext E2
  replace f_b_size := f_b_size.ext E2
  have G_t : h0.size ≤ t := by rw [g_t]; exact K1.1
  have K2 : Keep h0 T2.heap [b] := K1.ext E2
  refine g_putF X2 hx hZ 12 (ty := (.array .int)) hown (hw _ (List.mem_of_getElem? (i := 11) rfl)) e2 f_b_nodes E_b (Or.inl (hw _ (List.mem_of_getElem? (i := 12) rfl))) (hw _ (List.mem_of_getElem? (i := 3) rfl)) (by decide) rfl rfl (hb hby d1_9) rfl ?_
  intro T3 X3 W3
  have e3 : T3.heap = T3.heap := rfl
  have N3 := Fr.snoc X3 N2 Z_b
  have M3 : n0 ≤ T3.heap.size := by rw [W3.size]; exact M2
  replace E_b := E_b.wr W3
  replace f_b_nodes := f_b_nodes.same W3
  replace f_b_size := f_b_size.other W3 (Or.inr (slot_ne (t := .int) (t' := (.array .int)) (show Laid Z a0 "com/example/twigtrim/twigtrim/NodeBuffer" "com/example/twigtrim/twigtrim/NodeBuffer" "size" "I" from Or.inl (hw _ (List.mem_of_getElem? (i := 19) rfl))) (show Laid Z a0 "com/example/twigtrim/twigtrim/NodeBuffer" "com/example/twigtrim/twigtrim/NodeBuffer" "nodes" "[I" from Or.inl (hw _ (List.mem_of_getElem? (i := 12) rfl))) (by decide) (by decide) (by decide)))
  replace F_t := F_t.other W3 (Ne.symm ne_b_t)
  have K3 : Keep h0 T3.heap [b] := K2.wr W3 (Or.inl (List.mem_of_getElem? (i := 0) rfl))
  refine g_ret0 X3 hx hret hlk (hb hby d1_12) (by decide) (by decide) ?_
  exact ⟨rfl, N3, K3, t, Z_t, G_t, E_b, f_b_nodes, f_b_size, F_t, by decide, Or.inl ⟨rfl, by decide⟩⟩
def QAdd (Z : State) (b t : Addr) (s : Nat) (G : Nat → Int32) (h0 : Heap) (n0 : Nat) (v : Option Value) (h : Heap) (L : List Loc) : Prop :=
  v = none ∧ Fr n0 L ∧ Keep h0 h [b, t] ∧ ∃ t' cap' sz' g', n0 ≤ t' ∧ (t' = t ∨ h0.size ≤ t') ∧ b ≠ t' ∧ Buf Z h b t' cap' sz' s g' ∧ ∀ i, i < s → g' i = G i
set_option maxRecDepth 65536 in
set_option maxHeartbeats 40000000 in
theorem rm7 (l : Launch) (Z : State) (a0 : Array Value) (hw : ∀ d ∈ tables_1, d.before a0 Z = true) (ws : List Jvm.Cond) (b t : Addr) (x sz : Int32) (sN cap : Nat) (g G : Nat → Int32) (h0 : Heap) (n0 : Nat) (Z0 : n0 ≤ h0.size) (E_b : Exa Z h0 b "com/example/twigtrim/twigtrim/NodeBuffer") (f_b_nodes : Fld Z h0 b "com/example/twigtrim/twigtrim/NodeBuffer" "nodes" "[I" (.ref t)) (f_b_size : Fld Z h0 b "com/example/twigtrim/twigtrim/NodeBuffer" "size" "I" (.int sz)) (F_t : AV Z h0 t .int cap (fun i => .int (g i))) (hsz : sz.toInt = sN) (hcap : (cap = 8 ∧ sN ≤ 8) ∨ (cap = 16 ∧ sN ≤ 12)) (Z_b : n0 ≤ b) (Z_t : n0 ≤ t) (ne_b_t : b ≠ t) (hG : ∀ i, i < sN → g i = G i) (hx_ : x = G sN) :
    MetFree l (⟨"com/example/twigtrim/twigtrim/NodeBuffer", "add", "(I)V"⟩ : MethodName) (head1 (Jvm.Cond.code (⟨"com/example/twigtrim/twigtrim/NodeBuffer", "add", "(I)V"⟩ : MethodName) prog_31_method_2_code 2 none :: ws) ({ frames := 2, cells := 1, slots := 16, locals := 75 } : Room)) (fun av_ U_ => av_ = #[(.ref b), (.int x)] ∧ Z.Warmed39 U_.vm ∧ U_.heap = h0) (fun _ _ _ _ _ => True) (fun _ U_ o_ W_ => ∃ v_ L_, o_ = .returned v_ ∧ QAdd Z b t (sN + 1) G h0 n0 v_ W_.heap L_ ∧ FrameEnd U_ o_ W_ L_ ({ frames := 2, cells := 1, slots := 16, locals := 75 } : Room).cells ({ frames := 2, cells := 1, slots := 16, locals := 75 } : Room).slots) := by
  refine own_start pn_4 ?_
  intro p e s m below meth c T0 X0 hx hby hml hown hnm hret hlk hZ e0
  have N0 := Fr.nil n0
  have M0 := Z0
  have K0 : Keep h0 h0 [b, t] := Keep.refl _ _
  refine Go.cast (show entryFrame m #[(.ref b), (.int x)] 2 = (mkF m 0 #[.val (.ref b), .val (.int x)] []) from (by first | (simp [entryFrame, mkF, argsToLocals, Value.category, maxLocals]; done) | rfl)) ?_
  rcases hcap with ⟨rfl, hs8⟩ | ⟨rfl, hs13⟩
  · skip
    refine g_aloadN X0 hx 1 (hb hby d7_0) rfl rfl rfl ?_
    refine g_getF X0 hx hZ 4 hown (hw _ (List.mem_of_getElem? (i := 18) rfl)) e0 f_b_size (hb hby d7_1) rfl ?_
    intro T1 X1 e1
    have N1 := N0
    have M1 := M0
    have K1 := K0
    refine g_aloadN X1 hx 5 (hb hby d7_4) rfl rfl rfl ?_
    refine g_getF X1 hx hZ 8 hown (hw _ (List.mem_of_getElem? (i := 11) rfl)) e1 f_b_nodes (hb hby d7_5) rfl ?_
    intro T2 X2 e2
    have N2 := N1
    have M2 := M1
    have K2 := K1
    refine g_arrlen X2 hx hZ 9 e2 F_t (8 : Int32) (by decide) (hb hby d7_8) rfl ?_
    by_cases c9 : sz = (8 : Int32)
    · refine g_icF X2 hx 12 (hb hby d7_9) (Jvm.Free.XT.ii_ne_f c9) rfl ?_
      subst c9
      have e8 : sN = 8 := by have z : (8 : Int32).toInt = 8 := (by decide); rw [z] at hsz; omega
      subst e8
      refine g_aloadN X2 hx 13 (hb hby d7_12) rfl rfl rfl ?_
      refine g_aloadN X2 hx 14 (hb hby d7_13) rfl rfl rfl ?_
      refine g_getF X2 hx hZ 17 hown (hw _ (List.mem_of_getElem? (i := 11) rfl)) e2 f_b_nodes (hb hby d7_14) rfl ?_
      intro T3 X3 e3
      have N3 := N2
      have M3 := M2
      have K3 := K2
      refine g_iconst X3 hx 18 (hb hby d7_17) (2 : Int32) (by decide) rfl ?_
      refine g_aloadN X3 hx 19 (hb hby d7_18) rfl rfl rfl ?_
      refine g_getF X3 hx hZ 22 hown (hw _ (List.mem_of_getElem? (i := 18) rfl)) e3 f_b_size (hb hby d7_19) rfl ?_
      intro T4 X4 e4
      have N4 := N3
      have M4 := M3
      have K4 := K3
      refine g_imul X4 hx 23 (hb hby d7_22) rfl ?_
      rw [show (2 : Int32) * (8 : Int32) = 16 by decide]
      refine g_callS X4 hx hZ 26 [(.ref t), (.int (16 : Int32))] [(.ref b)] 1 hown (hw _ (List.mem_of_getElem? (i := 41) rfl)) (hw _ (List.mem_of_getElem? (i := 42) rfl)) (hw _ (List.mem_of_getElem? (i := 43) rfl)) (hw _ (List.mem_of_getElem? (i := 44) rfl)) (by decide) e4 (rm8 l Z a0 hw [] t g h0 n0 M4 F_t) (by decide) (by decide) (by decide) (by decide) (by rw [hml]; rfl) rfl pd_1 rfl (Nat.le_of_eq rfl) (hb hby d7_23) rfl ?_
      intro v5 T5 L5 X5 q5
      obtain ⟨t2, rfl, Nq5, Z_t2, G0_t2, Kc5, F_t2⟩ := q5
      have N5 := Fr.app N4 Nq5
      have M5 : n0 ≤ T5.heap.size := Nat.le_trans M4 Kc5.1
      have e5 : T5.heap = T5.heap := rfl
      have ne_b_t2 : b ≠ t2 := Nat.ne_of_lt (Nat.lt_of_lt_of_le E_b.lt G0_t2)
      have ne_t_t2 : t ≠ t2 := Nat.ne_of_lt (Nat.lt_of_lt_of_le F_t.lt G0_t2)
      have G_t2 : h0.size ≤ t2 := Nat.le_trans K4.1 G0_t2
      replace E_b := E_b.keep Kc5
      replace f_b_nodes := f_b_nodes.keep Kc5 nin0
      replace f_b_size := f_b_size.keep Kc5 nin0
      replace F_t := F_t.keep Kc5 nin0
      have K5 : Keep h0 T5.heap [b, t] := K4.trans Kc5 all0
      refine g_putF X5 hx hZ 29 (ty := (.array .int)) hown (hw _ (List.mem_of_getElem? (i := 11) rfl)) e5 f_b_nodes E_b (Or.inl (hw _ (List.mem_of_getElem? (i := 12) rfl))) (hw _ (List.mem_of_getElem? (i := 3) rfl)) (by decide) rfl rfl (hb hby d7_26) rfl ?_
      intro T6 X6 W6
      have e6 : T6.heap = T6.heap := rfl
      have N6 := Fr.snoc X6 N5 Z_b
      have M6 : n0 ≤ T6.heap.size := by rw [W6.size]; exact M5
      replace E_b := E_b.wr W6
      replace f_b_nodes := f_b_nodes.same W6
      replace f_b_size := f_b_size.other W6 (Or.inr (slot_ne (t := .int) (t' := (.array .int)) (show Laid Z a0 "com/example/twigtrim/twigtrim/NodeBuffer" "com/example/twigtrim/twigtrim/NodeBuffer" "size" "I" from Or.inl (hw _ (List.mem_of_getElem? (i := 19) rfl))) (show Laid Z a0 "com/example/twigtrim/twigtrim/NodeBuffer" "com/example/twigtrim/twigtrim/NodeBuffer" "nodes" "[I" from Or.inl (hw _ (List.mem_of_getElem? (i := 12) rfl))) (by decide) (by decide) (by decide)))
      replace F_t := F_t.other W6 (Ne.symm ne_b_t)
      replace F_t2 := F_t2.other W6 (Ne.symm ne_b_t2)
      have K6 : Keep h0 T6.heap [b, t] := K5.wr W6 (Or.inl (List.mem_of_getElem? (i := 0) rfl))
      refine g_aloadN X6 hx 30 (hb hby d7_29) rfl rfl rfl ?_
      refine g_getF X6 hx hZ 33 hown (hw _ (List.mem_of_getElem? (i := 11) rfl)) e6 f_b_nodes (hb hby d7_30) rfl ?_
      intro T7 X7 e7
      have N7 := N6
      have M7 := M6
      have K7 := K6
      refine g_aloadN X7 hx 34 (hb hby d7_33) rfl rfl rfl ?_
      refine g_dup X7 hx 35 (hb hby d7_34) rfl rfl ?_
      refine g_getF X7 hx hZ 38 hown (hw _ (List.mem_of_getElem? (i := 18) rfl)) e7 f_b_size (hb hby d7_35) rfl ?_
      intro T8 X8 e8
      have N8 := N7
      have M8 := M7
      have K8 := K7
      refine g_dupX1 X8 hx 39 (hb hby d7_38) rfl rfl rfl ?_
      refine g_iconst X8 hx 40 (hb hby d7_39) (1 : Int32) (by decide) rfl ?_
      refine g_iadd X8 hx 41 (hb hby d7_40) rfl ?_
      refine g_putF X8 hx hZ 44 (ty := .int) hown (hw _ (List.mem_of_getElem? (i := 18) rfl)) e8 f_b_size E_b (Or.inl (hw _ (List.mem_of_getElem? (i := 19) rfl))) (hw _ (List.mem_of_getElem? (i := 3) rfl)) (by decide) rfl rfl (hb hby d7_41) rfl ?_
      intro T9 X9 W9
      have e9 : T9.heap = T9.heap := rfl
      have N9 := Fr.snoc X9 N8 Z_b
      have M9 : n0 ≤ T9.heap.size := by rw [W9.size]; exact M8
      replace E_b := E_b.wr W9
      replace f_b_nodes := f_b_nodes.other W9 (Or.inr (slot_ne (t := (.array .int)) (t' := .int) (show Laid Z a0 "com/example/twigtrim/twigtrim/NodeBuffer" "com/example/twigtrim/twigtrim/NodeBuffer" "nodes" "[I" from Or.inl (hw _ (List.mem_of_getElem? (i := 12) rfl))) (show Laid Z a0 "com/example/twigtrim/twigtrim/NodeBuffer" "com/example/twigtrim/twigtrim/NodeBuffer" "size" "I" from Or.inl (hw _ (List.mem_of_getElem? (i := 19) rfl))) (by decide) (by decide) (by decide)))
      replace f_b_size := f_b_size.same W9
      replace F_t := F_t.other W9 (Ne.symm ne_b_t)
      replace F_t2 := F_t2.other W9 (Ne.symm ne_b_t2)
      have K9 : Keep h0 T9.heap [b, t] := K8.wr W9 (Or.inl (List.mem_of_getElem? (i := 0) rfl))
      refine g_iloadN X9 hx 45 (hb hby d7_44) rfl rfl ?_
      refine g_iastore X9 hx hZ 46 e9 F_t2 (hb hby d7_45) (8) (by decide) (by decide) rfl ?_
      intro T10 X10 W10 G10
      replace F_t2 := G10
      have e10 : T10.heap = T10.heap := rfl
      have N10 := Fr.snoc X10 N9 Z_t2
      have M10 : n0 ≤ T10.heap.size := by rw [W10.size]; exact M9
      replace E_b := E_b.wr W10
      replace f_b_nodes := f_b_nodes.other W10 (Or.inl ne_b_t2)
      replace f_b_size := f_b_size.other W10 (Or.inl ne_b_t2)
      replace F_t := F_t.other W10 ne_t_t2
      have K10 : Keep h0 T10.heap [b, t] := K9.wr W10 (Or.inr G_t2)
      refine g_ret0 X10 hx hret hlk (hb hby d7_46) (by decide) (by decide) ?_
      refine ⟨rfl, N10, K10, t2, 16, (8 : Int32) + 1, (fun i => if i = 8 then x else if i < 8 then g i else 0), Z_t2, Or.inr G_t2, ne_b_t2, ⟨E_b, f_b_nodes, f_b_size, F_t2.congr (f' := fun i => .int ((fun i => if i = 8 then x else if i < 8 then g i else 0) i)) (fun i hi => by by_cases q : i = 8 <;> simp [q]), own_plus (by decide) (by decide) (by omega), Or.inr ⟨rfl, by omega⟩⟩, fun i hi => ?_⟩
      by_cases q : i = 8
      · simp only [q, if_true]; exact hx_
      · simp only [q, if_false]; rw [if_pos (by omega)]; exact hG i (by omega)
    · refine g_icT X2 hx 29 (hb hby d7_9) (Jvm.Free.XT.ii_ne_t c9) (by decide) (by decide) ?_
      refine g_aloadN X2 hx 30 (hb hby d7_29) rfl rfl rfl ?_
      refine g_getF X2 hx hZ 33 hown (hw _ (List.mem_of_getElem? (i := 11) rfl)) e2 f_b_nodes (hb hby d7_30) rfl ?_
      intro T11 X11 e11
      have N11 := N2
      have M11 := M2
      have K11 := K2
      refine g_aloadN X11 hx 34 (hb hby d7_33) rfl rfl rfl ?_
      refine g_dup X11 hx 35 (hb hby d7_34) rfl rfl ?_
      refine g_getF X11 hx hZ 38 hown (hw _ (List.mem_of_getElem? (i := 18) rfl)) e11 f_b_size (hb hby d7_35) rfl ?_
      intro T12 X12 e12
      have N12 := N11
      have M12 := M11
      have K12 := K11
      refine g_dupX1 X12 hx 39 (hb hby d7_38) rfl rfl rfl ?_
      refine g_iconst X12 hx 40 (hb hby d7_39) (1 : Int32) (by decide) rfl ?_
      refine g_iadd X12 hx 41 (hb hby d7_40) rfl ?_
      refine g_putF X12 hx hZ 44 (ty := .int) hown (hw _ (List.mem_of_getElem? (i := 18) rfl)) e12 f_b_size E_b (Or.inl (hw _ (List.mem_of_getElem? (i := 19) rfl))) (hw _ (List.mem_of_getElem? (i := 3) rfl)) (by decide) rfl rfl (hb hby d7_41) rfl ?_
      intro T13 X13 W13
      have e13 : T13.heap = T13.heap := rfl
      have N13 := Fr.snoc X13 N12 Z_b
      have M13 : n0 ≤ T13.heap.size := by rw [W13.size]; exact M12
      replace E_b := E_b.wr W13
      replace f_b_nodes := f_b_nodes.other W13 (Or.inr (slot_ne (t := (.array .int)) (t' := .int) (show Laid Z a0 "com/example/twigtrim/twigtrim/NodeBuffer" "com/example/twigtrim/twigtrim/NodeBuffer" "nodes" "[I" from Or.inl (hw _ (List.mem_of_getElem? (i := 12) rfl))) (show Laid Z a0 "com/example/twigtrim/twigtrim/NodeBuffer" "com/example/twigtrim/twigtrim/NodeBuffer" "size" "I" from Or.inl (hw _ (List.mem_of_getElem? (i := 19) rfl))) (by decide) (by decide) (by decide)))
      replace f_b_size := f_b_size.same W13
      replace F_t := F_t.other W13 (Ne.symm ne_b_t)
      have K13 : Keep h0 T13.heap [b, t] := K12.wr W13 (Or.inl (List.mem_of_getElem? (i := 0) rfl))
      refine g_iloadN X13 hx 45 (hb hby d7_44) rfl rfl ?_
      refine g_iastore X13 hx hZ 46 e13 F_t (hb hby d7_45) (sN) hsz (by have q : ¬ sN = 8 := fun q => c9 (own_z hsz (by rw [q]; decide)); omega) rfl ?_
      intro T14 X14 W14 G14
      replace F_t := G14
      have e14 : T14.heap = T14.heap := rfl
      have N14 := Fr.snoc X14 N13 Z_t
      have M14 : n0 ≤ T14.heap.size := by rw [W14.size]; exact M13
      replace E_b := E_b.wr W14
      replace f_b_nodes := f_b_nodes.other W14 (Or.inl ne_b_t)
      replace f_b_size := f_b_size.other W14 (Or.inl ne_b_t)
      have K14 : Keep h0 T14.heap [b, t] := K13.wr W14 (Or.inl (List.mem_of_getElem? (i := 1) rfl))
      refine g_ret0 X14 hx hret hlk (hb hby d7_46) (by decide) (by decide) ?_
      refine ⟨rfl, N14, K14, t, 8, sz + 1, (fun i => if i = sN then x else g i), Z_t, Or.inl rfl, ne_b_t, ⟨E_b, f_b_nodes, f_b_size, F_t.congr (f' := fun i => .int ((fun i => if i = sN then x else g i) i)) (fun i hi => by by_cases q : i = sN <;> simp [q]), own_plus hsz (by decide) (by omega), Or.inl ⟨rfl, by have q : ¬ sN = 8 := fun q => c9 (own_z hsz (by rw [q]; decide)); omega⟩⟩, fun i hi => ?_⟩
      by_cases q : i = sN
      · simp only [q, if_true]; exact hx_
      · simp only [q, if_false]; exact hG i (by omega)
  · skip
    refine g_aloadN X0 hx 1 (hb hby d7_0) rfl rfl rfl ?_
    refine g_getF X0 hx hZ 4 hown (hw _ (List.mem_of_getElem? (i := 18) rfl)) e0 f_b_size (hb hby d7_1) rfl ?_
    intro T15 X15 e15
    have N15 := N0
    have M15 := M0
    have K15 := K0
    refine g_aloadN X15 hx 5 (hb hby d7_4) rfl rfl rfl ?_
    refine g_getF X15 hx hZ 8 hown (hw _ (List.mem_of_getElem? (i := 11) rfl)) e15 f_b_nodes (hb hby d7_5) rfl ?_
    intro T16 X16 e16
    have N16 := N15
    have M16 := M15
    have K16 := K15
    refine g_arrlen X16 hx hZ 9 e16 F_t (16 : Int32) (by decide) (hb hby d7_8) rfl ?_
    refine g_icT X16 hx 29 (hb hby d7_9) (Jvm.Free.XT.ii_ne_t (show ¬ (sz = (16 : Int32)) from (fun q => by have z : (16 : Int32).toInt = 16 := (by decide); rw [q, z] at hsz; omega))) (by decide) (by decide) ?_
    refine g_aloadN X16 hx 30 (hb hby d7_29) rfl rfl rfl ?_
    refine g_getF X16 hx hZ 33 hown (hw _ (List.mem_of_getElem? (i := 11) rfl)) e16 f_b_nodes (hb hby d7_30) rfl ?_
    intro T17 X17 e17
    have N17 := N16
    have M17 := M16
    have K17 := K16
    refine g_aloadN X17 hx 34 (hb hby d7_33) rfl rfl rfl ?_
    refine g_dup X17 hx 35 (hb hby d7_34) rfl rfl ?_
    refine g_getF X17 hx hZ 38 hown (hw _ (List.mem_of_getElem? (i := 18) rfl)) e17 f_b_size (hb hby d7_35) rfl ?_
    intro T18 X18 e18
    have N18 := N17
    have M18 := M17
    have K18 := K17
    refine g_dupX1 X18 hx 39 (hb hby d7_38) rfl rfl rfl ?_
    refine g_iconst X18 hx 40 (hb hby d7_39) (1 : Int32) (by decide) rfl ?_
    refine g_iadd X18 hx 41 (hb hby d7_40) rfl ?_
    refine g_putF X18 hx hZ 44 (ty := .int) hown (hw _ (List.mem_of_getElem? (i := 18) rfl)) e18 f_b_size E_b (Or.inl (hw _ (List.mem_of_getElem? (i := 19) rfl))) (hw _ (List.mem_of_getElem? (i := 3) rfl)) (by decide) rfl rfl (hb hby d7_41) rfl ?_
    intro T19 X19 W19
    have e19 : T19.heap = T19.heap := rfl
    have N19 := Fr.snoc X19 N18 Z_b
    have M19 : n0 ≤ T19.heap.size := by rw [W19.size]; exact M18
    replace E_b := E_b.wr W19
    replace f_b_nodes := f_b_nodes.other W19 (Or.inr (slot_ne (t := (.array .int)) (t' := .int) (show Laid Z a0 "com/example/twigtrim/twigtrim/NodeBuffer" "com/example/twigtrim/twigtrim/NodeBuffer" "nodes" "[I" from Or.inl (hw _ (List.mem_of_getElem? (i := 12) rfl))) (show Laid Z a0 "com/example/twigtrim/twigtrim/NodeBuffer" "com/example/twigtrim/twigtrim/NodeBuffer" "size" "I" from Or.inl (hw _ (List.mem_of_getElem? (i := 19) rfl))) (by decide) (by decide) (by decide)))
    replace f_b_size := f_b_size.same W19
    replace F_t := F_t.other W19 (Ne.symm ne_b_t)
    have K19 : Keep h0 T19.heap [b, t] := K18.wr W19 (Or.inl (List.mem_of_getElem? (i := 0) rfl))
    refine g_iloadN X19 hx 45 (hb hby d7_44) rfl rfl ?_
    refine g_iastore X19 hx hZ 46 e19 F_t (hb hby d7_45) (sN) hsz (by omega) rfl ?_
    intro T20 X20 W20 G20
    replace F_t := G20
    have e20 : T20.heap = T20.heap := rfl
    have N20 := Fr.snoc X20 N19 Z_t
    have M20 : n0 ≤ T20.heap.size := by rw [W20.size]; exact M19
    replace E_b := E_b.wr W20
    replace f_b_nodes := f_b_nodes.other W20 (Or.inl ne_b_t)
    replace f_b_size := f_b_size.other W20 (Or.inl ne_b_t)
    have K20 : Keep h0 T20.heap [b, t] := K19.wr W20 (Or.inl (List.mem_of_getElem? (i := 1) rfl))
    refine g_ret0 X20 hx hret hlk (hb hby d7_46) (by decide) (by decide) ?_
    refine ⟨rfl, N20, K20, t, 16, sz + 1, (fun i => if i = sN then x else g i), Z_t, Or.inl rfl, ne_b_t, ⟨E_b, f_b_nodes, f_b_size, F_t.congr (f' := fun i => .int ((fun i => if i = sN then x else g i) i)) (fun i hi => by by_cases q : i = sN <;> simp [q]), own_plus hsz (by decide) (by omega), Or.inr ⟨rfl, by omega⟩⟩, fun i hi => ?_⟩
    by_cases q : i = sN
    · simp only [q, if_true]; exact hx_
    · simp only [q, if_false]; exact hG i (by omega)
def QAll (Z : State) (b t : Addr) (s : Nat) (G : Nat → Int32) (h0 : Heap) (n0 : Nat) (v : Option Value) (h : Heap) (L : List Loc) : Prop :=
  v = none ∧ Fr n0 L ∧ Keep h0 h [b, t] ∧ ∃ t' cap' sz' g', n0 ≤ t' ∧ (t' = t ∨ h0.size ≤ t') ∧ b ≠ t' ∧ Buf Z h b t' cap' sz' s g' ∧ ∀ i, i < s → g' i = G i
set_option maxRecDepth 65536 in
set_option maxHeartbeats 40000000 in
theorem rm3 (l : Launch) (Z : State) (a0 : Array Value) (hw : ∀ d ∈ tables_1, d.before a0 Z = true) (ws : List Jvm.Cond) (b t src : Addr) (q : Int32) (qN : Nat) (gm : Nat → Int32) (h0 : Heap) (n0 : Nat) (Z0 : n0 ≤ h0.size) (E_b : Exa Z h0 b "com/example/twigtrim/twigtrim/NodeBuffer") (f_b_nodes : Fld Z h0 b "com/example/twigtrim/twigtrim/NodeBuffer" "nodes" "[I" (.ref t)) (f_b_size : Fld Z h0 b "com/example/twigtrim/twigtrim/NodeBuffer" "size" "I" (.int 0)) (F_t : AV Z h0 t .int 8 (fun _ => .int 0)) (F_src : AV Z h0 src .int 10 (fun i => .int (gm i))) (hq : q.toInt = qN) (hq10 : qN ≤ 10) (Z_b : n0 ≤ b) (Z_t : n0 ≤ t) (ne_src_b : src ≠ b) (ne_src_t : src ≠ t) (ne_b_t : b ≠ t) :
    MetFree l (⟨"com/example/twigtrim/twigtrim/NodeBuffer", "addAll", "([III)V"⟩ : MethodName) (head1 (Jvm.Cond.code (⟨"com/example/twigtrim/twigtrim/NodeBuffer", "addAll", "([III)V"⟩ : MethodName) prog_31_method_3_code 5 none :: ws) ({ frames := 2, cells := 1, slots := 16, locals := 75 } : Room)) (fun av_ U_ => av_ = #[(.ref b), (.ref src), (.int (0 : Int32)), (.int q)] ∧ Z.Warmed39 U_.vm ∧ U_.heap = h0) (fun _ _ _ _ _ => True) (fun _ U_ o_ W_ => ∃ v_ L_, o_ = .returned v_ ∧ QAll Z b t qN gm h0 n0 v_ W_.heap L_ ∧ FrameEnd U_ o_ W_ L_ ({ frames := 2, cells := 1, slots := 16, locals := 75 } : Room).cells ({ frames := 2, cells := 1, slots := 16, locals := 75 } : Room).slots) := by
  refine own_start pn_5 ?_
  intro p e s m below meth c T0 X0 hx hby hml hown hnm hret hlk hZ e0
  have N0 := Fr.nil n0
  have M0 := Z0
  have K0 : Keep h0 h0 [b, t] := Keep.refl _ _
  refine Go.cast (show entryFrame m #[(.ref b), (.ref src), (.int (0 : Int32)), (.int q)] 5 = (mkF m 0 #[.val (.ref b), .val (.ref src), .val (.int (0 : Int32)), .val (.int q), .unset] []) from (by first | (simp [entryFrame, mkF, argsToLocals, Value.category, maxLocals]; done) | rfl)) ?_
  refine g_iloadN X0 hx 1 (hb hby d3_0) rfl rfl ?_
  refine g_iloadN X0 hx 2 (hb hby d3_1) rfl rfl ?_
  refine g_isub X0 hx 3 (hb hby d3_2) rfl ?_
  refine g_istore X0 hx 5 (hb hby d3_3) #[.val (.ref b), .val (.ref src), .val (.int (0 : Int32)), .val (.int q), .val (.int (q - (0 : Int32)))] rfl rfl ?_
  generalize h_cnt : (q - (0 : Int32)) = cnt
  have hcnt : cnt.toInt = qN := by rw [← h_cnt]; have u := own_minus (k := 0) (j := 0) hq (by decide) (by omega) (by omega); simpa using u
  have hsum : ((0 : Int32) + cnt).toInt = qN := by have u := own_plus (o := 0) (a := 0) (by decide) hcnt (by omega); simpa using u
  refine g_aloadN X0 hx 6 (hb hby d3_5) rfl rfl rfl ?_
  refine g_getF X0 hx hZ 9 hown (hw _ (List.mem_of_getElem? (i := 18) rfl)) e0 f_b_size (hb hby d3_6) rfl ?_
  intro T1 X1 e1
  have N1 := N0
  have M1 := M0
  have K1 := K0
  refine g_iload X1 hx 11 (hb hby d3_9) rfl rfl ?_
  refine g_iadd X1 hx 12 (hb hby d3_11) rfl ?_
  refine g_aloadN X1 hx 13 (hb hby d3_12) rfl rfl rfl ?_
  refine g_getF X1 hx hZ 16 hown (hw _ (List.mem_of_getElem? (i := 11) rfl)) e1 f_b_nodes (hb hby d3_13) rfl ?_
  intro T2 X2 e2
  have N2 := N1
  have M2 := M1
  have K2 := K1
  refine g_arrlen X2 hx hZ 17 e2 F_t (8 : Int32) (by decide) (hb hby d3_16) rfl ?_
  by_cases c17 : (8 : Int32) < ((0 : Int32) + cnt)
  · refine g_icF X2 hx 20 (hb hby d3_17) (Jvm.Free.XT.ii_le_f c17) rfl ?_
    refine g_aloadN X2 hx 21 (hb hby d3_20) rfl rfl rfl ?_
    refine g_aloadN X2 hx 22 (hb hby d3_21) rfl rfl rfl ?_
    refine g_getF X2 hx hZ 25 hown (hw _ (List.mem_of_getElem? (i := 11) rfl)) e2 f_b_nodes (hb hby d3_22) rfl ?_
    intro T3 X3 e3
    have N3 := N2
    have M3 := M2
    have K3 := K2
    refine g_iconst X3 hx 26 (hb hby d3_25) (2 : Int32) (by decide) rfl ?_
    refine g_aloadN X3 hx 27 (hb hby d3_26) rfl rfl rfl ?_
    refine g_getF X3 hx hZ 30 hown (hw _ (List.mem_of_getElem? (i := 11) rfl)) e3 f_b_nodes (hb hby d3_27) rfl ?_
    intro T4 X4 e4
    have N4 := N3
    have M4 := M3
    have K4 := K3
    refine g_arrlen X4 hx hZ 31 e4 F_t (8 : Int32) (by decide) (hb hby d3_30) rfl ?_
    refine g_imul X4 hx 32 (hb hby d3_31) rfl ?_
    rw [show (2 : Int32) * (8 : Int32) = 16 by decide]
    refine g_aloadN X4 hx 33 (hb hby d3_32) rfl rfl rfl ?_
    refine g_getF X4 hx hZ 36 hown (hw _ (List.mem_of_getElem? (i := 18) rfl)) e4 f_b_size (hb hby d3_33) rfl ?_
    intro T5 X5 e5
    have N5 := N4
    have M5 := M4
    have K5 := K4
    refine g_iload X5 hx 38 (hb hby d3_36) rfl rfl ?_
    refine g_iadd X5 hx 39 (hb hby d3_38) rfl ?_
    refine g_callS X5 hx hZ 42 [(.int (16 : Int32)), (.int ((0 : Int32) + cnt))] [(.ref t), (.ref b)] 2 hown (hw _ (List.mem_of_getElem? (i := 50) rfl)) (hw _ (List.mem_of_getElem? (i := 51) rfl)) (hw _ (List.mem_of_getElem? (i := 47) rfl)) (hw _ (List.mem_of_getElem? (i := 52) rfl)) (by decide) e5 (rm10 l Z a0 hw [] (16 : Int32) ((0 : Int32) + cnt) h0 n0 M5) (by decide) (by decide) (by decide) (by decide) (by rw [hml]; rfl) rfl pd_0 rfl (Nat.le_of_eq rfl) (hb hby d3_39) rfl ?_
    intro v6 T6 L6 X6 q6
    obtain ⟨rfl, Nq6, e6⟩ := q6
    have N6 := Fr.app N5 Nq6
    have M6 := M5
    have K6 := K5
    rw [show fMax (16 : Int32) ((0 : Int32) + cnt) = 16 from if_neg (fun q => by rw [Int32.lt_iff_toInt_lt, hsum] at q; have z : (16 : Int32).toInt = 16 := (by decide); omega)]
    refine g_callS X6 hx hZ 45 [(.ref t), (.int (16 : Int32))] [(.ref b)] 1 hown (hw _ (List.mem_of_getElem? (i := 41) rfl)) (hw _ (List.mem_of_getElem? (i := 42) rfl)) (hw _ (List.mem_of_getElem? (i := 43) rfl)) (hw _ (List.mem_of_getElem? (i := 44) rfl)) (by decide) e6 (rm8 l Z a0 hw [] t (fun _ => 0) h0 n0 M6 F_t) (by decide) (by decide) (by decide) (by decide) (by rw [hml]; rfl) rfl pd_1 rfl (Nat.le_of_eq rfl) (hb hby d3_42) rfl ?_
    intro v7 T7 L7 X7 q7
    obtain ⟨t2, rfl, Nq7, Z_t2, G0_t2, Kc7, F_t2⟩ := q7
    have N7 := Fr.app N6 Nq7
    have M7 : n0 ≤ T7.heap.size := Nat.le_trans M6 Kc7.1
    have e7 : T7.heap = T7.heap := rfl
    have ne_src_t2 : src ≠ t2 := Nat.ne_of_lt (Nat.lt_of_lt_of_le F_src.lt G0_t2)
    have ne_b_t2 : b ≠ t2 := Nat.ne_of_lt (Nat.lt_of_lt_of_le E_b.lt G0_t2)
    have ne_t_t2 : t ≠ t2 := Nat.ne_of_lt (Nat.lt_of_lt_of_le F_t.lt G0_t2)
    have G_t2 : h0.size ≤ t2 := Nat.le_trans K6.1 G0_t2
    replace F_src := F_src.keep Kc7 nin0
    replace E_b := E_b.keep Kc7
    replace f_b_nodes := f_b_nodes.keep Kc7 nin0
    replace f_b_size := f_b_size.keep Kc7 nin0
    replace F_t := F_t.keep Kc7 nin0
    have K7 : Keep h0 T7.heap [b, t] := K6.trans Kc7 all0
    refine g_putF X7 hx hZ 48 (ty := (.array .int)) hown (hw _ (List.mem_of_getElem? (i := 11) rfl)) e7 f_b_nodes E_b (Or.inl (hw _ (List.mem_of_getElem? (i := 12) rfl))) (hw _ (List.mem_of_getElem? (i := 3) rfl)) (by decide) rfl rfl (hb hby d3_45) rfl ?_
    intro T8 X8 W8
    have e8 : T8.heap = T8.heap := rfl
    have N8 := Fr.snoc X8 N7 Z_b
    have M8 : n0 ≤ T8.heap.size := by rw [W8.size]; exact M7
    replace F_src := F_src.other W8 ne_src_b
    replace E_b := E_b.wr W8
    replace f_b_nodes := f_b_nodes.same W8
    replace f_b_size := f_b_size.other W8 (Or.inr (slot_ne (t := .int) (t' := (.array .int)) (show Laid Z a0 "com/example/twigtrim/twigtrim/NodeBuffer" "com/example/twigtrim/twigtrim/NodeBuffer" "size" "I" from Or.inl (hw _ (List.mem_of_getElem? (i := 19) rfl))) (show Laid Z a0 "com/example/twigtrim/twigtrim/NodeBuffer" "com/example/twigtrim/twigtrim/NodeBuffer" "nodes" "[I" from Or.inl (hw _ (List.mem_of_getElem? (i := 12) rfl))) (by decide) (by decide) (by decide)))
    replace F_t := F_t.other W8 (Ne.symm ne_b_t)
    replace F_t2 := F_t2.other W8 (Ne.symm ne_b_t2)
    have K8 : Keep h0 T8.heap [b, t] := K7.wr W8 (Or.inl (List.mem_of_getElem? (i := 0) rfl))
    refine g_aloadN X8 hx 49 (hb hby d3_48) rfl rfl rfl ?_
    refine g_iloadN X8 hx 50 (hb hby d3_49) rfl rfl ?_
    refine g_aloadN X8 hx 51 (hb hby d3_50) rfl rfl rfl ?_
    refine g_getF X8 hx hZ 54 hown (hw _ (List.mem_of_getElem? (i := 11) rfl)) e8 f_b_nodes (hb hby d3_51) rfl ?_
    intro T9 X9 e9
    have N9 := N8
    have M9 := M8
    have K9 := K8
    refine g_aloadN X9 hx 55 (hb hby d3_54) rfl rfl rfl ?_
    refine g_getF X9 hx hZ 58 hown (hw _ (List.mem_of_getElem? (i := 18) rfl)) e9 f_b_size (hb hby d3_55) rfl ?_
    intro T10 X10 e10
    have N10 := N9
    have M10 := M9
    have K10 := K9
    refine g_iload X10 hx 60 (hb hby d3_58) rfl rfl ?_
    refine g_copy X10 hx hZ 63 0 (0) (0) (qN) hown (hw _ (List.mem_of_getElem? (i := 20) rfl)) (hw _ (List.mem_of_getElem? (i := 23) rfl)) (hw _ (List.mem_of_getElem? (i := 21) rfl)) (hw _ (List.mem_of_getElem? (i := 22) rfl)) e10 F_src F_t2 rfl (fun _ _ => rfl) (fun _ _ => rfl) (by decide) (by decide) (by decide) (by decide) hcnt (by omega) (by omega) N10 Z_t2 (by rw [hml]; rfl) (hb hby d3_60) (by decide) (Nat.le_of_eq rfl) (by decide) rfl ?_
    intro T11 L11 X11 N11 Kc11 G11
    have e11 : T11.heap = T11.heap := rfl
    have M11 : n0 ≤ T11.heap.size := Nat.le_trans M10 Kc11.1
    replace F_src := F_src.keep Kc11 (ninS ne_src_t2 nin0)
    replace E_b := E_b.keep Kc11
    replace f_b_nodes := f_b_nodes.keep Kc11 (ninS ne_b_t2 nin0)
    replace f_b_size := f_b_size.keep Kc11 (ninS ne_b_t2 nin0)
    replace F_t := F_t.keep Kc11 (ninS ne_t_t2 nin0)
    replace F_t2 := G11
    have K11 : Keep h0 T11.heap [b, t] := K10.trans Kc11 (allS (Or.inr G_t2) all0)
    refine g_aloadN X11 hx 64 (hb hby d3_63) rfl rfl rfl ?_
    refine g_dup X11 hx 65 (hb hby d3_64) rfl rfl ?_
    refine g_getF X11 hx hZ 68 hown (hw _ (List.mem_of_getElem? (i := 18) rfl)) e11 f_b_size (hb hby d3_65) rfl ?_
    intro T12 X12 e12
    have N12 := N11
    have M12 := M11
    have K12 := K11
    refine g_iload X12 hx 70 (hb hby d3_68) rfl rfl ?_
    refine g_iadd X12 hx 71 (hb hby d3_70) rfl ?_
    refine g_putF X12 hx hZ 74 (ty := .int) hown (hw _ (List.mem_of_getElem? (i := 18) rfl)) e12 f_b_size E_b (Or.inl (hw _ (List.mem_of_getElem? (i := 19) rfl))) (hw _ (List.mem_of_getElem? (i := 3) rfl)) (by decide) rfl rfl (hb hby d3_71) rfl ?_
    intro T13 X13 W13
    have e13 : T13.heap = T13.heap := rfl
    have N13 := Fr.snoc X13 N12 Z_b
    have M13 : n0 ≤ T13.heap.size := by rw [W13.size]; exact M12
    replace F_src := F_src.other W13 ne_src_b
    replace E_b := E_b.wr W13
    replace f_b_nodes := f_b_nodes.other W13 (Or.inr (slot_ne (t := (.array .int)) (t' := .int) (show Laid Z a0 "com/example/twigtrim/twigtrim/NodeBuffer" "com/example/twigtrim/twigtrim/NodeBuffer" "nodes" "[I" from Or.inl (hw _ (List.mem_of_getElem? (i := 12) rfl))) (show Laid Z a0 "com/example/twigtrim/twigtrim/NodeBuffer" "com/example/twigtrim/twigtrim/NodeBuffer" "size" "I" from Or.inl (hw _ (List.mem_of_getElem? (i := 19) rfl))) (by decide) (by decide) (by decide)))
    replace f_b_size := f_b_size.same W13
    replace F_t := F_t.other W13 (Ne.symm ne_b_t)
    replace F_t2 := F_t2.other W13 (Ne.symm ne_b_t2)
    have K13 : Keep h0 T13.heap [b, t] := K12.wr W13 (Or.inl (List.mem_of_getElem? (i := 0) rfl))
    refine g_ret0 X13 hx hret hlk (hb hby d3_74) (by decide) (by decide) ?_
    exact ⟨rfl, N13, K13, t2, 16, (0 : Int32) + cnt, (fun i => if i < qN then gm i else 0), Z_t2, Or.inr G_t2, ne_b_t2, ⟨E_b, f_b_nodes, f_b_size, F_t2.congr (f' := fun i => .int ((fun i => if i < qN then gm i else 0) i)) (fun i hi => by by_cases q : i < qN <;> simp [q]), hsum, Or.inr ⟨rfl, by omega⟩⟩, fun i hi => by simp [hi]⟩
  · refine g_icT X2 hx 48 (hb hby d3_17) (Jvm.Free.XT.ii_le_t c17) (by decide) (by decide) ?_
    refine g_aloadN X2 hx 49 (hb hby d3_48) rfl rfl rfl ?_
    refine g_iloadN X2 hx 50 (hb hby d3_49) rfl rfl ?_
    refine g_aloadN X2 hx 51 (hb hby d3_50) rfl rfl rfl ?_
    refine g_getF X2 hx hZ 54 hown (hw _ (List.mem_of_getElem? (i := 11) rfl)) e2 f_b_nodes (hb hby d3_51) rfl ?_
    intro T14 X14 e14
    have N14 := N2
    have M14 := M2
    have K14 := K2
    refine g_aloadN X14 hx 55 (hb hby d3_54) rfl rfl rfl ?_
    refine g_getF X14 hx hZ 58 hown (hw _ (List.mem_of_getElem? (i := 18) rfl)) e14 f_b_size (hb hby d3_55) rfl ?_
    intro T15 X15 e15
    have N15 := N14
    have M15 := M14
    have K15 := K14
    refine g_iload X15 hx 60 (hb hby d3_58) rfl rfl ?_
    refine g_copy X15 hx hZ 63 0 (0) (0) (qN) hown (hw _ (List.mem_of_getElem? (i := 20) rfl)) (hw _ (List.mem_of_getElem? (i := 23) rfl)) (hw _ (List.mem_of_getElem? (i := 21) rfl)) (hw _ (List.mem_of_getElem? (i := 22) rfl)) e15 F_src F_t rfl (fun _ _ => rfl) (fun _ _ => rfl) (by decide) (by decide) (by decide) (by decide) hcnt (by omega) (by have z : (8 : Int32).toInt = 8 := (by decide); rw [Int32.lt_iff_toInt_lt, hsum, z] at c17; omega) N15 Z_t (by rw [hml]; rfl) (hb hby d3_60) (by decide) (Nat.le_of_eq rfl) (by decide) rfl ?_
    intro T16 L16 X16 N16 Kc16 G16
    have e16 : T16.heap = T16.heap := rfl
    have M16 : n0 ≤ T16.heap.size := Nat.le_trans M15 Kc16.1
    replace F_src := F_src.keep Kc16 (ninS ne_src_t nin0)
    replace E_b := E_b.keep Kc16
    replace f_b_nodes := f_b_nodes.keep Kc16 (ninS ne_b_t nin0)
    replace f_b_size := f_b_size.keep Kc16 (ninS ne_b_t nin0)
    replace F_t := G16
    have K16 : Keep h0 T16.heap [b, t] := K15.trans Kc16 (allS (Or.inl (List.mem_of_getElem? (i := 1) rfl)) all0)
    refine g_aloadN X16 hx 64 (hb hby d3_63) rfl rfl rfl ?_
    refine g_dup X16 hx 65 (hb hby d3_64) rfl rfl ?_
    refine g_getF X16 hx hZ 68 hown (hw _ (List.mem_of_getElem? (i := 18) rfl)) e16 f_b_size (hb hby d3_65) rfl ?_
    intro T17 X17 e17
    have N17 := N16
    have M17 := M16
    have K17 := K16
    refine g_iload X17 hx 70 (hb hby d3_68) rfl rfl ?_
    refine g_iadd X17 hx 71 (hb hby d3_70) rfl ?_
    refine g_putF X17 hx hZ 74 (ty := .int) hown (hw _ (List.mem_of_getElem? (i := 18) rfl)) e17 f_b_size E_b (Or.inl (hw _ (List.mem_of_getElem? (i := 19) rfl))) (hw _ (List.mem_of_getElem? (i := 3) rfl)) (by decide) rfl rfl (hb hby d3_71) rfl ?_
    intro T18 X18 W18
    have e18 : T18.heap = T18.heap := rfl
    have N18 := Fr.snoc X18 N17 Z_b
    have M18 : n0 ≤ T18.heap.size := by rw [W18.size]; exact M17
    replace F_src := F_src.other W18 ne_src_b
    replace E_b := E_b.wr W18
    replace f_b_nodes := f_b_nodes.other W18 (Or.inr (slot_ne (t := (.array .int)) (t' := .int) (show Laid Z a0 "com/example/twigtrim/twigtrim/NodeBuffer" "com/example/twigtrim/twigtrim/NodeBuffer" "nodes" "[I" from Or.inl (hw _ (List.mem_of_getElem? (i := 12) rfl))) (show Laid Z a0 "com/example/twigtrim/twigtrim/NodeBuffer" "com/example/twigtrim/twigtrim/NodeBuffer" "size" "I" from Or.inl (hw _ (List.mem_of_getElem? (i := 19) rfl))) (by decide) (by decide) (by decide)))
    replace f_b_size := f_b_size.same W18
    replace F_t := F_t.other W18 (Ne.symm ne_b_t)
    have K18 : Keep h0 T18.heap [b, t] := K17.wr W18 (Or.inl (List.mem_of_getElem? (i := 0) rfl))
    refine g_ret0 X18 hx hret hlk (hb hby d3_74) (by decide) (by decide) ?_
    exact ⟨rfl, N18, K18, t, 8, (0 : Int32) + cnt, (fun i => if i < qN then gm i else 0), Z_t, Or.inl rfl, ne_b_t, ⟨E_b, f_b_nodes, f_b_size, F_t.congr (f' := fun i => .int ((fun i => if i < qN then gm i else 0) i)) (fun i hi => by by_cases q : i < qN <;> simp [q]), hsum, Or.inl ⟨rfl, by have z : (8 : Int32).toInt = 8 := (by decide); rw [Int32.lt_iff_toInt_lt, hsum, z] at c17; omega⟩⟩, fun i hi => by simp [hi]⟩
theorem own_next {g : Nat → Int32} {sN i x : Nat} : (if x = i then Value.int (g (sN - 1 - i)) else Value.int (if x < i then g (sN - 1 - x) else 0)) = .int (if x < i + 1 then g (sN - 1 - x) else 0) := by
  by_cases q : x = i
  · subst q; simp
  · by_cases q2 : x < i
    · simp [q, q2, show x < i + 1 by omega]
    · simp [q, q2, show ¬ x < i + 1 by omega]
set_option maxRecDepth 65536 in
set_option maxHeartbeats 40000000 in
theorem rm4 (l : Launch) (Z : State) (a0 : Array Value) (hw : ∀ d ∈ tables_1, d.before a0 Z = true) (ws : List Jvm.Cond) (b t : Addr) (sz : Int32) (sN cap : Nat) (g : Nat → Int32) (h0 : Heap) (n0 : Nat) (Z0 : n0 ≤ h0.size) (E_b : Exa Z h0 b "com/example/twigtrim/twigtrim/NodeBuffer") (f_b_nodes : Fld Z h0 b "com/example/twigtrim/twigtrim/NodeBuffer" "nodes" "[I" (.ref t)) (f_b_size : Fld Z h0 b "com/example/twigtrim/twigtrim/NodeBuffer" "size" "I" (.int sz)) (F_t : AV Z h0 t .int cap (fun i => .int (g i))) (hsz : sz.toInt = sN) (hs13 : sN ≤ 13) (hsc : sN ≤ cap) (ne_b_t : b ≠ t) :
    MetFree l (⟨"com/example/twigtrim/twigtrim/NodeBuffer", "toReversedArray", "()[I"⟩ : MethodName) (head1 (Jvm.Cond.code (⟨"com/example/twigtrim/twigtrim/NodeBuffer", "toReversedArray", "()[I"⟩ : MethodName) prog_31_method_6_code 3 (some (.array .int)) :: ws) ({ frames := 0, cells := 1, slots := 13, locals := 0 } : Room)) (fun av_ U_ => av_ = #[(.ref b)] ∧ Z.Warmed39 U_.vm ∧ U_.heap = h0) (fun _ _ _ _ _ => True) (fun _ U_ o_ W_ => ∃ v_ L_, o_ = .returned v_ ∧ QA Z sN (fun x => .int (g (sN - 1 - x))) h0 n0 v_ W_.heap L_ ∧ FrameEnd U_ o_ W_ L_ ({ frames := 0, cells := 1, slots := 13, locals := 0 } : Room).cells ({ frames := 0, cells := 1, slots := 13, locals := 0 } : Room).slots) := by
  refine own_start pn_6 ?_
  intro p e s m below meth c T0 X0 hx hby hml hown hnm hret hlk hZ e0
  have N0 := Fr.nil n0
  have M0 := Z0
  have K0 : Keep h0 h0 [] := Keep.refl _ _
  refine Go.cast (show entryFrame m #[(.ref b)] 3 = (mkF m 0 #[.val (.ref b), .unset, .unset] []) from (by first | (simp [entryFrame, mkF, argsToLocals, Value.category, maxLocals]; done) | rfl)) ?_
  refine g_aloadN X0 hx 1 (hb hby d4_0) rfl rfl rfl ?_
  refine g_getF X0 hx hZ 4 hown (hw _ (List.mem_of_getElem? (i := 18) rfl)) e0 f_b_size (hb hby d4_1) rfl ?_
  intro T1 X1 e1
  have N1 := N0
  have M1 := M0
  have K1 := K0
  refine g_newarr X1 hx hZ 6 (hw _ (List.mem_of_getElem? (i := 0) rfl)) e1 (hb hby d4_4) (sN) hsz 13 hs13 (by decide) (by decide) (by decide) rfl ?_
  intro T2 r X2 E2 g_r F_r
  have e2 : T2.heap = T2.heap := rfl
  have N2 := N1
  have Z_r : n0 ≤ r := by rw [g_r]; exact M1
  have M2 : n0 ≤ T2.heap.size := Nat.le_trans M1 E2.1
  have ne_b_r : b ≠ r := by rw [g_r]; exact Nat.ne_of_lt E_b.lt
  replace E_b := E_b.ext E2
  replace f_b_nodes := f_b_nodes.ext E2
  replace f_b_size := f_b_size.ext E2
  have ne_t_r : t ≠ r := by rw [g_r]; exact Nat.ne_of_lt F_t.lt
  replace F_t := F_t.ext E2
  have G_r : h0.size ≤ r := by rw [g_r]; exact K1.1
  have K2 : Keep h0 T2.heap [] := K1.ext E2
  refine g_astoreN X2 hx 7 (hb hby d4_6) rfl #[.val (.ref b), .val (.ref r), .unset] rfl rfl ?_
  refine g_iconst X2 hx 8 (hb hby d4_7) (0 : Int32) (by decide) rfl ?_
  refine g_istoreN X2 hx 9 (hb hby d4_8) #[.val (.ref b), .val (.ref r), .val (.int (0 : Int32))] rfl rfl ?_
  have loop : ∀ (k i : Nat) (i32 : Int32) (Tlp : State) (Llp : List Loc), sN - i < k → i ≤ sN → i32.toInt = i → Stand p l e ({ frames := 0, cells := 1, slots := 13, locals := 0 } : Room) s m #[(.ref b)] below meth c Tlp Llp 1 13 → Fr n0 Llp → n0 ≤ Tlp.heap.size → Keep h0 Tlp.heap [] → Fld Z Tlp.heap b "com/example/twigtrim/twigtrim/NodeBuffer" "nodes" "[I" (.ref t) → Fld Z Tlp.heap b "com/example/twigtrim/twigtrim/NodeBuffer" "size" "I" (.int sz) → Exa Z Tlp.heap b "com/example/twigtrim/twigtrim/NodeBuffer" → AV Z Tlp.heap t .int cap (fun i => .int (g i)) → AV Z Tlp.heap r .int sN (fun x => .int (if x < i then g (sN - 1 - x) else 0)) → Go p e below (Qend s (QA Z sN (fun x => .int (g (sN - 1 - x))) h0 n0) ({ frames := 0, cells := 1, slots := 13, locals := 0 } : Room).cells ({ frames := 0, cells := 1, slots := 13, locals := 0 } : Room).slots) Tlp (mkF m 9 #[.val (.ref b), .val (.ref r), .val (.int i32)] []) := by
    intro k
    induction k with
    | zero => intro i i32 Tlp Llp hk; omega
    | succ k ih =>
        intro i i32 Tlp Llp hk hi1 hi Xlp Nlp Mlp Klp f_b_nodes f_b_size E_b F_t F_r
        have elp : Tlp.heap = Tlp.heap := rfl
        refine g_iloadN Xlp hx 10 (hb hby d4_9) rfl rfl ?_
        refine g_aloadN Xlp hx 11 (hb hby d4_10) rfl rfl rfl ?_
        refine g_getF Xlp hx hZ 14 hown (hw _ (List.mem_of_getElem? (i := 18) rfl)) elp f_b_size (hb hby d4_11) rfl ?_
        intro T3 X3 e3
        have N3 := Nlp
        have M3 := Mlp
        have K3 := Klp
        by_cases c14 : i32 < sz
        · refine g_icF X3 hx 17 (hb hby d4_14) (Jvm.Free.XT.ii_ge_f c14) rfl ?_
          have li : i < sN := (own_lt hi hsz).mp c14
          have hix : ((sz - (1 : Int32)) - i32).toInt = ((sN - 1 - i : Nat) : Int) := own_minus (own_minus hsz (by decide) (by omega) (by omega)) hi (by omega) (by omega)
          refine g_aloadN X3 hx 18 (hb hby d4_17) rfl rfl rfl ?_
          refine g_iloadN X3 hx 19 (hb hby d4_18) rfl rfl ?_
          refine g_aloadN X3 hx 20 (hb hby d4_19) rfl rfl rfl ?_
          refine g_getF X3 hx hZ 23 hown (hw _ (List.mem_of_getElem? (i := 11) rfl)) e3 f_b_nodes (hb hby d4_20) rfl ?_
          intro T4 X4 e4
          have N4 := N3
          have M4 := M3
          have K4 := K3
          refine g_aloadN X4 hx 24 (hb hby d4_23) rfl rfl rfl ?_
          refine g_getF X4 hx hZ 27 hown (hw _ (List.mem_of_getElem? (i := 18) rfl)) e4 f_b_size (hb hby d4_24) rfl ?_
          intro T5 X5 e5
          have N5 := N4
          have M5 := M4
          have K5 := K4
          refine g_iconst X5 hx 28 (hb hby d4_27) (1 : Int32) (by decide) rfl ?_
          refine g_isub X5 hx 29 (hb hby d4_28) rfl ?_
          refine g_iloadN X5 hx 30 (hb hby d4_29) rfl rfl ?_
          refine g_isub X5 hx 31 (hb hby d4_30) rfl ?_
          refine g_iaload X5 hx hZ 32 e5 F_t (hb hby d4_31) (sN - 1 - i) hix (by omega) (.int (g (sN - 1 - i))) rfl rfl ?_
          refine g_iastore X5 hx hZ 33 e5 F_r (hb hby d4_32) (i) hi li rfl ?_
          intro T6 X6 W6 G6
          replace F_r := G6
          have e6 : T6.heap = T6.heap := rfl
          have N6 := Fr.snoc X6 N5 Z_r
          have M6 : n0 ≤ T6.heap.size := by rw [W6.size]; exact M5
          replace E_b := E_b.wr W6
          replace f_b_nodes := f_b_nodes.other W6 (Or.inl ne_b_r)
          replace f_b_size := f_b_size.other W6 (Or.inl ne_b_r)
          replace F_t := F_t.other W6 ne_t_r
          have K6 : Keep h0 T6.heap [] := K5.wr W6 (Or.inr G_r)
          refine g_iinc X6 hx 36 (hb hby d4_33) (1 : Int32) (by decide) rfl #[.val (.ref b), .val (.ref r), .val (.int (i32 + (1 : Int32)))] rfl rfl ?_
          refine g_goto X6 hx 9 (hb hby d4_36) (by decide) (by decide) ?_
          exact ih (i + 1) _ _ _ (by omega) (by omega) (own_plus hi (by decide) (by omega)) X6 N6 M6 K6 f_b_nodes f_b_size E_b F_t (F_r.congr (fun x hx => own_next))
        · refine g_icT X3 hx 39 (hb hby d4_14) (Jvm.Free.XT.ii_ge_t c14) (by decide) (by decide) ?_
          refine g_aloadN X3 hx 40 (hb hby d4_39) rfl rfl rfl ?_
          refine g_aret X3 hx rfl rfl rfl hret hlk (hb hby d4_40) (by decide) (by decide) ?_
          exact ⟨r, rfl, N3, Z_r, G_r, by rw [e3]; exact K3, by rw [e3]; exact F_r.congr (fun x hx => by have q : ¬ i < sN := fun q => c14 ((own_lt hi hsz).mpr q); simp [show x < i by omega])⟩
  exact loop _ 0 _ _ _ (Nat.lt_succ_self _) (by omega) (by decide) X2 N2 (by rw [e2]; exact M2) (by rw [e2]; exact K2) (by rw [e2]; exact f_b_nodes) (by rw [e2]; exact f_b_size) (by rw [e2]; exact E_b) (by rw [e2]; exact F_t) (by rw [e2]; exact F_r.congr (fun i hi => by simp; rfl))
set_option maxRecDepth 65536 in
set_option maxHeartbeats 40000000 in
theorem rm6 (l : Launch) (Z : State) (a0 : Array Value) (hw : ∀ d ∈ tables_1, d.before a0 Z = true) (ws : List Jvm.Cond) (i : Int32) (mo : Addr) (q : Int32) (ex : Addr) (iN qN : Nat) (gm ge : Nat → Int32) (h0 : Heap) (n0 : Nat) (Z0 : n0 ≤ h0.size) (hi : i.toInt = iN) (hq : q.toInt = qN) (hq10 : qN ≤ 10) (hi3 : iN < qN + 3) (F_mo : AV Z h0 mo .int 10 (fun i => .int (gm i))) (F_ex : AV Z h0 ex .int 3 (fun i => .int (ge i))) :
    MetFree l (⟨"com/example/twigtrim/twigtrim/NodeBufferToReversedArrayPinLaw", "expected", "(I[II[I)I"⟩ : MethodName) (head1 (Jvm.Cond.code (⟨"com/example/twigtrim/twigtrim/NodeBufferToReversedArrayPinLaw", "expected", "(I[II[I)I"⟩ : MethodName) method_2_code 4 (some .int) :: ws) ({ frames := 0, cells := 0, slots := 0, locals := 0 } : Room)) (fun av_ U_ => av_ = #[(.int i), (.ref mo), (.int q), (.ref ex)] ∧ Z.Warmed39 U_.vm ∧ U_.heap = h0) (fun _ _ _ _ _ => True) (fun _ U_ o_ W_ => ∃ v_ L_, o_ = .returned v_ ∧ QI (if iN < qN then gm iN else ge (iN - qN)) h0 n0 v_ W_.heap L_ ∧ FrameEnd U_ o_ W_ L_ ({ frames := 0, cells := 0, slots := 0, locals := 0 } : Room).cells ({ frames := 0, cells := 0, slots := 0, locals := 0 } : Room).slots) := by
  refine own_start pn_7 ?_
  intro p e s m below meth c T0 X0 hx hby hml hown hnm hret hlk hZ e0
  have N0 := Fr.nil n0
  have M0 := Z0
  refine Go.cast (show entryFrame m #[(.int i), (.ref mo), (.int q), (.ref ex)] 4 = (mkF m 0 #[.val (.int i), .val (.ref mo), .val (.int q), .val (.ref ex)] []) from (by first | (simp [entryFrame, mkF, argsToLocals, Value.category, maxLocals]; done) | rfl)) ?_
  refine g_iloadN X0 hx 1 (hb hby d6_0) rfl rfl ?_
  refine g_iloadN X0 hx 2 (hb hby d6_1) rfl rfl ?_
  by_cases c2 : i < q
  · refine g_icF X0 hx 5 (hb hby d6_2) (Jvm.Free.XT.ii_ge_f c2) rfl ?_
    refine g_aloadN X0 hx 6 (hb hby d6_5) rfl rfl rfl ?_
    refine g_iloadN X0 hx 7 (hb hby d6_6) rfl rfl ?_
    refine g_iaload X0 hx hZ 8 e0 F_mo (hb hby d6_7) (iN) hi (by have := (own_lt hi hq).mp c2; omega) (.int (gm (iN))) rfl rfl ?_
    refine g_iret X0 hx hret hlk (hb hby d6_8) (by decide) (by decide) ?_
    exact ⟨by rw [if_pos ((own_lt hi hq).mp c2)], N0, e0⟩
  · refine g_icT X0 hx 9 (hb hby d6_2) (Jvm.Free.XT.ii_ge_t c2) (by decide) (by decide) ?_
    refine g_aloadN X0 hx 10 (hb hby d6_9) rfl rfl rfl ?_
    refine g_iloadN X0 hx 11 (hb hby d6_10) rfl rfl ?_
    refine g_iloadN X0 hx 12 (hb hby d6_11) rfl rfl ?_
    refine g_isub X0 hx 13 (hb hby d6_12) rfl ?_
    refine g_iaload X0 hx hZ 14 e0 F_ex (hb hby d6_13) (iN - qN) (own_minus hi hq (by have q : ¬ iN < qN := fun q => c2 ((own_lt hi hq).mpr q); omega) (by omega)) (by omega) (.int (ge (iN - qN))) rfl rfl ?_
    refine g_iret X0 hx hret hlk (hb hby d6_14) (by decide) (by decide) ?_
    exact ⟨by rw [if_neg (fun q => c2 ((own_lt hi hq).mpr q))], N0, e0⟩
set_option maxRecDepth 65536 in
set_option maxHeartbeats 40000000 in
theorem rm5 (l : Launch) (Z : State) (a0 : Array Value) (hw : ∀ d ∈ tables_1, d.before a0 Z = true) (ws : List Jvm.Cond) (r : Addr) (k len : Int32) (mo : Addr) (q : Int32) (ex : Addr) (kN sN qN : Nat) (gm ge g : Nat → Int32) (h0 : Heap) (n0 : Nat) (Z0 : n0 ≤ h0.size) (hk : k.toInt = kN) (hlen : len.toInt = sN) (hq : q.toInt = qN) (hq10 : qN ≤ 10) (hs3 : sN ≤ qN + 3) (F_r : AV Z h0 r .int sN (fun x => .int (g (sN - 1 - x)))) (F_mo : AV Z h0 mo .int 10 (fun i => .int (gm i))) (F_ex : AV Z h0 ex .int 3 (fun i => .int (ge i))) (hg : ∀ i, i < sN → g i = if i < qN then gm i else ge (i - qN)) :
    MetFree l (⟨"com/example/twigtrim/twigtrim/NodeBufferToReversedArrayPinLaw", "at", "([III[II[I)Z"⟩ : MethodName) (head1 (Jvm.Cond.code (⟨"com/example/twigtrim/twigtrim/NodeBufferToReversedArrayPinLaw", "at", "([III[II[I)Z"⟩ : MethodName) method_3_code 6 (some .boolean) :: ws) ({ frames := 1, cells := 0, slots := 0, locals := 16 } : Room)) (fun av_ U_ => av_ = #[(.ref r), (.int k), (.int len), (.ref mo), (.int q), (.ref ex)] ∧ Z.Warmed39 U_.vm ∧ U_.heap = h0) (fun _ _ _ _ _ => True) (fun _ U_ o_ W_ => ∃ v_ L_, o_ = .returned v_ ∧ QI 1 h0 n0 v_ W_.heap L_ ∧ FrameEnd U_ o_ W_ L_ ({ frames := 1, cells := 0, slots := 0, locals := 16 } : Room).cells ({ frames := 1, cells := 0, slots := 0, locals := 16 } : Room).slots) := by
  refine own_start pn_8 ?_
  intro p e s m below meth c T0 X0 hx hby hml hown hnm hret hlk hZ e0
  have N0 := Fr.nil n0
  have M0 := Z0
  refine Go.cast (show entryFrame m #[(.ref r), (.int k), (.int len), (.ref mo), (.int q), (.ref ex)] 6 = (mkF m 0 #[.val (.ref r), .val (.int k), .val (.int len), .val (.ref mo), .val (.int q), .val (.ref ex)] []) from (by first | (simp [entryFrame, mkF, argsToLocals, Value.category, maxLocals]; done) | rfl)) ?_
  refine g_iloadN X0 hx 1 (hb hby d5_0) rfl rfl ?_
  refine g_iloadN X0 hx 2 (hb hby d5_1) rfl rfl ?_
  by_cases c2 : k < len
  · refine g_icT X0 hx 7 (hb hby d5_2) (Jvm.Free.XT.ii_lt_t c2) (by decide) (by decide) ?_
    have lk : kN < sN := (own_lt hk hlen).mp c2
    have hix : ((len - (1 : Int32)) - k).toInt = ((sN - 1 - kN : Nat) : Int) := own_minus (own_minus hlen (by decide) (by omega) (by omega)) hk (by omega) (by omega)
    refine g_aloadN X0 hx 8 (hb hby d5_7) rfl rfl rfl ?_
    refine g_iloadN X0 hx 9 (hb hby d5_8) rfl rfl ?_
    refine g_iaload X0 hx hZ 10 e0 F_r (hb hby d5_9) (kN) hk lk (.int (g (sN - 1 - kN))) rfl rfl ?_
    refine g_iloadN X0 hx 11 (hb hby d5_10) rfl rfl ?_
    refine g_iconst X0 hx 12 (hb hby d5_11) (1 : Int32) (by decide) rfl ?_
    refine g_isub X0 hx 13 (hb hby d5_12) rfl ?_
    refine g_iloadN X0 hx 14 (hb hby d5_13) rfl rfl ?_
    refine g_isub X0 hx 15 (hb hby d5_14) rfl ?_
    refine g_aloadN X0 hx 16 (hb hby d5_15) rfl rfl rfl ?_
    refine g_iload X0 hx 18 (hb hby d5_16) rfl rfl ?_
    refine g_aload X0 hx 20 (hb hby d5_18) rfl rfl rfl ?_
    refine g_callS X0 hx hZ 23 [(.int ((len - (1 : Int32)) - k)), (.ref mo), (.int q), (.ref ex)] [(.int (g (sN - 1 - kN)))] 1 hown (hw _ (List.mem_of_getElem? (i := 33) rfl)) (hw _ (List.mem_of_getElem? (i := 34) rfl)) (hw _ (List.mem_of_getElem? (i := 31) rfl)) (hw _ (List.mem_of_getElem? (i := 35) rfl)) (by decide) e0 (rm6 l Z a0 hw [] ((len - (1 : Int32)) - k) mo q ex (sN - 1 - kN) qN gm ge h0 n0 M0 hix hq hq10 (by omega) F_mo F_ex) (by decide) (by decide) (by decide) (by decide) (by rw [hml]; rfl) rfl pd_2 rfl (Nat.le_of_eq rfl) (hb hby d5_20) rfl ?_
    intro v1 T1 L1 X1 q1
    obtain ⟨rfl, Nq1, e1⟩ := q1
    have N1 := Fr.app N0 Nq1
    have M1 := M0
    refine g_icF X1 hx 26 (hb hby d5_23) (Jvm.Free.XT.ii_ne_f (show (g (sN - 1 - kN)) = (if sN - 1 - kN < qN then gm (sN - 1 - kN) else ge (sN - 1 - kN - qN)) from (hg _ (by omega)))) rfl ?_
    refine g_iconst X1 hx 27 (hb hby d5_26) (1 : Int32) (by decide) rfl ?_
    refine g_goto X1 hx 31 (hb hby d5_27) (by decide) (by decide) ?_
    refine g_nret X1 hx (by simp) hret hlk (hb hby d5_31) (by decide) (by decide) ?_
    exact ⟨rfl, N1, e1⟩
  · refine g_icF X0 hx 5 (hb hby d5_2) (Jvm.Free.XT.ii_lt_f c2) rfl ?_
    refine g_iconst X0 hx 6 (hb hby d5_5) (1 : Int32) (by decide) rfl ?_
    refine g_nret X0 hx (by simp) hret hlk (hb hby d5_6) (by decide) (by decide) ?_
    exact ⟨rfl, N0, e0⟩
def Q0 (n0 : Nat) (v : Option Value) (h : Heap) (L : List Loc) : Prop := v = some (.int 1) ∧ Fr n0 L
set_option maxRecDepth 65536 in
set_option maxHeartbeats 40000000 in
theorem rm0 (l : Launch) (Z : State) (a0 : Array Value) (hw : ∀ d ∈ tables_1, d.before a0 Z = true) (ws : List Jvm.Cond) (x0 x1 x2 x3 x4 x5 : Int32) (h0 : Heap) (n0 : Nat) (Z0 : n0 ≤ h0.size)  :
    MetFree l x (head1 (Jvm.Cond.code x code maxLocals ret :: ws) room_1) (fun av_ U_ => av_ = #[(.int x0), (.int x1), (.int x2), (.int x3), (.int x4), (.int x5)] ∧ Z.Warmed39 U_.vm ∧ U_.heap = h0) (fun _ _ _ _ _ => True) (fun _ U_ o_ W_ => ∃ v_ L_, o_ = .returned v_ ∧ Q0 n0 v_ W_.heap L_ ∧ FrameEnd U_ o_ W_ L_ room_1.cells room_1.slots) := by
  refine own_start pn_9 ?_
  intro p e s m below meth c T0 X0 hx hby hml hown hnm hret hlk hZ e0
  have N0 := Fr.nil n0
  have M0 := Z0
  refine Go.cast (show entryFrame m #[(.int x0), (.int x1), (.int x2), (.int x3), (.int x4), (.int x5)] maxLocals = (mkF m 0 #[.val (.int x0), .val (.int x1), .val (.int x2), .val (.int x3), .val (.int x4), .val (.int x5), .unset, .unset, .unset, .unset, .unset, .unset, .unset] []) from (by first | (simp [entryFrame, mkF, argsToLocals, Value.category, maxLocals]; done) | rfl)) ?_
  refine g_bipush X0 hx 2 (hb hby at_0) (10 : Int32) (by decide) rfl ?_
  refine g_newarr X0 hx hZ 4 (hw _ (List.mem_of_getElem? (i := 0) rfl)) e0 (hb hby at_2) (10) (by decide) 10 (by decide) (by decide) (by decide) (by decide) rfl ?_
  intro T1 mo X1 E1 g_mo F_mo
  have e1 : T1.heap = T1.heap := rfl
  have N1 := N0
  have Z_mo : n0 ≤ mo := by rw [g_mo]; exact M0
  have M1 : n0 ≤ T1.heap.size := Nat.le_trans M0 E1.1
  refine g_dup X1 hx 5 (hb hby at_4) rfl rfl ?_
  refine g_iconst X1 hx 6 (hb hby at_5) (0 : Int32) (by decide) rfl ?_
  refine g_iloadN X1 hx 7 (hb hby at_6) rfl rfl ?_
  refine g_iastore X1 hx hZ 8 e1 F_mo (hb hby at_7) (0) (by decide) (by decide) rfl ?_
  intro T2 X2 W2 G2
  replace F_mo := G2
  have e2 : T2.heap = T2.heap := rfl
  have N2 := Fr.snoc X2 N1 Z_mo
  have M2 : n0 ≤ T2.heap.size := by rw [W2.size]; exact M1
  refine g_dup X2 hx 9 (hb hby at_8) rfl rfl ?_
  refine g_iconst X2 hx 10 (hb hby at_9) (1 : Int32) (by decide) rfl ?_
  refine g_iloadN X2 hx 11 (hb hby at_10) rfl rfl ?_
  refine g_iastore X2 hx hZ 12 e2 F_mo (hb hby at_11) (1) (by decide) (by decide) rfl ?_
  intro T3 X3 W3 G3
  replace F_mo := G3
  have e3 : T3.heap = T3.heap := rfl
  have N3 := Fr.snoc X3 N2 Z_mo
  have M3 : n0 ≤ T3.heap.size := by rw [W3.size]; exact M2
  refine g_dup X3 hx 13 (hb hby at_12) rfl rfl ?_
  refine g_iconst X3 hx 14 (hb hby at_13) (2 : Int32) (by decide) rfl ?_
  refine g_iloadN X3 hx 15 (hb hby at_14) rfl rfl ?_
  refine g_iastore X3 hx hZ 16 e3 F_mo (hb hby at_15) (2) (by decide) (by decide) rfl ?_
  intro T4 X4 W4 G4
  replace F_mo := G4
  have e4 : T4.heap = T4.heap := rfl
  have N4 := Fr.snoc X4 N3 Z_mo
  have M4 : n0 ≤ T4.heap.size := by rw [W4.size]; exact M3
  refine g_dup X4 hx 17 (hb hby at_16) rfl rfl ?_
  refine g_iconst X4 hx 18 (hb hby at_17) (3 : Int32) (by decide) rfl ?_
  refine g_iloadN X4 hx 19 (hb hby at_18) rfl rfl ?_
  refine g_iastore X4 hx hZ 20 e4 F_mo (hb hby at_19) (3) (by decide) (by decide) rfl ?_
  intro T5 X5 W5 G5
  replace F_mo := G5
  have e5 : T5.heap = T5.heap := rfl
  have N5 := Fr.snoc X5 N4 Z_mo
  have M5 : n0 ≤ T5.heap.size := by rw [W5.size]; exact M4
  refine g_dup X5 hx 21 (hb hby at_20) rfl rfl ?_
  refine g_iconst X5 hx 22 (hb hby at_21) (4 : Int32) (by decide) rfl ?_
  refine g_iloadN X5 hx 23 (hb hby at_22) rfl rfl ?_
  refine g_iconst X5 hx 24 (hb hby at_23) (-1 : Int32) (by decide) rfl ?_
  refine g_ixor X5 hx 25 (hb hby at_24) rfl ?_
  refine g_iastore X5 hx hZ 26 e5 F_mo (hb hby at_25) (4) (by decide) (by decide) rfl ?_
  intro T6 X6 W6 G6
  replace F_mo := G6
  have e6 : T6.heap = T6.heap := rfl
  have N6 := Fr.snoc X6 N5 Z_mo
  have M6 : n0 ≤ T6.heap.size := by rw [W6.size]; exact M5
  refine g_dup X6 hx 27 (hb hby at_26) rfl rfl ?_
  refine g_iconst X6 hx 28 (hb hby at_27) (5 : Int32) (by decide) rfl ?_
  refine g_iloadN X6 hx 29 (hb hby at_28) rfl rfl ?_
  refine g_iloadN X6 hx 30 (hb hby at_29) rfl rfl ?_
  refine g_iadd X6 hx 31 (hb hby at_30) rfl ?_
  refine g_iastore X6 hx hZ 32 e6 F_mo (hb hby at_31) (5) (by decide) (by decide) rfl ?_
  intro T7 X7 W7 G7
  replace F_mo := G7
  have e7 : T7.heap = T7.heap := rfl
  have N7 := Fr.snoc X7 N6 Z_mo
  have M7 : n0 ≤ T7.heap.size := by rw [W7.size]; exact M6
  refine g_dup X7 hx 33 (hb hby at_32) rfl rfl ?_
  refine g_bipush X7 hx 35 (hb hby at_33) (6 : Int32) (by decide) rfl ?_
  refine g_iloadN X7 hx 36 (hb hby at_35) rfl rfl ?_
  refine g_iloadN X7 hx 37 (hb hby at_36) rfl rfl ?_
  refine g_ixor X7 hx 38 (hb hby at_37) rfl ?_
  refine g_iastore X7 hx hZ 39 e7 F_mo (hb hby at_38) (6) (by decide) (by decide) rfl ?_
  intro T8 X8 W8 G8
  replace F_mo := G8
  have e8 : T8.heap = T8.heap := rfl
  have N8 := Fr.snoc X8 N7 Z_mo
  have M8 : n0 ≤ T8.heap.size := by rw [W8.size]; exact M7
  refine g_dup X8 hx 40 (hb hby at_39) rfl rfl ?_
  refine g_bipush X8 hx 42 (hb hby at_40) (7 : Int32) (by decide) rfl ?_
  refine g_iloadN X8 hx 43 (hb hby at_42) rfl rfl ?_
  refine g_iloadN X8 hx 44 (hb hby at_43) rfl rfl ?_
  refine g_isub X8 hx 45 (hb hby at_44) rfl ?_
  refine g_iastore X8 hx hZ 46 e8 F_mo (hb hby at_45) (7) (by decide) (by decide) rfl ?_
  intro T9 X9 W9 G9
  replace F_mo := G9
  have e9 : T9.heap = T9.heap := rfl
  have N9 := Fr.snoc X9 N8 Z_mo
  have M9 : n0 ≤ T9.heap.size := by rw [W9.size]; exact M8
  refine g_dup X9 hx 47 (hb hby at_46) rfl rfl ?_
  refine g_bipush X9 hx 49 (hb hby at_47) (8 : Int32) (by decide) rfl ?_
  refine g_iloadN X9 hx 50 (hb hby at_49) rfl rfl ?_
  refine g_ineg X9 hx 51 (hb hby at_50) rfl ?_
  refine g_iastore X9 hx hZ 52 e9 F_mo (hb hby at_51) (8) (by decide) (by decide) rfl ?_
  intro T10 X10 W10 G10
  replace F_mo := G10
  have e10 : T10.heap = T10.heap := rfl
  have N10 := Fr.snoc X10 N9 Z_mo
  have M10 : n0 ≤ T10.heap.size := by rw [W10.size]; exact M9
  refine g_dup X10 hx 53 (hb hby at_52) rfl rfl ?_
  refine g_bipush X10 hx 55 (hb hby at_53) (9 : Int32) (by decide) rfl ?_
  refine g_iloadN X10 hx 56 (hb hby at_55) rfl rfl ?_
  refine g_iconst X10 hx 57 (hb hby at_56) (3 : Int32) (by decide) rfl ?_
  refine g_imul X10 hx 58 (hb hby at_57) rfl ?_
  refine g_iastore X10 hx hZ 59 e10 F_mo (hb hby at_58) (9) (by decide) (by decide) rfl ?_
  intro T11 X11 W11 G11
  replace F_mo := G11
  have e11 : T11.heap = T11.heap := rfl
  have N11 := Fr.snoc X11 N10 Z_mo
  have M11 : n0 ≤ T11.heap.size := by rw [W11.size]; exact M10
  refine g_astore X11 hx 61 (hb hby at_59) rfl #[.val (.int x0), .val (.int x1), .val (.int x2), .val (.int x3), .val (.int x4), .val (.int x5), .val (.ref mo), .unset, .unset, .unset, .unset, .unset, .unset] rfl rfl ?_
  obtain ⟨gm, Gmo⟩ := own_ints F_mo (fun i hi => by rcases (show i = 0 ∨ i = 1 ∨ i = 2 ∨ i = 3 ∨ i = 4 ∨ i = 5 ∨ i = 6 ∨ i = 7 ∨ i = 8 ∨ i = 9 by omega) with rfl | rfl | rfl | rfl | rfl | rfl | rfl | rfl | rfl | rfl <;> exact ⟨_, rfl⟩)
  replace F_mo := Gmo
  refine g_iconst X11 hx 62 (hb hby at_61) (3 : Int32) (by decide) rfl ?_
  refine g_newarr X11 hx hZ 64 (hw _ (List.mem_of_getElem? (i := 0) rfl)) e11 (hb hby at_62) (3) (by decide) 3 (by decide) (by decide) (by decide) (by decide) rfl ?_
  intro T12 ex X12 E12 g_ex F_ex
  have e12 : T12.heap = T12.heap := rfl
  have N12 := N11
  have Z_ex : n0 ≤ ex := by rw [g_ex]; exact M11
  have M12 : n0 ≤ T12.heap.size := Nat.le_trans M11 E12.1
  have ne_mo_ex : mo ≠ ex := by rw [g_ex]; exact Nat.ne_of_lt F_mo.lt
  replace F_mo := F_mo.ext E12
  refine g_dup X12 hx 65 (hb hby at_64) rfl rfl ?_
  refine g_iconst X12 hx 66 (hb hby at_65) (0 : Int32) (by decide) rfl ?_
  refine g_iloadN X12 hx 67 (hb hby at_66) rfl rfl ?_
  refine g_iastore X12 hx hZ 68 e12 F_ex (hb hby at_67) (0) (by decide) (by decide) rfl ?_
  intro T13 X13 W13 G13
  replace F_ex := G13
  have e13 : T13.heap = T13.heap := rfl
  have N13 := Fr.snoc X13 N12 Z_ex
  have M13 : n0 ≤ T13.heap.size := by rw [W13.size]; exact M12
  replace F_mo := F_mo.other W13 ne_mo_ex
  refine g_dup X13 hx 69 (hb hby at_68) rfl rfl ?_
  refine g_iconst X13 hx 70 (hb hby at_69) (1 : Int32) (by decide) rfl ?_
  refine g_iloadN X13 hx 71 (hb hby at_70) rfl rfl ?_
  refine g_iastore X13 hx hZ 72 e13 F_ex (hb hby at_71) (1) (by decide) (by decide) rfl ?_
  intro T14 X14 W14 G14
  replace F_ex := G14
  have e14 : T14.heap = T14.heap := rfl
  have N14 := Fr.snoc X14 N13 Z_ex
  have M14 : n0 ≤ T14.heap.size := by rw [W14.size]; exact M13
  replace F_mo := F_mo.other W14 ne_mo_ex
  refine g_dup X14 hx 73 (hb hby at_72) rfl rfl ?_
  refine g_iconst X14 hx 74 (hb hby at_73) (2 : Int32) (by decide) rfl ?_
  refine g_iloadN X14 hx 75 (hb hby at_74) rfl rfl ?_
  refine g_iastore X14 hx hZ 76 e14 F_ex (hb hby at_75) (2) (by decide) (by decide) rfl ?_
  intro T15 X15 W15 G15
  replace F_ex := G15
  have e15 : T15.heap = T15.heap := rfl
  have N15 := Fr.snoc X15 N14 Z_ex
  have M15 : n0 ≤ T15.heap.size := by rw [W15.size]; exact M14
  replace F_mo := F_mo.other W15 ne_mo_ex
  refine g_astore X15 hx 78 (hb hby at_76) rfl #[.val (.int x0), .val (.int x1), .val (.int x2), .val (.int x3), .val (.int x4), .val (.int x5), .val (.ref mo), .val (.ref ex), .unset, .unset, .unset, .unset, .unset] rfl rfl ?_
  obtain ⟨ge, Gex⟩ := own_ints F_ex (fun i hi => by rcases (show i = 0 ∨ i = 1 ∨ i = 2 by omega) with rfl | rfl | rfl <;> exact ⟨_, rfl⟩)
  replace F_ex := Gex
  refine g_iload X15 hx 80 (hb hby at_78) rfl rfl ?_
  refine g_ldcI X15 hx hZ (2147483647 : Int32) hown (hw _ (List.mem_of_getElem? (i := 1) rfl)) 82 (hb hby at_80) rfl ?_
  refine g_iand X15 hx 83 (hb hby at_82) rfl ?_
  refine g_bipush X15 hx 85 (hb hby at_83) (11 : Int32) (by decide) rfl ?_
  refine g_irem X15 hx 86 (hb hby at_85) (by decide) rfl ?_
  refine g_istore X15 hx 88 (hb hby at_86) #[.val (.int x0), .val (.int x1), .val (.int x2), .val (.int x3), .val (.int x4), .val (.int x5), .val (.ref mo), .val (.ref ex), .val (.int ((x5 &&& (2147483647 : Int32)) % (11 : Int32))), .unset, .unset, .unset, .unset] rfl rfl ?_
  generalize h_q : ((x5 &&& (2147483647 : Int32)) % (11 : Int32)) = q
  have rm := c_mask x5 2147483647 31 (by decide) (by decide)
  have rq := (c_irem (x5 &&& 2147483647) 11 11 (by decide)).1 (by omega)
  rw [h_q] at rq
  obtain ⟨qN, hq⟩ : ∃ o : Nat, q.toInt = o := ⟨q.toInt.toNat, by omega⟩
  have hq10 : qN ≤ 10 := by omega
  refine g_iload X15 hx 90 (hb hby at_88) rfl rfl ?_
  refine g_iconst X15 hx 91 (hb hby at_90) (3 : Int32) (by decide) rfl ?_
  refine g_iand X15 hx 92 (hb hby at_91) rfl ?_
  refine g_istore X15 hx 94 (hb hby at_92) #[.val (.int x0), .val (.int x1), .val (.int x2), .val (.int x3), .val (.int x4), .val (.int x5), .val (.ref mo), .val (.ref ex), .val (.int q), .val (.int (x4 &&& (3 : Int32))), .unset, .unset, .unset] rfl rfl ?_
  generalize h_pp : (x4 &&& (3 : Int32)) = pp
  have rp := c_mask x4 3 2 (by decide) (by decide)
  rw [h_pp] at rp
  refine g_new X15 hx hZ 97 hown (hw _ (List.mem_of_getElem? (i := 2) rfl)) (hw _ (List.mem_of_getElem? (i := 3) rfl)) (hw _ (List.mem_of_getElem? (i := 4) rfl)) e15 (hb hby at_94) (by decide) (by decide) rfl ?_
  intro T16 b X16 E16 g_b E_b D_b
  have e16 : T16.heap = T16.heap := rfl
  have N16 := N15
  have Z_b : n0 ≤ b := by rw [g_b]; exact M15
  have M16 : n0 ≤ T16.heap.size := Nat.le_trans M15 E16.1
  have ne_mo_b : mo ≠ b := by rw [g_b]; exact Nat.ne_of_lt F_mo.lt
  replace F_mo := F_mo.ext E16
  have ne_ex_b : ex ≠ b := by rw [g_b]; exact Nat.ne_of_lt F_ex.lt
  replace F_ex := F_ex.ext E16
  have f_b_nodes : Fld Z T16.heap b "com/example/twigtrim/twigtrim/NodeBuffer" "nodes" "[I" (.null) := D_b (show Laid Z a0 "com/example/twigtrim/twigtrim/NodeBuffer" "com/example/twigtrim/twigtrim/NodeBuffer" "nodes" "[I" from Or.inl (hw _ (List.mem_of_getElem? (i := 12) rfl))) (ty := (.array .int)) (by decide)
  have f_b_size : Fld Z T16.heap b "com/example/twigtrim/twigtrim/NodeBuffer" "size" "I" (.int (0 : Int32)) := D_b (show Laid Z a0 "com/example/twigtrim/twigtrim/NodeBuffer" "com/example/twigtrim/twigtrim/NodeBuffer" "size" "I" from Or.inl (hw _ (List.mem_of_getElem? (i := 19) rfl))) (ty := .int) (by decide)
  refine g_dup X16 hx 98 (hb hby at_97) rfl rfl ?_
  refine g_special X16 hx hZ 101 b [] [(.ref b)] 1 rfl hown (hw _ (List.mem_of_getElem? (i := 5) rfl)) (hw _ (List.mem_of_getElem? (i := 6) rfl)) (hw _ (List.mem_of_getElem? (i := 4) rfl)) (hw _ (List.mem_of_getElem? (i := 7) rfl)) (by decide) e16 (rm1 l Z a0 hw [] b T16.heap n0 M16 E_b Z_b f_b_nodes f_b_size) (by decide) (by decide) (by decide) (by decide) (by rw [hml]; rfl) rfl pd_3 rfl (Nat.le_of_eq rfl) (hb hby at_98) rfl ?_
  intro v17 T17 L17 X17 q17
  obtain ⟨rfl, Nq17, Kc17, t, Z_t, G_t, ⟨Eb, fn, fs, Fa, -, -⟩⟩ := q17
  have N17 := Fr.app N16 Nq17
  have M17 : n0 ≤ T17.heap.size := Nat.le_trans M16 Kc17.1
  have e17 : T17.heap = T17.heap := rfl
  have ne_mo_t : mo ≠ t := Nat.ne_of_lt (Nat.lt_of_lt_of_le F_mo.lt G_t)
  have ne_ex_t : ex ≠ t := Nat.ne_of_lt (Nat.lt_of_lt_of_le F_ex.lt G_t)
  have ne_b_t : b ≠ t := Nat.ne_of_lt (Nat.lt_of_lt_of_le E_b.lt G_t)
  replace F_mo := F_mo.keep Kc17 (ninS ne_mo_b nin0)
  replace F_ex := F_ex.keep Kc17 (ninS ne_ex_b nin0)
  replace E_b := Eb
  replace f_b_nodes := fn
  replace f_b_size := fs
  have F_t := Fa
  refine g_astore X17 hx 103 (hb hby at_101) rfl #[.val (.int x0), .val (.int x1), .val (.int x2), .val (.int x3), .val (.int x4), .val (.int x5), .val (.ref mo), .val (.ref ex), .val (.int q), .val (.int pp), .val (.ref b), .unset, .unset] rfl rfl ?_
  refine g_aload X17 hx 105 (hb hby at_103) rfl rfl rfl ?_
  refine g_aload X17 hx 107 (hb hby at_105) rfl rfl rfl ?_
  refine g_iconst X17 hx 108 (hb hby at_107) (0 : Int32) (by decide) rfl ?_
  refine g_iload X17 hx 110 (hb hby at_108) rfl rfl ?_
  refine g_virtual X17 hx hZ 113 b [(.ref mo), (.int (0 : Int32)), (.int q)] [] 0 E_b hown (hw _ (List.mem_of_getElem? (i := 13) rfl)) (hw _ (List.mem_of_getElem? (i := 14) rfl)) (hw _ (List.mem_of_getElem? (i := 16) rfl)) (hw _ (List.mem_of_getElem? (i := 15) rfl)) (hw _ (List.mem_of_getElem? (i := 4) rfl)) (hw _ (List.mem_of_getElem? (i := 17) rfl)) (by decide) e17 (rm3 l Z a0 hw [] b t mo q qN gm T17.heap n0 M17 E_b f_b_nodes f_b_size F_t F_mo hq hq10 Z_b Z_t ne_mo_b ne_mo_t ne_b_t) (by decide) (by decide) (by decide) (by decide) (by rw [hml]; rfl) rfl pd_4 rfl (Nat.le_of_eq rfl) (hb hby at_110) rfl ?_
  intro v18 T18 L18 X18 q18
  obtain ⟨rfl, Nq18, Kc18, t1, cap_t1, sz_t1, g_t1, Z_t1, tw, nb, ⟨Eb, fn, fs, Fa, hsz_t1, hcap_t1⟩, hG_t1⟩ := q18
  have N18 := Fr.app N17 Nq18
  have M18 : n0 ≤ T18.heap.size := Nat.le_trans M17 Kc18.1
  have e18 : T18.heap = T18.heap := rfl
  have ne_mo_t1 : mo ≠ t1 := by
    rcases tw with h | h
    · rw [h]; exact ne_mo_t
    · exact Nat.ne_of_lt (Nat.lt_of_lt_of_le F_mo.lt h)
  have ne_ex_t1 : ex ≠ t1 := by
    rcases tw with h | h
    · rw [h]; exact ne_ex_t
    · exact Nat.ne_of_lt (Nat.lt_of_lt_of_le F_ex.lt h)
  replace F_mo := F_mo.keep Kc18 (ninS ne_mo_b (ninS ne_mo_t nin0))
  replace F_ex := F_ex.keep Kc18 (ninS ne_ex_b (ninS ne_ex_t nin0))
  replace E_b := Eb
  replace f_b_nodes := fn
  replace f_b_size := fs
  have F_t1 := Fa
  have ne_b_t1 := nb
  clear tw nb
  rcases (show pp = 0 ∨ pp = 1 ∨ pp = 2 ∨ pp = 3 from by
      have z0 : (0 : Int32).toInt = 0 := by decide
      have z1 : (1 : Int32).toInt = 1 := by decide
      have z2 : (2 : Int32).toInt = 2 := by decide
      have z3 : (3 : Int32).toInt = 3 := by decide
      simp only [← Int32.toInt_inj, z0, z1, z2, z3]; omega) with rfl | rfl | rfl | rfl
  · skip
    refine g_iload X18 hx 115 (hb hby at_113) rfl rfl ?_
    refine g_iconst X18 hx 116 (hb hby at_115) (1 : Int32) (by decide) rfl ?_
    refine g_icT X18 hx 128 (hb hby at_116) (by decide) (by decide) (by decide) ?_
    refine g_iload X18 hx 130 (hb hby at_128) rfl rfl ?_
    refine g_iconst X18 hx 131 (hb hby at_130) (2 : Int32) (by decide) rfl ?_
    refine g_icT X18 hx 143 (hb hby at_131) (by decide) (by decide) (by decide) ?_
    refine g_iload X18 hx 145 (hb hby at_143) rfl rfl ?_
    refine g_iconst X18 hx 146 (hb hby at_145) (3 : Int32) (by decide) rfl ?_
    refine g_icT X18 hx 158 (hb hby at_146) (by decide) (by decide) (by decide) ?_
    refine g_iload X18 hx 160 (hb hby at_158) rfl rfl ?_
    refine g_iload X18 hx 162 (hb hby at_160) rfl rfl ?_
    refine g_iadd X18 hx 163 (hb hby at_162) rfl ?_
    refine g_istore X18 hx 165 (hb hby at_163) #[.val (.int x0), .val (.int x1), .val (.int x2), .val (.int x3), .val (.int x4), .val (.int x5), .val (.ref mo), .val (.ref ex), .val (.int q), .val (.int (0 : Int32)), .val (.ref b), .val (.int (q + (0 : Int32))), .unset] rfl rfl ?_
    have hlen : (q + (0 : Int32)).toInt = ((qN + 0 : Nat) : Int) := own_plus hq (by decide) (by omega)
    have hsz_fin : sz_t1.toInt = ((qN + 0 : Nat) : Int) := hsz_t1
    have hG_fin : ∀ i, i < qN + 0 → g_t1 i = if i < qN then gm i else ge (i - qN) := fun i hi => by rw [hG_t1 i hi, if_pos (by omega)]
    refine g_aload X18 hx 167 (hb hby at_165) rfl rfl rfl ?_
    refine g_virtual X18 hx hZ 170 b [] [] 0 E_b hown (hw _ (List.mem_of_getElem? (i := 24) rfl)) (hw _ (List.mem_of_getElem? (i := 25) rfl)) (hw _ (List.mem_of_getElem? (i := 27) rfl)) (hw _ (List.mem_of_getElem? (i := 26) rfl)) (hw _ (List.mem_of_getElem? (i := 4) rfl)) (hw _ (List.mem_of_getElem? (i := 28) rfl)) (by decide) e18 (rm4 l Z a0 hw [] b t1 sz_t1 (qN + 0) cap_t1 g_t1 T18.heap n0 M18 E_b f_b_nodes f_b_size F_t1 hsz_fin (by omega) (by omega) ne_b_t1) (by decide) (by decide) (by decide) (by decide) (by rw [hml]; rfl) rfl pd_5 rfl (Nat.le_of_eq rfl) (hb hby at_167) rfl ?_
    intro v19 T19 L19 X19 q19
    obtain ⟨r, rfl, Nq19, Z_r, G_r, Kc19, F_r⟩ := q19
    have N19 := Fr.app N18 Nq19
    have M19 : n0 ≤ T19.heap.size := Nat.le_trans M18 Kc19.1
    have e19 : T19.heap = T19.heap := rfl
    replace F_mo := F_mo.keep Kc19 nin0
    replace F_ex := F_ex.keep Kc19 nin0
    replace E_b := E_b.keep Kc19
    replace f_b_nodes := f_b_nodes.keep Kc19 nin0
    replace f_b_size := f_b_size.keep Kc19 nin0
    replace F_t1 := F_t1.keep Kc19 nin0
    refine g_astore X19 hx 172 (hb hby at_170) rfl #[.val (.int x0), .val (.int x1), .val (.int x2), .val (.int x3), .val (.int x4), .val (.int x5), .val (.ref mo), .val (.ref ex), .val (.int q), .val (.int (0 : Int32)), .val (.ref b), .val (.int (q + (0 : Int32))), .val (.ref r)] rfl rfl ?_
    refine g_aload X19 hx 174 (hb hby at_172) rfl rfl rfl ?_
    refine g_arrlen X19 hx hZ 175 e19 F_r sz_t1 hsz_fin (hb hby at_174) rfl ?_
    refine g_iload X19 hx 177 (hb hby at_175) rfl rfl ?_
    refine g_icT X19 hx 182 (hb hby at_177) (Jvm.Free.XT.ii_eq_t (show sz_t1 = (q + (0 : Int32)) from (Int32.toInt_inj.mp (by rw [hsz_fin, hlen])))) (by decide) (by decide) ?_
    refine g_aload X19 hx 184 (hb hby at_182) rfl rfl rfl ?_
    refine g_iconst X19 hx 185 (hb hby at_184) (0 : Int32) (by decide) rfl ?_
    refine g_iload X19 hx 187 (hb hby at_185) rfl rfl ?_
    refine g_aload X19 hx 189 (hb hby at_187) rfl rfl rfl ?_
    refine g_iload X19 hx 191 (hb hby at_189) rfl rfl ?_
    refine g_aload X19 hx 193 (hb hby at_191) rfl rfl rfl ?_
    refine g_callS X19 hx hZ 196 [(.ref r), (.int (0 : Int32)), (.int (q + (0 : Int32))), (.ref mo), (.int q), (.ref ex)] [] 0 hown (hw _ (List.mem_of_getElem? (i := 29) rfl)) (hw _ (List.mem_of_getElem? (i := 30) rfl)) (hw _ (List.mem_of_getElem? (i := 31) rfl)) (hw _ (List.mem_of_getElem? (i := 32) rfl)) (by decide) e19 (rm5 l Z a0 hw [] r (0 : Int32) (q + (0 : Int32)) mo q ex 0 (qN + 0) qN gm ge g_t1 T19.heap n0 M19 (by decide) hlen hq hq10 (by omega) F_r F_mo F_ex hG_fin) (by decide) (by decide) (by decide) (by decide) (by rw [hml]; rfl) rfl pd_6 rfl (Nat.le_of_eq rfl) (hb hby at_193) rfl ?_
    intro v20 T20 L20 X20 q20
    obtain ⟨rfl, Nq20, e20⟩ := q20
    have N20 := Fr.app N19 Nq20
    have M20 := M19
    refine g_ifF X20 hx 199 (hb hby at_196) (by decide) rfl ?_
    refine g_aload X20 hx 201 (hb hby at_199) rfl rfl rfl ?_
    refine g_iconst X20 hx 202 (hb hby at_201) (1 : Int32) (by decide) rfl ?_
    refine g_iload X20 hx 204 (hb hby at_202) rfl rfl ?_
    refine g_aload X20 hx 206 (hb hby at_204) rfl rfl rfl ?_
    refine g_iload X20 hx 208 (hb hby at_206) rfl rfl ?_
    refine g_aload X20 hx 210 (hb hby at_208) rfl rfl rfl ?_
    refine g_callS X20 hx hZ 213 [(.ref r), (.int (1 : Int32)), (.int (q + (0 : Int32))), (.ref mo), (.int q), (.ref ex)] [] 0 hown (hw _ (List.mem_of_getElem? (i := 29) rfl)) (hw _ (List.mem_of_getElem? (i := 30) rfl)) (hw _ (List.mem_of_getElem? (i := 31) rfl)) (hw _ (List.mem_of_getElem? (i := 32) rfl)) (by decide) e20 (rm5 l Z a0 hw [] r (1 : Int32) (q + (0 : Int32)) mo q ex 1 (qN + 0) qN gm ge g_t1 T19.heap n0 M20 (by decide) hlen hq hq10 (by omega) F_r F_mo F_ex hG_fin) (by decide) (by decide) (by decide) (by decide) (by rw [hml]; rfl) rfl pd_6 rfl (Nat.le_of_eq rfl) (hb hby at_210) rfl ?_
    intro v21 T21 L21 X21 q21
    obtain ⟨rfl, Nq21, e21⟩ := q21
    have N21 := Fr.app N20 Nq21
    have M21 := M20
    refine g_ifF X21 hx 216 (hb hby at_213) (by decide) rfl ?_
    refine g_aload X21 hx 218 (hb hby at_216) rfl rfl rfl ?_
    refine g_iconst X21 hx 219 (hb hby at_218) (2 : Int32) (by decide) rfl ?_
    refine g_iload X21 hx 221 (hb hby at_219) rfl rfl ?_
    refine g_aload X21 hx 223 (hb hby at_221) rfl rfl rfl ?_
    refine g_iload X21 hx 225 (hb hby at_223) rfl rfl ?_
    refine g_aload X21 hx 227 (hb hby at_225) rfl rfl rfl ?_
    refine g_callS X21 hx hZ 230 [(.ref r), (.int (2 : Int32)), (.int (q + (0 : Int32))), (.ref mo), (.int q), (.ref ex)] [] 0 hown (hw _ (List.mem_of_getElem? (i := 29) rfl)) (hw _ (List.mem_of_getElem? (i := 30) rfl)) (hw _ (List.mem_of_getElem? (i := 31) rfl)) (hw _ (List.mem_of_getElem? (i := 32) rfl)) (by decide) e21 (rm5 l Z a0 hw [] r (2 : Int32) (q + (0 : Int32)) mo q ex 2 (qN + 0) qN gm ge g_t1 T19.heap n0 M21 (by decide) hlen hq hq10 (by omega) F_r F_mo F_ex hG_fin) (by decide) (by decide) (by decide) (by decide) (by rw [hml]; rfl) rfl pd_6 rfl (Nat.le_of_eq rfl) (hb hby at_227) rfl ?_
    intro v22 T22 L22 X22 q22
    obtain ⟨rfl, Nq22, e22⟩ := q22
    have N22 := Fr.app N21 Nq22
    have M22 := M21
    refine g_ifF X22 hx 233 (hb hby at_230) (by decide) rfl ?_
    refine g_aload X22 hx 235 (hb hby at_233) rfl rfl rfl ?_
    refine g_iconst X22 hx 236 (hb hby at_235) (3 : Int32) (by decide) rfl ?_
    refine g_iload X22 hx 238 (hb hby at_236) rfl rfl ?_
    refine g_aload X22 hx 240 (hb hby at_238) rfl rfl rfl ?_
    refine g_iload X22 hx 242 (hb hby at_240) rfl rfl ?_
    refine g_aload X22 hx 244 (hb hby at_242) rfl rfl rfl ?_
    refine g_callS X22 hx hZ 247 [(.ref r), (.int (3 : Int32)), (.int (q + (0 : Int32))), (.ref mo), (.int q), (.ref ex)] [] 0 hown (hw _ (List.mem_of_getElem? (i := 29) rfl)) (hw _ (List.mem_of_getElem? (i := 30) rfl)) (hw _ (List.mem_of_getElem? (i := 31) rfl)) (hw _ (List.mem_of_getElem? (i := 32) rfl)) (by decide) e22 (rm5 l Z a0 hw [] r (3 : Int32) (q + (0 : Int32)) mo q ex 3 (qN + 0) qN gm ge g_t1 T19.heap n0 M22 (by decide) hlen hq hq10 (by omega) F_r F_mo F_ex hG_fin) (by decide) (by decide) (by decide) (by decide) (by rw [hml]; rfl) rfl pd_6 rfl (Nat.le_of_eq rfl) (hb hby at_244) rfl ?_
    intro v23 T23 L23 X23 q23
    obtain ⟨rfl, Nq23, e23⟩ := q23
    have N23 := Fr.app N22 Nq23
    have M23 := M22
    refine g_ifF X23 hx 250 (hb hby at_247) (by decide) rfl ?_
    refine g_aload X23 hx 252 (hb hby at_250) rfl rfl rfl ?_
    refine g_iconst X23 hx 253 (hb hby at_252) (4 : Int32) (by decide) rfl ?_
    refine g_iload X23 hx 255 (hb hby at_253) rfl rfl ?_
    refine g_aload X23 hx 257 (hb hby at_255) rfl rfl rfl ?_
    refine g_iload X23 hx 259 (hb hby at_257) rfl rfl ?_
    refine g_aload X23 hx 261 (hb hby at_259) rfl rfl rfl ?_
    refine g_callS X23 hx hZ 264 [(.ref r), (.int (4 : Int32)), (.int (q + (0 : Int32))), (.ref mo), (.int q), (.ref ex)] [] 0 hown (hw _ (List.mem_of_getElem? (i := 29) rfl)) (hw _ (List.mem_of_getElem? (i := 30) rfl)) (hw _ (List.mem_of_getElem? (i := 31) rfl)) (hw _ (List.mem_of_getElem? (i := 32) rfl)) (by decide) e23 (rm5 l Z a0 hw [] r (4 : Int32) (q + (0 : Int32)) mo q ex 4 (qN + 0) qN gm ge g_t1 T19.heap n0 M23 (by decide) hlen hq hq10 (by omega) F_r F_mo F_ex hG_fin) (by decide) (by decide) (by decide) (by decide) (by rw [hml]; rfl) rfl pd_6 rfl (Nat.le_of_eq rfl) (hb hby at_261) rfl ?_
    intro v24 T24 L24 X24 q24
    obtain ⟨rfl, Nq24, e24⟩ := q24
    have N24 := Fr.app N23 Nq24
    have M24 := M23
    refine g_ifF X24 hx 267 (hb hby at_264) (by decide) rfl ?_
    refine g_aload X24 hx 269 (hb hby at_267) rfl rfl rfl ?_
    refine g_iconst X24 hx 270 (hb hby at_269) (5 : Int32) (by decide) rfl ?_
    refine g_iload X24 hx 272 (hb hby at_270) rfl rfl ?_
    refine g_aload X24 hx 274 (hb hby at_272) rfl rfl rfl ?_
    refine g_iload X24 hx 276 (hb hby at_274) rfl rfl ?_
    refine g_aload X24 hx 278 (hb hby at_276) rfl rfl rfl ?_
    refine g_callS X24 hx hZ 281 [(.ref r), (.int (5 : Int32)), (.int (q + (0 : Int32))), (.ref mo), (.int q), (.ref ex)] [] 0 hown (hw _ (List.mem_of_getElem? (i := 29) rfl)) (hw _ (List.mem_of_getElem? (i := 30) rfl)) (hw _ (List.mem_of_getElem? (i := 31) rfl)) (hw _ (List.mem_of_getElem? (i := 32) rfl)) (by decide) e24 (rm5 l Z a0 hw [] r (5 : Int32) (q + (0 : Int32)) mo q ex 5 (qN + 0) qN gm ge g_t1 T19.heap n0 M24 (by decide) hlen hq hq10 (by omega) F_r F_mo F_ex hG_fin) (by decide) (by decide) (by decide) (by decide) (by rw [hml]; rfl) rfl pd_6 rfl (Nat.le_of_eq rfl) (hb hby at_278) rfl ?_
    intro v25 T25 L25 X25 q25
    obtain ⟨rfl, Nq25, e25⟩ := q25
    have N25 := Fr.app N24 Nq25
    have M25 := M24
    refine g_ifF X25 hx 284 (hb hby at_281) (by decide) rfl ?_
    refine g_aload X25 hx 286 (hb hby at_284) rfl rfl rfl ?_
    refine g_bipush X25 hx 288 (hb hby at_286) (6 : Int32) (by decide) rfl ?_
    refine g_iload X25 hx 290 (hb hby at_288) rfl rfl ?_
    refine g_aload X25 hx 292 (hb hby at_290) rfl rfl rfl ?_
    refine g_iload X25 hx 294 (hb hby at_292) rfl rfl ?_
    refine g_aload X25 hx 296 (hb hby at_294) rfl rfl rfl ?_
    refine g_callS X25 hx hZ 299 [(.ref r), (.int (6 : Int32)), (.int (q + (0 : Int32))), (.ref mo), (.int q), (.ref ex)] [] 0 hown (hw _ (List.mem_of_getElem? (i := 29) rfl)) (hw _ (List.mem_of_getElem? (i := 30) rfl)) (hw _ (List.mem_of_getElem? (i := 31) rfl)) (hw _ (List.mem_of_getElem? (i := 32) rfl)) (by decide) e25 (rm5 l Z a0 hw [] r (6 : Int32) (q + (0 : Int32)) mo q ex 6 (qN + 0) qN gm ge g_t1 T19.heap n0 M25 (by decide) hlen hq hq10 (by omega) F_r F_mo F_ex hG_fin) (by decide) (by decide) (by decide) (by decide) (by rw [hml]; rfl) rfl pd_6 rfl (Nat.le_of_eq rfl) (hb hby at_296) rfl ?_
    intro v26 T26 L26 X26 q26
    obtain ⟨rfl, Nq26, e26⟩ := q26
    have N26 := Fr.app N25 Nq26
    have M26 := M25
    refine g_ifF X26 hx 302 (hb hby at_299) (by decide) rfl ?_
    refine g_aload X26 hx 304 (hb hby at_302) rfl rfl rfl ?_
    refine g_bipush X26 hx 306 (hb hby at_304) (7 : Int32) (by decide) rfl ?_
    refine g_iload X26 hx 308 (hb hby at_306) rfl rfl ?_
    refine g_aload X26 hx 310 (hb hby at_308) rfl rfl rfl ?_
    refine g_iload X26 hx 312 (hb hby at_310) rfl rfl ?_
    refine g_aload X26 hx 314 (hb hby at_312) rfl rfl rfl ?_
    refine g_callS X26 hx hZ 317 [(.ref r), (.int (7 : Int32)), (.int (q + (0 : Int32))), (.ref mo), (.int q), (.ref ex)] [] 0 hown (hw _ (List.mem_of_getElem? (i := 29) rfl)) (hw _ (List.mem_of_getElem? (i := 30) rfl)) (hw _ (List.mem_of_getElem? (i := 31) rfl)) (hw _ (List.mem_of_getElem? (i := 32) rfl)) (by decide) e26 (rm5 l Z a0 hw [] r (7 : Int32) (q + (0 : Int32)) mo q ex 7 (qN + 0) qN gm ge g_t1 T19.heap n0 M26 (by decide) hlen hq hq10 (by omega) F_r F_mo F_ex hG_fin) (by decide) (by decide) (by decide) (by decide) (by rw [hml]; rfl) rfl pd_6 rfl (Nat.le_of_eq rfl) (hb hby at_314) rfl ?_
    intro v27 T27 L27 X27 q27
    obtain ⟨rfl, Nq27, e27⟩ := q27
    have N27 := Fr.app N26 Nq27
    have M27 := M26
    refine g_ifF X27 hx 320 (hb hby at_317) (by decide) rfl ?_
    refine g_aload X27 hx 322 (hb hby at_320) rfl rfl rfl ?_
    refine g_bipush X27 hx 324 (hb hby at_322) (8 : Int32) (by decide) rfl ?_
    refine g_iload X27 hx 326 (hb hby at_324) rfl rfl ?_
    refine g_aload X27 hx 328 (hb hby at_326) rfl rfl rfl ?_
    refine g_iload X27 hx 330 (hb hby at_328) rfl rfl ?_
    refine g_aload X27 hx 332 (hb hby at_330) rfl rfl rfl ?_
    refine g_callS X27 hx hZ 335 [(.ref r), (.int (8 : Int32)), (.int (q + (0 : Int32))), (.ref mo), (.int q), (.ref ex)] [] 0 hown (hw _ (List.mem_of_getElem? (i := 29) rfl)) (hw _ (List.mem_of_getElem? (i := 30) rfl)) (hw _ (List.mem_of_getElem? (i := 31) rfl)) (hw _ (List.mem_of_getElem? (i := 32) rfl)) (by decide) e27 (rm5 l Z a0 hw [] r (8 : Int32) (q + (0 : Int32)) mo q ex 8 (qN + 0) qN gm ge g_t1 T19.heap n0 M27 (by decide) hlen hq hq10 (by omega) F_r F_mo F_ex hG_fin) (by decide) (by decide) (by decide) (by decide) (by rw [hml]; rfl) rfl pd_6 rfl (Nat.le_of_eq rfl) (hb hby at_332) rfl ?_
    intro v28 T28 L28 X28 q28
    obtain ⟨rfl, Nq28, e28⟩ := q28
    have N28 := Fr.app N27 Nq28
    have M28 := M27
    refine g_ifF X28 hx 338 (hb hby at_335) (by decide) rfl ?_
    refine g_aload X28 hx 340 (hb hby at_338) rfl rfl rfl ?_
    refine g_bipush X28 hx 342 (hb hby at_340) (9 : Int32) (by decide) rfl ?_
    refine g_iload X28 hx 344 (hb hby at_342) rfl rfl ?_
    refine g_aload X28 hx 346 (hb hby at_344) rfl rfl rfl ?_
    refine g_iload X28 hx 348 (hb hby at_346) rfl rfl ?_
    refine g_aload X28 hx 350 (hb hby at_348) rfl rfl rfl ?_
    refine g_callS X28 hx hZ 353 [(.ref r), (.int (9 : Int32)), (.int (q + (0 : Int32))), (.ref mo), (.int q), (.ref ex)] [] 0 hown (hw _ (List.mem_of_getElem? (i := 29) rfl)) (hw _ (List.mem_of_getElem? (i := 30) rfl)) (hw _ (List.mem_of_getElem? (i := 31) rfl)) (hw _ (List.mem_of_getElem? (i := 32) rfl)) (by decide) e28 (rm5 l Z a0 hw [] r (9 : Int32) (q + (0 : Int32)) mo q ex 9 (qN + 0) qN gm ge g_t1 T19.heap n0 M28 (by decide) hlen hq hq10 (by omega) F_r F_mo F_ex hG_fin) (by decide) (by decide) (by decide) (by decide) (by rw [hml]; rfl) rfl pd_6 rfl (Nat.le_of_eq rfl) (hb hby at_350) rfl ?_
    intro v29 T29 L29 X29 q29
    obtain ⟨rfl, Nq29, e29⟩ := q29
    have N29 := Fr.app N28 Nq29
    have M29 := M28
    refine g_ifF X29 hx 356 (hb hby at_353) (by decide) rfl ?_
    refine g_aload X29 hx 358 (hb hby at_356) rfl rfl rfl ?_
    refine g_bipush X29 hx 360 (hb hby at_358) (10 : Int32) (by decide) rfl ?_
    refine g_iload X29 hx 362 (hb hby at_360) rfl rfl ?_
    refine g_aload X29 hx 364 (hb hby at_362) rfl rfl rfl ?_
    refine g_iload X29 hx 366 (hb hby at_364) rfl rfl ?_
    refine g_aload X29 hx 368 (hb hby at_366) rfl rfl rfl ?_
    refine g_callS X29 hx hZ 371 [(.ref r), (.int (10 : Int32)), (.int (q + (0 : Int32))), (.ref mo), (.int q), (.ref ex)] [] 0 hown (hw _ (List.mem_of_getElem? (i := 29) rfl)) (hw _ (List.mem_of_getElem? (i := 30) rfl)) (hw _ (List.mem_of_getElem? (i := 31) rfl)) (hw _ (List.mem_of_getElem? (i := 32) rfl)) (by decide) e29 (rm5 l Z a0 hw [] r (10 : Int32) (q + (0 : Int32)) mo q ex 10 (qN + 0) qN gm ge g_t1 T19.heap n0 M29 (by decide) hlen hq hq10 (by omega) F_r F_mo F_ex hG_fin) (by decide) (by decide) (by decide) (by decide) (by rw [hml]; rfl) rfl pd_6 rfl (Nat.le_of_eq rfl) (hb hby at_368) rfl ?_
    intro v30 T30 L30 X30 q30
    obtain ⟨rfl, Nq30, e30⟩ := q30
    have N30 := Fr.app N29 Nq30
    have M30 := M29
    refine g_ifF X30 hx 374 (hb hby at_371) (by decide) rfl ?_
    refine g_aload X30 hx 376 (hb hby at_374) rfl rfl rfl ?_
    refine g_bipush X30 hx 378 (hb hby at_376) (11 : Int32) (by decide) rfl ?_
    refine g_iload X30 hx 380 (hb hby at_378) rfl rfl ?_
    refine g_aload X30 hx 382 (hb hby at_380) rfl rfl rfl ?_
    refine g_iload X30 hx 384 (hb hby at_382) rfl rfl ?_
    refine g_aload X30 hx 386 (hb hby at_384) rfl rfl rfl ?_
    refine g_callS X30 hx hZ 389 [(.ref r), (.int (11 : Int32)), (.int (q + (0 : Int32))), (.ref mo), (.int q), (.ref ex)] [] 0 hown (hw _ (List.mem_of_getElem? (i := 29) rfl)) (hw _ (List.mem_of_getElem? (i := 30) rfl)) (hw _ (List.mem_of_getElem? (i := 31) rfl)) (hw _ (List.mem_of_getElem? (i := 32) rfl)) (by decide) e30 (rm5 l Z a0 hw [] r (11 : Int32) (q + (0 : Int32)) mo q ex 11 (qN + 0) qN gm ge g_t1 T19.heap n0 M30 (by decide) hlen hq hq10 (by omega) F_r F_mo F_ex hG_fin) (by decide) (by decide) (by decide) (by decide) (by rw [hml]; rfl) rfl pd_6 rfl (Nat.le_of_eq rfl) (hb hby at_386) rfl ?_
    intro v31 T31 L31 X31 q31
    obtain ⟨rfl, Nq31, e31⟩ := q31
    have N31 := Fr.app N30 Nq31
    have M31 := M30
    refine g_ifF X31 hx 392 (hb hby at_389) (by decide) rfl ?_
    refine g_aload X31 hx 394 (hb hby at_392) rfl rfl rfl ?_
    refine g_bipush X31 hx 396 (hb hby at_394) (12 : Int32) (by decide) rfl ?_
    refine g_iload X31 hx 398 (hb hby at_396) rfl rfl ?_
    refine g_aload X31 hx 400 (hb hby at_398) rfl rfl rfl ?_
    refine g_iload X31 hx 402 (hb hby at_400) rfl rfl ?_
    refine g_aload X31 hx 404 (hb hby at_402) rfl rfl rfl ?_
    refine g_callS X31 hx hZ 407 [(.ref r), (.int (12 : Int32)), (.int (q + (0 : Int32))), (.ref mo), (.int q), (.ref ex)] [] 0 hown (hw _ (List.mem_of_getElem? (i := 29) rfl)) (hw _ (List.mem_of_getElem? (i := 30) rfl)) (hw _ (List.mem_of_getElem? (i := 31) rfl)) (hw _ (List.mem_of_getElem? (i := 32) rfl)) (by decide) e31 (rm5 l Z a0 hw [] r (12 : Int32) (q + (0 : Int32)) mo q ex 12 (qN + 0) qN gm ge g_t1 T19.heap n0 M31 (by decide) hlen hq hq10 (by omega) F_r F_mo F_ex hG_fin) (by decide) (by decide) (by decide) (by decide) (by rw [hml]; rfl) rfl pd_6 rfl (Nat.le_of_eq rfl) (hb hby at_404) rfl ?_
    intro v32 T32 L32 X32 q32
    obtain ⟨rfl, Nq32, e32⟩ := q32
    have N32 := Fr.app N31 Nq32
    have M32 := M31
    refine g_ifF X32 hx 410 (hb hby at_407) (by decide) rfl ?_
    refine g_iconst X32 hx 411 (hb hby at_410) (1 : Int32) (by decide) rfl ?_
    refine g_goto X32 hx 415 (hb hby at_411) (by decide) (by decide) ?_
    refine g_nret X32 hx (by simp) hret hlk (hb hby at_415) (by decide) (by decide) ?_
    exact ⟨rfl, N32⟩
  · skip
    refine g_iload X18 hx 115 (hb hby at_113) rfl rfl ?_
    refine g_iconst X18 hx 116 (hb hby at_115) (1 : Int32) (by decide) rfl ?_
    refine g_icF X18 hx 119 (hb hby at_116) (by decide) rfl ?_
    refine g_aload X18 hx 121 (hb hby at_119) rfl rfl rfl ?_
    refine g_aload X18 hx 123 (hb hby at_121) rfl rfl rfl ?_
    refine g_iconst X18 hx 124 (hb hby at_123) (0 : Int32) (by decide) rfl ?_
    refine g_iaload X18 hx hZ 125 e18 F_ex (hb hby at_124) (0) (by decide) (by decide) (.int (ge 0)) rfl rfl ?_
    refine g_virtual X18 hx hZ 128 b [(.int (ge 0))] [] 0 E_b hown (hw _ (List.mem_of_getElem? (i := 36) rfl)) (hw _ (List.mem_of_getElem? (i := 37) rfl)) (hw _ (List.mem_of_getElem? (i := 39) rfl)) (hw _ (List.mem_of_getElem? (i := 38) rfl)) (hw _ (List.mem_of_getElem? (i := 4) rfl)) (hw _ (List.mem_of_getElem? (i := 40) rfl)) (by decide) e18 (rm7 l Z a0 hw [] b t1 (ge 0) sz_t1 qN cap_t1 g_t1 (fun i => if i < qN then gm i else ge (i - qN)) T18.heap n0 M18 E_b f_b_nodes f_b_size F_t1 hsz_t1 (by omega) Z_b Z_t1 ne_b_t1 (fun i hi => by rw [hG_t1 i hi]; simp [hi]) (by simp <;> omega)) (by decide) (by decide) (by decide) (by decide) (by rw [hml]; rfl) rfl pd_7 rfl (Nat.le_of_eq rfl) (hb hby at_125) rfl ?_
    intro v33 T33 L33 X33 q33
    obtain ⟨rfl, Nq33, Kc33, t2, cap_t2, sz_t2, g_t2, Z_t2, tw, nb, ⟨Eb, fn, fs, Fa, hsz_t2, hcap_t2⟩, hG_t2⟩ := q33
    have N33 := Fr.app N18 Nq33
    have M33 : n0 ≤ T33.heap.size := Nat.le_trans M18 Kc33.1
    have e33 : T33.heap = T33.heap := rfl
    have ne_mo_t2 : mo ≠ t2 := by
      rcases tw with h | h
      · rw [h]; exact ne_mo_t1
      · exact Nat.ne_of_lt (Nat.lt_of_lt_of_le F_mo.lt h)
    have ne_ex_t2 : ex ≠ t2 := by
      rcases tw with h | h
      · rw [h]; exact ne_ex_t1
      · exact Nat.ne_of_lt (Nat.lt_of_lt_of_le F_ex.lt h)
    replace F_mo := F_mo.keep Kc33 (ninS ne_mo_b (ninS ne_mo_t1 nin0))
    replace F_ex := F_ex.keep Kc33 (ninS ne_ex_b (ninS ne_ex_t1 nin0))
    replace E_b := Eb
    replace f_b_nodes := fn
    replace f_b_size := fs
    have F_t2 := Fa
    have ne_b_t2 := nb
    clear tw nb
    refine g_iload X33 hx 130 (hb hby at_128) rfl rfl ?_
    refine g_iconst X33 hx 131 (hb hby at_130) (2 : Int32) (by decide) rfl ?_
    refine g_icT X33 hx 143 (hb hby at_131) (by decide) (by decide) (by decide) ?_
    refine g_iload X33 hx 145 (hb hby at_143) rfl rfl ?_
    refine g_iconst X33 hx 146 (hb hby at_145) (3 : Int32) (by decide) rfl ?_
    refine g_icT X33 hx 158 (hb hby at_146) (by decide) (by decide) (by decide) ?_
    refine g_iload X33 hx 160 (hb hby at_158) rfl rfl ?_
    refine g_iload X33 hx 162 (hb hby at_160) rfl rfl ?_
    refine g_iadd X33 hx 163 (hb hby at_162) rfl ?_
    refine g_istore X33 hx 165 (hb hby at_163) #[.val (.int x0), .val (.int x1), .val (.int x2), .val (.int x3), .val (.int x4), .val (.int x5), .val (.ref mo), .val (.ref ex), .val (.int q), .val (.int (1 : Int32)), .val (.ref b), .val (.int (q + (1 : Int32))), .unset] rfl rfl ?_
    have hlen : (q + (1 : Int32)).toInt = ((qN + 1 : Nat) : Int) := own_plus hq (by decide) (by omega)
    have hsz_fin : sz_t2.toInt = ((qN + 1 : Nat) : Int) := hsz_t2
    have hG_fin : ∀ i, i < qN + 1 → g_t2 i = if i < qN then gm i else ge (i - qN) := hG_t2
    refine g_aload X33 hx 167 (hb hby at_165) rfl rfl rfl ?_
    refine g_virtual X33 hx hZ 170 b [] [] 0 E_b hown (hw _ (List.mem_of_getElem? (i := 24) rfl)) (hw _ (List.mem_of_getElem? (i := 25) rfl)) (hw _ (List.mem_of_getElem? (i := 27) rfl)) (hw _ (List.mem_of_getElem? (i := 26) rfl)) (hw _ (List.mem_of_getElem? (i := 4) rfl)) (hw _ (List.mem_of_getElem? (i := 28) rfl)) (by decide) e33 (rm4 l Z a0 hw [] b t2 sz_t2 (qN + 1) cap_t2 g_t2 T33.heap n0 M33 E_b f_b_nodes f_b_size F_t2 hsz_fin (by omega) (by omega) ne_b_t2) (by decide) (by decide) (by decide) (by decide) (by rw [hml]; rfl) rfl pd_5 rfl (Nat.le_of_eq rfl) (hb hby at_167) rfl ?_
    intro v34 T34 L34 X34 q34
    obtain ⟨r, rfl, Nq34, Z_r, G_r, Kc34, F_r⟩ := q34
    have N34 := Fr.app N33 Nq34
    have M34 : n0 ≤ T34.heap.size := Nat.le_trans M33 Kc34.1
    have e34 : T34.heap = T34.heap := rfl
    replace F_mo := F_mo.keep Kc34 nin0
    replace F_ex := F_ex.keep Kc34 nin0
    replace E_b := E_b.keep Kc34
    replace f_b_nodes := f_b_nodes.keep Kc34 nin0
    replace f_b_size := f_b_size.keep Kc34 nin0
    replace F_t2 := F_t2.keep Kc34 nin0
    refine g_astore X34 hx 172 (hb hby at_170) rfl #[.val (.int x0), .val (.int x1), .val (.int x2), .val (.int x3), .val (.int x4), .val (.int x5), .val (.ref mo), .val (.ref ex), .val (.int q), .val (.int (1 : Int32)), .val (.ref b), .val (.int (q + (1 : Int32))), .val (.ref r)] rfl rfl ?_
    refine g_aload X34 hx 174 (hb hby at_172) rfl rfl rfl ?_
    refine g_arrlen X34 hx hZ 175 e34 F_r sz_t2 hsz_fin (hb hby at_174) rfl ?_
    refine g_iload X34 hx 177 (hb hby at_175) rfl rfl ?_
    refine g_icT X34 hx 182 (hb hby at_177) (Jvm.Free.XT.ii_eq_t (show sz_t2 = (q + (1 : Int32)) from (Int32.toInt_inj.mp (by rw [hsz_fin, hlen])))) (by decide) (by decide) ?_
    refine g_aload X34 hx 184 (hb hby at_182) rfl rfl rfl ?_
    refine g_iconst X34 hx 185 (hb hby at_184) (0 : Int32) (by decide) rfl ?_
    refine g_iload X34 hx 187 (hb hby at_185) rfl rfl ?_
    refine g_aload X34 hx 189 (hb hby at_187) rfl rfl rfl ?_
    refine g_iload X34 hx 191 (hb hby at_189) rfl rfl ?_
    refine g_aload X34 hx 193 (hb hby at_191) rfl rfl rfl ?_
    refine g_callS X34 hx hZ 196 [(.ref r), (.int (0 : Int32)), (.int (q + (1 : Int32))), (.ref mo), (.int q), (.ref ex)] [] 0 hown (hw _ (List.mem_of_getElem? (i := 29) rfl)) (hw _ (List.mem_of_getElem? (i := 30) rfl)) (hw _ (List.mem_of_getElem? (i := 31) rfl)) (hw _ (List.mem_of_getElem? (i := 32) rfl)) (by decide) e34 (rm5 l Z a0 hw [] r (0 : Int32) (q + (1 : Int32)) mo q ex 0 (qN + 1) qN gm ge g_t2 T34.heap n0 M34 (by decide) hlen hq hq10 (by omega) F_r F_mo F_ex hG_fin) (by decide) (by decide) (by decide) (by decide) (by rw [hml]; rfl) rfl pd_6 rfl (Nat.le_of_eq rfl) (hb hby at_193) rfl ?_
    intro v35 T35 L35 X35 q35
    obtain ⟨rfl, Nq35, e35⟩ := q35
    have N35 := Fr.app N34 Nq35
    have M35 := M34
    refine g_ifF X35 hx 199 (hb hby at_196) (by decide) rfl ?_
    refine g_aload X35 hx 201 (hb hby at_199) rfl rfl rfl ?_
    refine g_iconst X35 hx 202 (hb hby at_201) (1 : Int32) (by decide) rfl ?_
    refine g_iload X35 hx 204 (hb hby at_202) rfl rfl ?_
    refine g_aload X35 hx 206 (hb hby at_204) rfl rfl rfl ?_
    refine g_iload X35 hx 208 (hb hby at_206) rfl rfl ?_
    refine g_aload X35 hx 210 (hb hby at_208) rfl rfl rfl ?_
    refine g_callS X35 hx hZ 213 [(.ref r), (.int (1 : Int32)), (.int (q + (1 : Int32))), (.ref mo), (.int q), (.ref ex)] [] 0 hown (hw _ (List.mem_of_getElem? (i := 29) rfl)) (hw _ (List.mem_of_getElem? (i := 30) rfl)) (hw _ (List.mem_of_getElem? (i := 31) rfl)) (hw _ (List.mem_of_getElem? (i := 32) rfl)) (by decide) e35 (rm5 l Z a0 hw [] r (1 : Int32) (q + (1 : Int32)) mo q ex 1 (qN + 1) qN gm ge g_t2 T34.heap n0 M35 (by decide) hlen hq hq10 (by omega) F_r F_mo F_ex hG_fin) (by decide) (by decide) (by decide) (by decide) (by rw [hml]; rfl) rfl pd_6 rfl (Nat.le_of_eq rfl) (hb hby at_210) rfl ?_
    intro v36 T36 L36 X36 q36
    obtain ⟨rfl, Nq36, e36⟩ := q36
    have N36 := Fr.app N35 Nq36
    have M36 := M35
    refine g_ifF X36 hx 216 (hb hby at_213) (by decide) rfl ?_
    refine g_aload X36 hx 218 (hb hby at_216) rfl rfl rfl ?_
    refine g_iconst X36 hx 219 (hb hby at_218) (2 : Int32) (by decide) rfl ?_
    refine g_iload X36 hx 221 (hb hby at_219) rfl rfl ?_
    refine g_aload X36 hx 223 (hb hby at_221) rfl rfl rfl ?_
    refine g_iload X36 hx 225 (hb hby at_223) rfl rfl ?_
    refine g_aload X36 hx 227 (hb hby at_225) rfl rfl rfl ?_
    refine g_callS X36 hx hZ 230 [(.ref r), (.int (2 : Int32)), (.int (q + (1 : Int32))), (.ref mo), (.int q), (.ref ex)] [] 0 hown (hw _ (List.mem_of_getElem? (i := 29) rfl)) (hw _ (List.mem_of_getElem? (i := 30) rfl)) (hw _ (List.mem_of_getElem? (i := 31) rfl)) (hw _ (List.mem_of_getElem? (i := 32) rfl)) (by decide) e36 (rm5 l Z a0 hw [] r (2 : Int32) (q + (1 : Int32)) mo q ex 2 (qN + 1) qN gm ge g_t2 T34.heap n0 M36 (by decide) hlen hq hq10 (by omega) F_r F_mo F_ex hG_fin) (by decide) (by decide) (by decide) (by decide) (by rw [hml]; rfl) rfl pd_6 rfl (Nat.le_of_eq rfl) (hb hby at_227) rfl ?_
    intro v37 T37 L37 X37 q37
    obtain ⟨rfl, Nq37, e37⟩ := q37
    have N37 := Fr.app N36 Nq37
    have M37 := M36
    refine g_ifF X37 hx 233 (hb hby at_230) (by decide) rfl ?_
    refine g_aload X37 hx 235 (hb hby at_233) rfl rfl rfl ?_
    refine g_iconst X37 hx 236 (hb hby at_235) (3 : Int32) (by decide) rfl ?_
    refine g_iload X37 hx 238 (hb hby at_236) rfl rfl ?_
    refine g_aload X37 hx 240 (hb hby at_238) rfl rfl rfl ?_
    refine g_iload X37 hx 242 (hb hby at_240) rfl rfl ?_
    refine g_aload X37 hx 244 (hb hby at_242) rfl rfl rfl ?_
    refine g_callS X37 hx hZ 247 [(.ref r), (.int (3 : Int32)), (.int (q + (1 : Int32))), (.ref mo), (.int q), (.ref ex)] [] 0 hown (hw _ (List.mem_of_getElem? (i := 29) rfl)) (hw _ (List.mem_of_getElem? (i := 30) rfl)) (hw _ (List.mem_of_getElem? (i := 31) rfl)) (hw _ (List.mem_of_getElem? (i := 32) rfl)) (by decide) e37 (rm5 l Z a0 hw [] r (3 : Int32) (q + (1 : Int32)) mo q ex 3 (qN + 1) qN gm ge g_t2 T34.heap n0 M37 (by decide) hlen hq hq10 (by omega) F_r F_mo F_ex hG_fin) (by decide) (by decide) (by decide) (by decide) (by rw [hml]; rfl) rfl pd_6 rfl (Nat.le_of_eq rfl) (hb hby at_244) rfl ?_
    intro v38 T38 L38 X38 q38
    obtain ⟨rfl, Nq38, e38⟩ := q38
    have N38 := Fr.app N37 Nq38
    have M38 := M37
    refine g_ifF X38 hx 250 (hb hby at_247) (by decide) rfl ?_
    refine g_aload X38 hx 252 (hb hby at_250) rfl rfl rfl ?_
    refine g_iconst X38 hx 253 (hb hby at_252) (4 : Int32) (by decide) rfl ?_
    refine g_iload X38 hx 255 (hb hby at_253) rfl rfl ?_
    refine g_aload X38 hx 257 (hb hby at_255) rfl rfl rfl ?_
    refine g_iload X38 hx 259 (hb hby at_257) rfl rfl ?_
    refine g_aload X38 hx 261 (hb hby at_259) rfl rfl rfl ?_
    refine g_callS X38 hx hZ 264 [(.ref r), (.int (4 : Int32)), (.int (q + (1 : Int32))), (.ref mo), (.int q), (.ref ex)] [] 0 hown (hw _ (List.mem_of_getElem? (i := 29) rfl)) (hw _ (List.mem_of_getElem? (i := 30) rfl)) (hw _ (List.mem_of_getElem? (i := 31) rfl)) (hw _ (List.mem_of_getElem? (i := 32) rfl)) (by decide) e38 (rm5 l Z a0 hw [] r (4 : Int32) (q + (1 : Int32)) mo q ex 4 (qN + 1) qN gm ge g_t2 T34.heap n0 M38 (by decide) hlen hq hq10 (by omega) F_r F_mo F_ex hG_fin) (by decide) (by decide) (by decide) (by decide) (by rw [hml]; rfl) rfl pd_6 rfl (Nat.le_of_eq rfl) (hb hby at_261) rfl ?_
    intro v39 T39 L39 X39 q39
    obtain ⟨rfl, Nq39, e39⟩ := q39
    have N39 := Fr.app N38 Nq39
    have M39 := M38
    refine g_ifF X39 hx 267 (hb hby at_264) (by decide) rfl ?_
    refine g_aload X39 hx 269 (hb hby at_267) rfl rfl rfl ?_
    refine g_iconst X39 hx 270 (hb hby at_269) (5 : Int32) (by decide) rfl ?_
    refine g_iload X39 hx 272 (hb hby at_270) rfl rfl ?_
    refine g_aload X39 hx 274 (hb hby at_272) rfl rfl rfl ?_
    refine g_iload X39 hx 276 (hb hby at_274) rfl rfl ?_
    refine g_aload X39 hx 278 (hb hby at_276) rfl rfl rfl ?_
    refine g_callS X39 hx hZ 281 [(.ref r), (.int (5 : Int32)), (.int (q + (1 : Int32))), (.ref mo), (.int q), (.ref ex)] [] 0 hown (hw _ (List.mem_of_getElem? (i := 29) rfl)) (hw _ (List.mem_of_getElem? (i := 30) rfl)) (hw _ (List.mem_of_getElem? (i := 31) rfl)) (hw _ (List.mem_of_getElem? (i := 32) rfl)) (by decide) e39 (rm5 l Z a0 hw [] r (5 : Int32) (q + (1 : Int32)) mo q ex 5 (qN + 1) qN gm ge g_t2 T34.heap n0 M39 (by decide) hlen hq hq10 (by omega) F_r F_mo F_ex hG_fin) (by decide) (by decide) (by decide) (by decide) (by rw [hml]; rfl) rfl pd_6 rfl (Nat.le_of_eq rfl) (hb hby at_278) rfl ?_
    intro v40 T40 L40 X40 q40
    obtain ⟨rfl, Nq40, e40⟩ := q40
    have N40 := Fr.app N39 Nq40
    have M40 := M39
    refine g_ifF X40 hx 284 (hb hby at_281) (by decide) rfl ?_
    refine g_aload X40 hx 286 (hb hby at_284) rfl rfl rfl ?_
    refine g_bipush X40 hx 288 (hb hby at_286) (6 : Int32) (by decide) rfl ?_
    refine g_iload X40 hx 290 (hb hby at_288) rfl rfl ?_
    refine g_aload X40 hx 292 (hb hby at_290) rfl rfl rfl ?_
    refine g_iload X40 hx 294 (hb hby at_292) rfl rfl ?_
    refine g_aload X40 hx 296 (hb hby at_294) rfl rfl rfl ?_
    refine g_callS X40 hx hZ 299 [(.ref r), (.int (6 : Int32)), (.int (q + (1 : Int32))), (.ref mo), (.int q), (.ref ex)] [] 0 hown (hw _ (List.mem_of_getElem? (i := 29) rfl)) (hw _ (List.mem_of_getElem? (i := 30) rfl)) (hw _ (List.mem_of_getElem? (i := 31) rfl)) (hw _ (List.mem_of_getElem? (i := 32) rfl)) (by decide) e40 (rm5 l Z a0 hw [] r (6 : Int32) (q + (1 : Int32)) mo q ex 6 (qN + 1) qN gm ge g_t2 T34.heap n0 M40 (by decide) hlen hq hq10 (by omega) F_r F_mo F_ex hG_fin) (by decide) (by decide) (by decide) (by decide) (by rw [hml]; rfl) rfl pd_6 rfl (Nat.le_of_eq rfl) (hb hby at_296) rfl ?_
    intro v41 T41 L41 X41 q41
    obtain ⟨rfl, Nq41, e41⟩ := q41
    have N41 := Fr.app N40 Nq41
    have M41 := M40
    refine g_ifF X41 hx 302 (hb hby at_299) (by decide) rfl ?_
    refine g_aload X41 hx 304 (hb hby at_302) rfl rfl rfl ?_
    refine g_bipush X41 hx 306 (hb hby at_304) (7 : Int32) (by decide) rfl ?_
    refine g_iload X41 hx 308 (hb hby at_306) rfl rfl ?_
    refine g_aload X41 hx 310 (hb hby at_308) rfl rfl rfl ?_
    refine g_iload X41 hx 312 (hb hby at_310) rfl rfl ?_
    refine g_aload X41 hx 314 (hb hby at_312) rfl rfl rfl ?_
    refine g_callS X41 hx hZ 317 [(.ref r), (.int (7 : Int32)), (.int (q + (1 : Int32))), (.ref mo), (.int q), (.ref ex)] [] 0 hown (hw _ (List.mem_of_getElem? (i := 29) rfl)) (hw _ (List.mem_of_getElem? (i := 30) rfl)) (hw _ (List.mem_of_getElem? (i := 31) rfl)) (hw _ (List.mem_of_getElem? (i := 32) rfl)) (by decide) e41 (rm5 l Z a0 hw [] r (7 : Int32) (q + (1 : Int32)) mo q ex 7 (qN + 1) qN gm ge g_t2 T34.heap n0 M41 (by decide) hlen hq hq10 (by omega) F_r F_mo F_ex hG_fin) (by decide) (by decide) (by decide) (by decide) (by rw [hml]; rfl) rfl pd_6 rfl (Nat.le_of_eq rfl) (hb hby at_314) rfl ?_
    intro v42 T42 L42 X42 q42
    obtain ⟨rfl, Nq42, e42⟩ := q42
    have N42 := Fr.app N41 Nq42
    have M42 := M41
    refine g_ifF X42 hx 320 (hb hby at_317) (by decide) rfl ?_
    refine g_aload X42 hx 322 (hb hby at_320) rfl rfl rfl ?_
    refine g_bipush X42 hx 324 (hb hby at_322) (8 : Int32) (by decide) rfl ?_
    refine g_iload X42 hx 326 (hb hby at_324) rfl rfl ?_
    refine g_aload X42 hx 328 (hb hby at_326) rfl rfl rfl ?_
    refine g_iload X42 hx 330 (hb hby at_328) rfl rfl ?_
    refine g_aload X42 hx 332 (hb hby at_330) rfl rfl rfl ?_
    refine g_callS X42 hx hZ 335 [(.ref r), (.int (8 : Int32)), (.int (q + (1 : Int32))), (.ref mo), (.int q), (.ref ex)] [] 0 hown (hw _ (List.mem_of_getElem? (i := 29) rfl)) (hw _ (List.mem_of_getElem? (i := 30) rfl)) (hw _ (List.mem_of_getElem? (i := 31) rfl)) (hw _ (List.mem_of_getElem? (i := 32) rfl)) (by decide) e42 (rm5 l Z a0 hw [] r (8 : Int32) (q + (1 : Int32)) mo q ex 8 (qN + 1) qN gm ge g_t2 T34.heap n0 M42 (by decide) hlen hq hq10 (by omega) F_r F_mo F_ex hG_fin) (by decide) (by decide) (by decide) (by decide) (by rw [hml]; rfl) rfl pd_6 rfl (Nat.le_of_eq rfl) (hb hby at_332) rfl ?_
    intro v43 T43 L43 X43 q43
    obtain ⟨rfl, Nq43, e43⟩ := q43
    have N43 := Fr.app N42 Nq43
    have M43 := M42
    refine g_ifF X43 hx 338 (hb hby at_335) (by decide) rfl ?_
    refine g_aload X43 hx 340 (hb hby at_338) rfl rfl rfl ?_
    refine g_bipush X43 hx 342 (hb hby at_340) (9 : Int32) (by decide) rfl ?_
    refine g_iload X43 hx 344 (hb hby at_342) rfl rfl ?_
    refine g_aload X43 hx 346 (hb hby at_344) rfl rfl rfl ?_
    refine g_iload X43 hx 348 (hb hby at_346) rfl rfl ?_
    refine g_aload X43 hx 350 (hb hby at_348) rfl rfl rfl ?_
    refine g_callS X43 hx hZ 353 [(.ref r), (.int (9 : Int32)), (.int (q + (1 : Int32))), (.ref mo), (.int q), (.ref ex)] [] 0 hown (hw _ (List.mem_of_getElem? (i := 29) rfl)) (hw _ (List.mem_of_getElem? (i := 30) rfl)) (hw _ (List.mem_of_getElem? (i := 31) rfl)) (hw _ (List.mem_of_getElem? (i := 32) rfl)) (by decide) e43 (rm5 l Z a0 hw [] r (9 : Int32) (q + (1 : Int32)) mo q ex 9 (qN + 1) qN gm ge g_t2 T34.heap n0 M43 (by decide) hlen hq hq10 (by omega) F_r F_mo F_ex hG_fin) (by decide) (by decide) (by decide) (by decide) (by rw [hml]; rfl) rfl pd_6 rfl (Nat.le_of_eq rfl) (hb hby at_350) rfl ?_
    intro v44 T44 L44 X44 q44
    obtain ⟨rfl, Nq44, e44⟩ := q44
    have N44 := Fr.app N43 Nq44
    have M44 := M43
    refine g_ifF X44 hx 356 (hb hby at_353) (by decide) rfl ?_
    refine g_aload X44 hx 358 (hb hby at_356) rfl rfl rfl ?_
    refine g_bipush X44 hx 360 (hb hby at_358) (10 : Int32) (by decide) rfl ?_
    refine g_iload X44 hx 362 (hb hby at_360) rfl rfl ?_
    refine g_aload X44 hx 364 (hb hby at_362) rfl rfl rfl ?_
    refine g_iload X44 hx 366 (hb hby at_364) rfl rfl ?_
    refine g_aload X44 hx 368 (hb hby at_366) rfl rfl rfl ?_
    refine g_callS X44 hx hZ 371 [(.ref r), (.int (10 : Int32)), (.int (q + (1 : Int32))), (.ref mo), (.int q), (.ref ex)] [] 0 hown (hw _ (List.mem_of_getElem? (i := 29) rfl)) (hw _ (List.mem_of_getElem? (i := 30) rfl)) (hw _ (List.mem_of_getElem? (i := 31) rfl)) (hw _ (List.mem_of_getElem? (i := 32) rfl)) (by decide) e44 (rm5 l Z a0 hw [] r (10 : Int32) (q + (1 : Int32)) mo q ex 10 (qN + 1) qN gm ge g_t2 T34.heap n0 M44 (by decide) hlen hq hq10 (by omega) F_r F_mo F_ex hG_fin) (by decide) (by decide) (by decide) (by decide) (by rw [hml]; rfl) rfl pd_6 rfl (Nat.le_of_eq rfl) (hb hby at_368) rfl ?_
    intro v45 T45 L45 X45 q45
    obtain ⟨rfl, Nq45, e45⟩ := q45
    have N45 := Fr.app N44 Nq45
    have M45 := M44
    refine g_ifF X45 hx 374 (hb hby at_371) (by decide) rfl ?_
    refine g_aload X45 hx 376 (hb hby at_374) rfl rfl rfl ?_
    refine g_bipush X45 hx 378 (hb hby at_376) (11 : Int32) (by decide) rfl ?_
    refine g_iload X45 hx 380 (hb hby at_378) rfl rfl ?_
    refine g_aload X45 hx 382 (hb hby at_380) rfl rfl rfl ?_
    refine g_iload X45 hx 384 (hb hby at_382) rfl rfl ?_
    refine g_aload X45 hx 386 (hb hby at_384) rfl rfl rfl ?_
    refine g_callS X45 hx hZ 389 [(.ref r), (.int (11 : Int32)), (.int (q + (1 : Int32))), (.ref mo), (.int q), (.ref ex)] [] 0 hown (hw _ (List.mem_of_getElem? (i := 29) rfl)) (hw _ (List.mem_of_getElem? (i := 30) rfl)) (hw _ (List.mem_of_getElem? (i := 31) rfl)) (hw _ (List.mem_of_getElem? (i := 32) rfl)) (by decide) e45 (rm5 l Z a0 hw [] r (11 : Int32) (q + (1 : Int32)) mo q ex 11 (qN + 1) qN gm ge g_t2 T34.heap n0 M45 (by decide) hlen hq hq10 (by omega) F_r F_mo F_ex hG_fin) (by decide) (by decide) (by decide) (by decide) (by rw [hml]; rfl) rfl pd_6 rfl (Nat.le_of_eq rfl) (hb hby at_386) rfl ?_
    intro v46 T46 L46 X46 q46
    obtain ⟨rfl, Nq46, e46⟩ := q46
    have N46 := Fr.app N45 Nq46
    have M46 := M45
    refine g_ifF X46 hx 392 (hb hby at_389) (by decide) rfl ?_
    refine g_aload X46 hx 394 (hb hby at_392) rfl rfl rfl ?_
    refine g_bipush X46 hx 396 (hb hby at_394) (12 : Int32) (by decide) rfl ?_
    refine g_iload X46 hx 398 (hb hby at_396) rfl rfl ?_
    refine g_aload X46 hx 400 (hb hby at_398) rfl rfl rfl ?_
    refine g_iload X46 hx 402 (hb hby at_400) rfl rfl ?_
    refine g_aload X46 hx 404 (hb hby at_402) rfl rfl rfl ?_
    refine g_callS X46 hx hZ 407 [(.ref r), (.int (12 : Int32)), (.int (q + (1 : Int32))), (.ref mo), (.int q), (.ref ex)] [] 0 hown (hw _ (List.mem_of_getElem? (i := 29) rfl)) (hw _ (List.mem_of_getElem? (i := 30) rfl)) (hw _ (List.mem_of_getElem? (i := 31) rfl)) (hw _ (List.mem_of_getElem? (i := 32) rfl)) (by decide) e46 (rm5 l Z a0 hw [] r (12 : Int32) (q + (1 : Int32)) mo q ex 12 (qN + 1) qN gm ge g_t2 T34.heap n0 M46 (by decide) hlen hq hq10 (by omega) F_r F_mo F_ex hG_fin) (by decide) (by decide) (by decide) (by decide) (by rw [hml]; rfl) rfl pd_6 rfl (Nat.le_of_eq rfl) (hb hby at_404) rfl ?_
    intro v47 T47 L47 X47 q47
    obtain ⟨rfl, Nq47, e47⟩ := q47
    have N47 := Fr.app N46 Nq47
    have M47 := M46
    refine g_ifF X47 hx 410 (hb hby at_407) (by decide) rfl ?_
    refine g_iconst X47 hx 411 (hb hby at_410) (1 : Int32) (by decide) rfl ?_
    refine g_goto X47 hx 415 (hb hby at_411) (by decide) (by decide) ?_
    refine g_nret X47 hx (by simp) hret hlk (hb hby at_415) (by decide) (by decide) ?_
    exact ⟨rfl, N47⟩
  · skip
    refine g_iload X18 hx 115 (hb hby at_113) rfl rfl ?_
    refine g_iconst X18 hx 116 (hb hby at_115) (1 : Int32) (by decide) rfl ?_
    refine g_icF X18 hx 119 (hb hby at_116) (by decide) rfl ?_
    refine g_aload X18 hx 121 (hb hby at_119) rfl rfl rfl ?_
    refine g_aload X18 hx 123 (hb hby at_121) rfl rfl rfl ?_
    refine g_iconst X18 hx 124 (hb hby at_123) (0 : Int32) (by decide) rfl ?_
    refine g_iaload X18 hx hZ 125 e18 F_ex (hb hby at_124) (0) (by decide) (by decide) (.int (ge 0)) rfl rfl ?_
    refine g_virtual X18 hx hZ 128 b [(.int (ge 0))] [] 0 E_b hown (hw _ (List.mem_of_getElem? (i := 36) rfl)) (hw _ (List.mem_of_getElem? (i := 37) rfl)) (hw _ (List.mem_of_getElem? (i := 39) rfl)) (hw _ (List.mem_of_getElem? (i := 38) rfl)) (hw _ (List.mem_of_getElem? (i := 4) rfl)) (hw _ (List.mem_of_getElem? (i := 40) rfl)) (by decide) e18 (rm7 l Z a0 hw [] b t1 (ge 0) sz_t1 qN cap_t1 g_t1 (fun i => if i < qN then gm i else ge (i - qN)) T18.heap n0 M18 E_b f_b_nodes f_b_size F_t1 hsz_t1 (by omega) Z_b Z_t1 ne_b_t1 (fun i hi => by rw [hG_t1 i hi]; simp [hi]) (by simp <;> omega)) (by decide) (by decide) (by decide) (by decide) (by rw [hml]; rfl) rfl pd_7 rfl (Nat.le_of_eq rfl) (hb hby at_125) rfl ?_
    intro v48 T48 L48 X48 q48
    obtain ⟨rfl, Nq48, Kc48, t2, cap_t2, sz_t2, g_t2, Z_t2, tw, nb, ⟨Eb, fn, fs, Fa, hsz_t2, hcap_t2⟩, hG_t2⟩ := q48
    have N48 := Fr.app N18 Nq48
    have M48 : n0 ≤ T48.heap.size := Nat.le_trans M18 Kc48.1
    have e48 : T48.heap = T48.heap := rfl
    have ne_mo_t2 : mo ≠ t2 := by
      rcases tw with h | h
      · rw [h]; exact ne_mo_t1
      · exact Nat.ne_of_lt (Nat.lt_of_lt_of_le F_mo.lt h)
    have ne_ex_t2 : ex ≠ t2 := by
      rcases tw with h | h
      · rw [h]; exact ne_ex_t1
      · exact Nat.ne_of_lt (Nat.lt_of_lt_of_le F_ex.lt h)
    replace F_mo := F_mo.keep Kc48 (ninS ne_mo_b (ninS ne_mo_t1 nin0))
    replace F_ex := F_ex.keep Kc48 (ninS ne_ex_b (ninS ne_ex_t1 nin0))
    replace E_b := Eb
    replace f_b_nodes := fn
    replace f_b_size := fs
    have F_t2 := Fa
    have ne_b_t2 := nb
    clear tw nb
    refine g_iload X48 hx 130 (hb hby at_128) rfl rfl ?_
    refine g_iconst X48 hx 131 (hb hby at_130) (2 : Int32) (by decide) rfl ?_
    refine g_icF X48 hx 134 (hb hby at_131) (by decide) rfl ?_
    refine g_aload X48 hx 136 (hb hby at_134) rfl rfl rfl ?_
    refine g_aload X48 hx 138 (hb hby at_136) rfl rfl rfl ?_
    refine g_iconst X48 hx 139 (hb hby at_138) (1 : Int32) (by decide) rfl ?_
    refine g_iaload X48 hx hZ 140 e48 F_ex (hb hby at_139) (1) (by decide) (by decide) (.int (ge 1)) rfl rfl ?_
    refine g_virtual X48 hx hZ 143 b [(.int (ge 1))] [] 0 E_b hown (hw _ (List.mem_of_getElem? (i := 36) rfl)) (hw _ (List.mem_of_getElem? (i := 37) rfl)) (hw _ (List.mem_of_getElem? (i := 39) rfl)) (hw _ (List.mem_of_getElem? (i := 38) rfl)) (hw _ (List.mem_of_getElem? (i := 4) rfl)) (hw _ (List.mem_of_getElem? (i := 40) rfl)) (by decide) e48 (rm7 l Z a0 hw [] b t2 (ge 1) sz_t2 (qN + 1) cap_t2 g_t2 (fun i => if i < qN then gm i else ge (i - qN)) T48.heap n0 M48 E_b f_b_nodes f_b_size F_t2 hsz_t2 (by omega) Z_b Z_t2 ne_b_t2 hG_t2 (by simp <;> omega)) (by decide) (by decide) (by decide) (by decide) (by rw [hml]; rfl) rfl pd_7 rfl (Nat.le_of_eq rfl) (hb hby at_140) rfl ?_
    intro v49 T49 L49 X49 q49
    obtain ⟨rfl, Nq49, Kc49, t3, cap_t3, sz_t3, g_t3, Z_t3, tw, nb, ⟨Eb, fn, fs, Fa, hsz_t3, hcap_t3⟩, hG_t3⟩ := q49
    have N49 := Fr.app N48 Nq49
    have M49 : n0 ≤ T49.heap.size := Nat.le_trans M48 Kc49.1
    have e49 : T49.heap = T49.heap := rfl
    have ne_mo_t3 : mo ≠ t3 := by
      rcases tw with h | h
      · rw [h]; exact ne_mo_t2
      · exact Nat.ne_of_lt (Nat.lt_of_lt_of_le F_mo.lt h)
    have ne_ex_t3 : ex ≠ t3 := by
      rcases tw with h | h
      · rw [h]; exact ne_ex_t2
      · exact Nat.ne_of_lt (Nat.lt_of_lt_of_le F_ex.lt h)
    replace F_mo := F_mo.keep Kc49 (ninS ne_mo_b (ninS ne_mo_t2 nin0))
    replace F_ex := F_ex.keep Kc49 (ninS ne_ex_b (ninS ne_ex_t2 nin0))
    replace E_b := Eb
    replace f_b_nodes := fn
    replace f_b_size := fs
    have F_t3 := Fa
    have ne_b_t3 := nb
    clear tw nb
    refine g_iload X49 hx 145 (hb hby at_143) rfl rfl ?_
    refine g_iconst X49 hx 146 (hb hby at_145) (3 : Int32) (by decide) rfl ?_
    refine g_icT X49 hx 158 (hb hby at_146) (by decide) (by decide) (by decide) ?_
    refine g_iload X49 hx 160 (hb hby at_158) rfl rfl ?_
    refine g_iload X49 hx 162 (hb hby at_160) rfl rfl ?_
    refine g_iadd X49 hx 163 (hb hby at_162) rfl ?_
    refine g_istore X49 hx 165 (hb hby at_163) #[.val (.int x0), .val (.int x1), .val (.int x2), .val (.int x3), .val (.int x4), .val (.int x5), .val (.ref mo), .val (.ref ex), .val (.int q), .val (.int (2 : Int32)), .val (.ref b), .val (.int (q + (2 : Int32))), .unset] rfl rfl ?_
    have hlen : (q + (2 : Int32)).toInt = ((qN + 2 : Nat) : Int) := own_plus hq (by decide) (by omega)
    have hsz_fin : sz_t3.toInt = ((qN + 2 : Nat) : Int) := hsz_t3
    have hG_fin : ∀ i, i < qN + 2 → g_t3 i = if i < qN then gm i else ge (i - qN) := hG_t3
    refine g_aload X49 hx 167 (hb hby at_165) rfl rfl rfl ?_
    refine g_virtual X49 hx hZ 170 b [] [] 0 E_b hown (hw _ (List.mem_of_getElem? (i := 24) rfl)) (hw _ (List.mem_of_getElem? (i := 25) rfl)) (hw _ (List.mem_of_getElem? (i := 27) rfl)) (hw _ (List.mem_of_getElem? (i := 26) rfl)) (hw _ (List.mem_of_getElem? (i := 4) rfl)) (hw _ (List.mem_of_getElem? (i := 28) rfl)) (by decide) e49 (rm4 l Z a0 hw [] b t3 sz_t3 (qN + 2) cap_t3 g_t3 T49.heap n0 M49 E_b f_b_nodes f_b_size F_t3 hsz_fin (by omega) (by omega) ne_b_t3) (by decide) (by decide) (by decide) (by decide) (by rw [hml]; rfl) rfl pd_5 rfl (Nat.le_of_eq rfl) (hb hby at_167) rfl ?_
    intro v50 T50 L50 X50 q50
    obtain ⟨r, rfl, Nq50, Z_r, G_r, Kc50, F_r⟩ := q50
    have N50 := Fr.app N49 Nq50
    have M50 : n0 ≤ T50.heap.size := Nat.le_trans M49 Kc50.1
    have e50 : T50.heap = T50.heap := rfl
    replace F_mo := F_mo.keep Kc50 nin0
    replace F_ex := F_ex.keep Kc50 nin0
    replace E_b := E_b.keep Kc50
    replace f_b_nodes := f_b_nodes.keep Kc50 nin0
    replace f_b_size := f_b_size.keep Kc50 nin0
    replace F_t3 := F_t3.keep Kc50 nin0
    refine g_astore X50 hx 172 (hb hby at_170) rfl #[.val (.int x0), .val (.int x1), .val (.int x2), .val (.int x3), .val (.int x4), .val (.int x5), .val (.ref mo), .val (.ref ex), .val (.int q), .val (.int (2 : Int32)), .val (.ref b), .val (.int (q + (2 : Int32))), .val (.ref r)] rfl rfl ?_
    refine g_aload X50 hx 174 (hb hby at_172) rfl rfl rfl ?_
    refine g_arrlen X50 hx hZ 175 e50 F_r sz_t3 hsz_fin (hb hby at_174) rfl ?_
    refine g_iload X50 hx 177 (hb hby at_175) rfl rfl ?_
    refine g_icT X50 hx 182 (hb hby at_177) (Jvm.Free.XT.ii_eq_t (show sz_t3 = (q + (2 : Int32)) from (Int32.toInt_inj.mp (by rw [hsz_fin, hlen])))) (by decide) (by decide) ?_
    refine g_aload X50 hx 184 (hb hby at_182) rfl rfl rfl ?_
    refine g_iconst X50 hx 185 (hb hby at_184) (0 : Int32) (by decide) rfl ?_
    refine g_iload X50 hx 187 (hb hby at_185) rfl rfl ?_
    refine g_aload X50 hx 189 (hb hby at_187) rfl rfl rfl ?_
    refine g_iload X50 hx 191 (hb hby at_189) rfl rfl ?_
    refine g_aload X50 hx 193 (hb hby at_191) rfl rfl rfl ?_
    refine g_callS X50 hx hZ 196 [(.ref r), (.int (0 : Int32)), (.int (q + (2 : Int32))), (.ref mo), (.int q), (.ref ex)] [] 0 hown (hw _ (List.mem_of_getElem? (i := 29) rfl)) (hw _ (List.mem_of_getElem? (i := 30) rfl)) (hw _ (List.mem_of_getElem? (i := 31) rfl)) (hw _ (List.mem_of_getElem? (i := 32) rfl)) (by decide) e50 (rm5 l Z a0 hw [] r (0 : Int32) (q + (2 : Int32)) mo q ex 0 (qN + 2) qN gm ge g_t3 T50.heap n0 M50 (by decide) hlen hq hq10 (by omega) F_r F_mo F_ex hG_fin) (by decide) (by decide) (by decide) (by decide) (by rw [hml]; rfl) rfl pd_6 rfl (Nat.le_of_eq rfl) (hb hby at_193) rfl ?_
    intro v51 T51 L51 X51 q51
    obtain ⟨rfl, Nq51, e51⟩ := q51
    have N51 := Fr.app N50 Nq51
    have M51 := M50
    refine g_ifF X51 hx 199 (hb hby at_196) (by decide) rfl ?_
    refine g_aload X51 hx 201 (hb hby at_199) rfl rfl rfl ?_
    refine g_iconst X51 hx 202 (hb hby at_201) (1 : Int32) (by decide) rfl ?_
    refine g_iload X51 hx 204 (hb hby at_202) rfl rfl ?_
    refine g_aload X51 hx 206 (hb hby at_204) rfl rfl rfl ?_
    refine g_iload X51 hx 208 (hb hby at_206) rfl rfl ?_
    refine g_aload X51 hx 210 (hb hby at_208) rfl rfl rfl ?_
    refine g_callS X51 hx hZ 213 [(.ref r), (.int (1 : Int32)), (.int (q + (2 : Int32))), (.ref mo), (.int q), (.ref ex)] [] 0 hown (hw _ (List.mem_of_getElem? (i := 29) rfl)) (hw _ (List.mem_of_getElem? (i := 30) rfl)) (hw _ (List.mem_of_getElem? (i := 31) rfl)) (hw _ (List.mem_of_getElem? (i := 32) rfl)) (by decide) e51 (rm5 l Z a0 hw [] r (1 : Int32) (q + (2 : Int32)) mo q ex 1 (qN + 2) qN gm ge g_t3 T50.heap n0 M51 (by decide) hlen hq hq10 (by omega) F_r F_mo F_ex hG_fin) (by decide) (by decide) (by decide) (by decide) (by rw [hml]; rfl) rfl pd_6 rfl (Nat.le_of_eq rfl) (hb hby at_210) rfl ?_
    intro v52 T52 L52 X52 q52
    obtain ⟨rfl, Nq52, e52⟩ := q52
    have N52 := Fr.app N51 Nq52
    have M52 := M51
    refine g_ifF X52 hx 216 (hb hby at_213) (by decide) rfl ?_
    refine g_aload X52 hx 218 (hb hby at_216) rfl rfl rfl ?_
    refine g_iconst X52 hx 219 (hb hby at_218) (2 : Int32) (by decide) rfl ?_
    refine g_iload X52 hx 221 (hb hby at_219) rfl rfl ?_
    refine g_aload X52 hx 223 (hb hby at_221) rfl rfl rfl ?_
    refine g_iload X52 hx 225 (hb hby at_223) rfl rfl ?_
    refine g_aload X52 hx 227 (hb hby at_225) rfl rfl rfl ?_
    refine g_callS X52 hx hZ 230 [(.ref r), (.int (2 : Int32)), (.int (q + (2 : Int32))), (.ref mo), (.int q), (.ref ex)] [] 0 hown (hw _ (List.mem_of_getElem? (i := 29) rfl)) (hw _ (List.mem_of_getElem? (i := 30) rfl)) (hw _ (List.mem_of_getElem? (i := 31) rfl)) (hw _ (List.mem_of_getElem? (i := 32) rfl)) (by decide) e52 (rm5 l Z a0 hw [] r (2 : Int32) (q + (2 : Int32)) mo q ex 2 (qN + 2) qN gm ge g_t3 T50.heap n0 M52 (by decide) hlen hq hq10 (by omega) F_r F_mo F_ex hG_fin) (by decide) (by decide) (by decide) (by decide) (by rw [hml]; rfl) rfl pd_6 rfl (Nat.le_of_eq rfl) (hb hby at_227) rfl ?_
    intro v53 T53 L53 X53 q53
    obtain ⟨rfl, Nq53, e53⟩ := q53
    have N53 := Fr.app N52 Nq53
    have M53 := M52
    refine g_ifF X53 hx 233 (hb hby at_230) (by decide) rfl ?_
    refine g_aload X53 hx 235 (hb hby at_233) rfl rfl rfl ?_
    refine g_iconst X53 hx 236 (hb hby at_235) (3 : Int32) (by decide) rfl ?_
    refine g_iload X53 hx 238 (hb hby at_236) rfl rfl ?_
    refine g_aload X53 hx 240 (hb hby at_238) rfl rfl rfl ?_
    refine g_iload X53 hx 242 (hb hby at_240) rfl rfl ?_
    refine g_aload X53 hx 244 (hb hby at_242) rfl rfl rfl ?_
    refine g_callS X53 hx hZ 247 [(.ref r), (.int (3 : Int32)), (.int (q + (2 : Int32))), (.ref mo), (.int q), (.ref ex)] [] 0 hown (hw _ (List.mem_of_getElem? (i := 29) rfl)) (hw _ (List.mem_of_getElem? (i := 30) rfl)) (hw _ (List.mem_of_getElem? (i := 31) rfl)) (hw _ (List.mem_of_getElem? (i := 32) rfl)) (by decide) e53 (rm5 l Z a0 hw [] r (3 : Int32) (q + (2 : Int32)) mo q ex 3 (qN + 2) qN gm ge g_t3 T50.heap n0 M53 (by decide) hlen hq hq10 (by omega) F_r F_mo F_ex hG_fin) (by decide) (by decide) (by decide) (by decide) (by rw [hml]; rfl) rfl pd_6 rfl (Nat.le_of_eq rfl) (hb hby at_244) rfl ?_
    intro v54 T54 L54 X54 q54
    obtain ⟨rfl, Nq54, e54⟩ := q54
    have N54 := Fr.app N53 Nq54
    have M54 := M53
    refine g_ifF X54 hx 250 (hb hby at_247) (by decide) rfl ?_
    refine g_aload X54 hx 252 (hb hby at_250) rfl rfl rfl ?_
    refine g_iconst X54 hx 253 (hb hby at_252) (4 : Int32) (by decide) rfl ?_
    refine g_iload X54 hx 255 (hb hby at_253) rfl rfl ?_
    refine g_aload X54 hx 257 (hb hby at_255) rfl rfl rfl ?_
    refine g_iload X54 hx 259 (hb hby at_257) rfl rfl ?_
    refine g_aload X54 hx 261 (hb hby at_259) rfl rfl rfl ?_
    refine g_callS X54 hx hZ 264 [(.ref r), (.int (4 : Int32)), (.int (q + (2 : Int32))), (.ref mo), (.int q), (.ref ex)] [] 0 hown (hw _ (List.mem_of_getElem? (i := 29) rfl)) (hw _ (List.mem_of_getElem? (i := 30) rfl)) (hw _ (List.mem_of_getElem? (i := 31) rfl)) (hw _ (List.mem_of_getElem? (i := 32) rfl)) (by decide) e54 (rm5 l Z a0 hw [] r (4 : Int32) (q + (2 : Int32)) mo q ex 4 (qN + 2) qN gm ge g_t3 T50.heap n0 M54 (by decide) hlen hq hq10 (by omega) F_r F_mo F_ex hG_fin) (by decide) (by decide) (by decide) (by decide) (by rw [hml]; rfl) rfl pd_6 rfl (Nat.le_of_eq rfl) (hb hby at_261) rfl ?_
    intro v55 T55 L55 X55 q55
    obtain ⟨rfl, Nq55, e55⟩ := q55
    have N55 := Fr.app N54 Nq55
    have M55 := M54
    refine g_ifF X55 hx 267 (hb hby at_264) (by decide) rfl ?_
    refine g_aload X55 hx 269 (hb hby at_267) rfl rfl rfl ?_
    refine g_iconst X55 hx 270 (hb hby at_269) (5 : Int32) (by decide) rfl ?_
    refine g_iload X55 hx 272 (hb hby at_270) rfl rfl ?_
    refine g_aload X55 hx 274 (hb hby at_272) rfl rfl rfl ?_
    refine g_iload X55 hx 276 (hb hby at_274) rfl rfl ?_
    refine g_aload X55 hx 278 (hb hby at_276) rfl rfl rfl ?_
    refine g_callS X55 hx hZ 281 [(.ref r), (.int (5 : Int32)), (.int (q + (2 : Int32))), (.ref mo), (.int q), (.ref ex)] [] 0 hown (hw _ (List.mem_of_getElem? (i := 29) rfl)) (hw _ (List.mem_of_getElem? (i := 30) rfl)) (hw _ (List.mem_of_getElem? (i := 31) rfl)) (hw _ (List.mem_of_getElem? (i := 32) rfl)) (by decide) e55 (rm5 l Z a0 hw [] r (5 : Int32) (q + (2 : Int32)) mo q ex 5 (qN + 2) qN gm ge g_t3 T50.heap n0 M55 (by decide) hlen hq hq10 (by omega) F_r F_mo F_ex hG_fin) (by decide) (by decide) (by decide) (by decide) (by rw [hml]; rfl) rfl pd_6 rfl (Nat.le_of_eq rfl) (hb hby at_278) rfl ?_
    intro v56 T56 L56 X56 q56
    obtain ⟨rfl, Nq56, e56⟩ := q56
    have N56 := Fr.app N55 Nq56
    have M56 := M55
    refine g_ifF X56 hx 284 (hb hby at_281) (by decide) rfl ?_
    refine g_aload X56 hx 286 (hb hby at_284) rfl rfl rfl ?_
    refine g_bipush X56 hx 288 (hb hby at_286) (6 : Int32) (by decide) rfl ?_
    refine g_iload X56 hx 290 (hb hby at_288) rfl rfl ?_
    refine g_aload X56 hx 292 (hb hby at_290) rfl rfl rfl ?_
    refine g_iload X56 hx 294 (hb hby at_292) rfl rfl ?_
    refine g_aload X56 hx 296 (hb hby at_294) rfl rfl rfl ?_
    refine g_callS X56 hx hZ 299 [(.ref r), (.int (6 : Int32)), (.int (q + (2 : Int32))), (.ref mo), (.int q), (.ref ex)] [] 0 hown (hw _ (List.mem_of_getElem? (i := 29) rfl)) (hw _ (List.mem_of_getElem? (i := 30) rfl)) (hw _ (List.mem_of_getElem? (i := 31) rfl)) (hw _ (List.mem_of_getElem? (i := 32) rfl)) (by decide) e56 (rm5 l Z a0 hw [] r (6 : Int32) (q + (2 : Int32)) mo q ex 6 (qN + 2) qN gm ge g_t3 T50.heap n0 M56 (by decide) hlen hq hq10 (by omega) F_r F_mo F_ex hG_fin) (by decide) (by decide) (by decide) (by decide) (by rw [hml]; rfl) rfl pd_6 rfl (Nat.le_of_eq rfl) (hb hby at_296) rfl ?_
    intro v57 T57 L57 X57 q57
    obtain ⟨rfl, Nq57, e57⟩ := q57
    have N57 := Fr.app N56 Nq57
    have M57 := M56
    refine g_ifF X57 hx 302 (hb hby at_299) (by decide) rfl ?_
    refine g_aload X57 hx 304 (hb hby at_302) rfl rfl rfl ?_
    refine g_bipush X57 hx 306 (hb hby at_304) (7 : Int32) (by decide) rfl ?_
    refine g_iload X57 hx 308 (hb hby at_306) rfl rfl ?_
    refine g_aload X57 hx 310 (hb hby at_308) rfl rfl rfl ?_
    refine g_iload X57 hx 312 (hb hby at_310) rfl rfl ?_
    refine g_aload X57 hx 314 (hb hby at_312) rfl rfl rfl ?_
    refine g_callS X57 hx hZ 317 [(.ref r), (.int (7 : Int32)), (.int (q + (2 : Int32))), (.ref mo), (.int q), (.ref ex)] [] 0 hown (hw _ (List.mem_of_getElem? (i := 29) rfl)) (hw _ (List.mem_of_getElem? (i := 30) rfl)) (hw _ (List.mem_of_getElem? (i := 31) rfl)) (hw _ (List.mem_of_getElem? (i := 32) rfl)) (by decide) e57 (rm5 l Z a0 hw [] r (7 : Int32) (q + (2 : Int32)) mo q ex 7 (qN + 2) qN gm ge g_t3 T50.heap n0 M57 (by decide) hlen hq hq10 (by omega) F_r F_mo F_ex hG_fin) (by decide) (by decide) (by decide) (by decide) (by rw [hml]; rfl) rfl pd_6 rfl (Nat.le_of_eq rfl) (hb hby at_314) rfl ?_
    intro v58 T58 L58 X58 q58
    obtain ⟨rfl, Nq58, e58⟩ := q58
    have N58 := Fr.app N57 Nq58
    have M58 := M57
    refine g_ifF X58 hx 320 (hb hby at_317) (by decide) rfl ?_
    refine g_aload X58 hx 322 (hb hby at_320) rfl rfl rfl ?_
    refine g_bipush X58 hx 324 (hb hby at_322) (8 : Int32) (by decide) rfl ?_
    refine g_iload X58 hx 326 (hb hby at_324) rfl rfl ?_
    refine g_aload X58 hx 328 (hb hby at_326) rfl rfl rfl ?_
    refine g_iload X58 hx 330 (hb hby at_328) rfl rfl ?_
    refine g_aload X58 hx 332 (hb hby at_330) rfl rfl rfl ?_
    refine g_callS X58 hx hZ 335 [(.ref r), (.int (8 : Int32)), (.int (q + (2 : Int32))), (.ref mo), (.int q), (.ref ex)] [] 0 hown (hw _ (List.mem_of_getElem? (i := 29) rfl)) (hw _ (List.mem_of_getElem? (i := 30) rfl)) (hw _ (List.mem_of_getElem? (i := 31) rfl)) (hw _ (List.mem_of_getElem? (i := 32) rfl)) (by decide) e58 (rm5 l Z a0 hw [] r (8 : Int32) (q + (2 : Int32)) mo q ex 8 (qN + 2) qN gm ge g_t3 T50.heap n0 M58 (by decide) hlen hq hq10 (by omega) F_r F_mo F_ex hG_fin) (by decide) (by decide) (by decide) (by decide) (by rw [hml]; rfl) rfl pd_6 rfl (Nat.le_of_eq rfl) (hb hby at_332) rfl ?_
    intro v59 T59 L59 X59 q59
    obtain ⟨rfl, Nq59, e59⟩ := q59
    have N59 := Fr.app N58 Nq59
    have M59 := M58
    refine g_ifF X59 hx 338 (hb hby at_335) (by decide) rfl ?_
    refine g_aload X59 hx 340 (hb hby at_338) rfl rfl rfl ?_
    refine g_bipush X59 hx 342 (hb hby at_340) (9 : Int32) (by decide) rfl ?_
    refine g_iload X59 hx 344 (hb hby at_342) rfl rfl ?_
    refine g_aload X59 hx 346 (hb hby at_344) rfl rfl rfl ?_
    refine g_iload X59 hx 348 (hb hby at_346) rfl rfl ?_
    refine g_aload X59 hx 350 (hb hby at_348) rfl rfl rfl ?_
    refine g_callS X59 hx hZ 353 [(.ref r), (.int (9 : Int32)), (.int (q + (2 : Int32))), (.ref mo), (.int q), (.ref ex)] [] 0 hown (hw _ (List.mem_of_getElem? (i := 29) rfl)) (hw _ (List.mem_of_getElem? (i := 30) rfl)) (hw _ (List.mem_of_getElem? (i := 31) rfl)) (hw _ (List.mem_of_getElem? (i := 32) rfl)) (by decide) e59 (rm5 l Z a0 hw [] r (9 : Int32) (q + (2 : Int32)) mo q ex 9 (qN + 2) qN gm ge g_t3 T50.heap n0 M59 (by decide) hlen hq hq10 (by omega) F_r F_mo F_ex hG_fin) (by decide) (by decide) (by decide) (by decide) (by rw [hml]; rfl) rfl pd_6 rfl (Nat.le_of_eq rfl) (hb hby at_350) rfl ?_
    intro v60 T60 L60 X60 q60
    obtain ⟨rfl, Nq60, e60⟩ := q60
    have N60 := Fr.app N59 Nq60
    have M60 := M59
    refine g_ifF X60 hx 356 (hb hby at_353) (by decide) rfl ?_
    refine g_aload X60 hx 358 (hb hby at_356) rfl rfl rfl ?_
    refine g_bipush X60 hx 360 (hb hby at_358) (10 : Int32) (by decide) rfl ?_
    refine g_iload X60 hx 362 (hb hby at_360) rfl rfl ?_
    refine g_aload X60 hx 364 (hb hby at_362) rfl rfl rfl ?_
    refine g_iload X60 hx 366 (hb hby at_364) rfl rfl ?_
    refine g_aload X60 hx 368 (hb hby at_366) rfl rfl rfl ?_
    refine g_callS X60 hx hZ 371 [(.ref r), (.int (10 : Int32)), (.int (q + (2 : Int32))), (.ref mo), (.int q), (.ref ex)] [] 0 hown (hw _ (List.mem_of_getElem? (i := 29) rfl)) (hw _ (List.mem_of_getElem? (i := 30) rfl)) (hw _ (List.mem_of_getElem? (i := 31) rfl)) (hw _ (List.mem_of_getElem? (i := 32) rfl)) (by decide) e60 (rm5 l Z a0 hw [] r (10 : Int32) (q + (2 : Int32)) mo q ex 10 (qN + 2) qN gm ge g_t3 T50.heap n0 M60 (by decide) hlen hq hq10 (by omega) F_r F_mo F_ex hG_fin) (by decide) (by decide) (by decide) (by decide) (by rw [hml]; rfl) rfl pd_6 rfl (Nat.le_of_eq rfl) (hb hby at_368) rfl ?_
    intro v61 T61 L61 X61 q61
    obtain ⟨rfl, Nq61, e61⟩ := q61
    have N61 := Fr.app N60 Nq61
    have M61 := M60
    refine g_ifF X61 hx 374 (hb hby at_371) (by decide) rfl ?_
    refine g_aload X61 hx 376 (hb hby at_374) rfl rfl rfl ?_
    refine g_bipush X61 hx 378 (hb hby at_376) (11 : Int32) (by decide) rfl ?_
    refine g_iload X61 hx 380 (hb hby at_378) rfl rfl ?_
    refine g_aload X61 hx 382 (hb hby at_380) rfl rfl rfl ?_
    refine g_iload X61 hx 384 (hb hby at_382) rfl rfl ?_
    refine g_aload X61 hx 386 (hb hby at_384) rfl rfl rfl ?_
    refine g_callS X61 hx hZ 389 [(.ref r), (.int (11 : Int32)), (.int (q + (2 : Int32))), (.ref mo), (.int q), (.ref ex)] [] 0 hown (hw _ (List.mem_of_getElem? (i := 29) rfl)) (hw _ (List.mem_of_getElem? (i := 30) rfl)) (hw _ (List.mem_of_getElem? (i := 31) rfl)) (hw _ (List.mem_of_getElem? (i := 32) rfl)) (by decide) e61 (rm5 l Z a0 hw [] r (11 : Int32) (q + (2 : Int32)) mo q ex 11 (qN + 2) qN gm ge g_t3 T50.heap n0 M61 (by decide) hlen hq hq10 (by omega) F_r F_mo F_ex hG_fin) (by decide) (by decide) (by decide) (by decide) (by rw [hml]; rfl) rfl pd_6 rfl (Nat.le_of_eq rfl) (hb hby at_386) rfl ?_
    intro v62 T62 L62 X62 q62
    obtain ⟨rfl, Nq62, e62⟩ := q62
    have N62 := Fr.app N61 Nq62
    have M62 := M61
    refine g_ifF X62 hx 392 (hb hby at_389) (by decide) rfl ?_
    refine g_aload X62 hx 394 (hb hby at_392) rfl rfl rfl ?_
    refine g_bipush X62 hx 396 (hb hby at_394) (12 : Int32) (by decide) rfl ?_
    refine g_iload X62 hx 398 (hb hby at_396) rfl rfl ?_
    refine g_aload X62 hx 400 (hb hby at_398) rfl rfl rfl ?_
    refine g_iload X62 hx 402 (hb hby at_400) rfl rfl ?_
    refine g_aload X62 hx 404 (hb hby at_402) rfl rfl rfl ?_
    refine g_callS X62 hx hZ 407 [(.ref r), (.int (12 : Int32)), (.int (q + (2 : Int32))), (.ref mo), (.int q), (.ref ex)] [] 0 hown (hw _ (List.mem_of_getElem? (i := 29) rfl)) (hw _ (List.mem_of_getElem? (i := 30) rfl)) (hw _ (List.mem_of_getElem? (i := 31) rfl)) (hw _ (List.mem_of_getElem? (i := 32) rfl)) (by decide) e62 (rm5 l Z a0 hw [] r (12 : Int32) (q + (2 : Int32)) mo q ex 12 (qN + 2) qN gm ge g_t3 T50.heap n0 M62 (by decide) hlen hq hq10 (by omega) F_r F_mo F_ex hG_fin) (by decide) (by decide) (by decide) (by decide) (by rw [hml]; rfl) rfl pd_6 rfl (Nat.le_of_eq rfl) (hb hby at_404) rfl ?_
    intro v63 T63 L63 X63 q63
    obtain ⟨rfl, Nq63, e63⟩ := q63
    have N63 := Fr.app N62 Nq63
    have M63 := M62
    refine g_ifF X63 hx 410 (hb hby at_407) (by decide) rfl ?_
    refine g_iconst X63 hx 411 (hb hby at_410) (1 : Int32) (by decide) rfl ?_
    refine g_goto X63 hx 415 (hb hby at_411) (by decide) (by decide) ?_
    refine g_nret X63 hx (by simp) hret hlk (hb hby at_415) (by decide) (by decide) ?_
    exact ⟨rfl, N63⟩
  · skip
    refine g_iload X18 hx 115 (hb hby at_113) rfl rfl ?_
    refine g_iconst X18 hx 116 (hb hby at_115) (1 : Int32) (by decide) rfl ?_
    refine g_icF X18 hx 119 (hb hby at_116) (by decide) rfl ?_
    refine g_aload X18 hx 121 (hb hby at_119) rfl rfl rfl ?_
    refine g_aload X18 hx 123 (hb hby at_121) rfl rfl rfl ?_
    refine g_iconst X18 hx 124 (hb hby at_123) (0 : Int32) (by decide) rfl ?_
    refine g_iaload X18 hx hZ 125 e18 F_ex (hb hby at_124) (0) (by decide) (by decide) (.int (ge 0)) rfl rfl ?_
    refine g_virtual X18 hx hZ 128 b [(.int (ge 0))] [] 0 E_b hown (hw _ (List.mem_of_getElem? (i := 36) rfl)) (hw _ (List.mem_of_getElem? (i := 37) rfl)) (hw _ (List.mem_of_getElem? (i := 39) rfl)) (hw _ (List.mem_of_getElem? (i := 38) rfl)) (hw _ (List.mem_of_getElem? (i := 4) rfl)) (hw _ (List.mem_of_getElem? (i := 40) rfl)) (by decide) e18 (rm7 l Z a0 hw [] b t1 (ge 0) sz_t1 qN cap_t1 g_t1 (fun i => if i < qN then gm i else ge (i - qN)) T18.heap n0 M18 E_b f_b_nodes f_b_size F_t1 hsz_t1 (by omega) Z_b Z_t1 ne_b_t1 (fun i hi => by rw [hG_t1 i hi]; simp [hi]) (by simp <;> omega)) (by decide) (by decide) (by decide) (by decide) (by rw [hml]; rfl) rfl pd_7 rfl (Nat.le_of_eq rfl) (hb hby at_125) rfl ?_
    intro v64 T64 L64 X64 q64
    obtain ⟨rfl, Nq64, Kc64, t2, cap_t2, sz_t2, g_t2, Z_t2, tw, nb, ⟨Eb, fn, fs, Fa, hsz_t2, hcap_t2⟩, hG_t2⟩ := q64
    have N64 := Fr.app N18 Nq64
    have M64 : n0 ≤ T64.heap.size := Nat.le_trans M18 Kc64.1
    have e64 : T64.heap = T64.heap := rfl
    have ne_mo_t2 : mo ≠ t2 := by
      rcases tw with h | h
      · rw [h]; exact ne_mo_t1
      · exact Nat.ne_of_lt (Nat.lt_of_lt_of_le F_mo.lt h)
    have ne_ex_t2 : ex ≠ t2 := by
      rcases tw with h | h
      · rw [h]; exact ne_ex_t1
      · exact Nat.ne_of_lt (Nat.lt_of_lt_of_le F_ex.lt h)
    replace F_mo := F_mo.keep Kc64 (ninS ne_mo_b (ninS ne_mo_t1 nin0))
    replace F_ex := F_ex.keep Kc64 (ninS ne_ex_b (ninS ne_ex_t1 nin0))
    replace E_b := Eb
    replace f_b_nodes := fn
    replace f_b_size := fs
    have F_t2 := Fa
    have ne_b_t2 := nb
    clear tw nb
    refine g_iload X64 hx 130 (hb hby at_128) rfl rfl ?_
    refine g_iconst X64 hx 131 (hb hby at_130) (2 : Int32) (by decide) rfl ?_
    refine g_icF X64 hx 134 (hb hby at_131) (by decide) rfl ?_
    refine g_aload X64 hx 136 (hb hby at_134) rfl rfl rfl ?_
    refine g_aload X64 hx 138 (hb hby at_136) rfl rfl rfl ?_
    refine g_iconst X64 hx 139 (hb hby at_138) (1 : Int32) (by decide) rfl ?_
    refine g_iaload X64 hx hZ 140 e64 F_ex (hb hby at_139) (1) (by decide) (by decide) (.int (ge 1)) rfl rfl ?_
    refine g_virtual X64 hx hZ 143 b [(.int (ge 1))] [] 0 E_b hown (hw _ (List.mem_of_getElem? (i := 36) rfl)) (hw _ (List.mem_of_getElem? (i := 37) rfl)) (hw _ (List.mem_of_getElem? (i := 39) rfl)) (hw _ (List.mem_of_getElem? (i := 38) rfl)) (hw _ (List.mem_of_getElem? (i := 4) rfl)) (hw _ (List.mem_of_getElem? (i := 40) rfl)) (by decide) e64 (rm7 l Z a0 hw [] b t2 (ge 1) sz_t2 (qN + 1) cap_t2 g_t2 (fun i => if i < qN then gm i else ge (i - qN)) T64.heap n0 M64 E_b f_b_nodes f_b_size F_t2 hsz_t2 (by omega) Z_b Z_t2 ne_b_t2 hG_t2 (by simp <;> omega)) (by decide) (by decide) (by decide) (by decide) (by rw [hml]; rfl) rfl pd_7 rfl (Nat.le_of_eq rfl) (hb hby at_140) rfl ?_
    intro v65 T65 L65 X65 q65
    obtain ⟨rfl, Nq65, Kc65, t3, cap_t3, sz_t3, g_t3, Z_t3, tw, nb, ⟨Eb, fn, fs, Fa, hsz_t3, hcap_t3⟩, hG_t3⟩ := q65
    have N65 := Fr.app N64 Nq65
    have M65 : n0 ≤ T65.heap.size := Nat.le_trans M64 Kc65.1
    have e65 : T65.heap = T65.heap := rfl
    have ne_mo_t3 : mo ≠ t3 := by
      rcases tw with h | h
      · rw [h]; exact ne_mo_t2
      · exact Nat.ne_of_lt (Nat.lt_of_lt_of_le F_mo.lt h)
    have ne_ex_t3 : ex ≠ t3 := by
      rcases tw with h | h
      · rw [h]; exact ne_ex_t2
      · exact Nat.ne_of_lt (Nat.lt_of_lt_of_le F_ex.lt h)
    replace F_mo := F_mo.keep Kc65 (ninS ne_mo_b (ninS ne_mo_t2 nin0))
    replace F_ex := F_ex.keep Kc65 (ninS ne_ex_b (ninS ne_ex_t2 nin0))
    replace E_b := Eb
    replace f_b_nodes := fn
    replace f_b_size := fs
    have F_t3 := Fa
    have ne_b_t3 := nb
    clear tw nb
    refine g_iload X65 hx 145 (hb hby at_143) rfl rfl ?_
    refine g_iconst X65 hx 146 (hb hby at_145) (3 : Int32) (by decide) rfl ?_
    refine g_icF X65 hx 149 (hb hby at_146) (by decide) rfl ?_
    refine g_aload X65 hx 151 (hb hby at_149) rfl rfl rfl ?_
    refine g_aload X65 hx 153 (hb hby at_151) rfl rfl rfl ?_
    refine g_iconst X65 hx 154 (hb hby at_153) (2 : Int32) (by decide) rfl ?_
    refine g_iaload X65 hx hZ 155 e65 F_ex (hb hby at_154) (2) (by decide) (by decide) (.int (ge 2)) rfl rfl ?_
    refine g_virtual X65 hx hZ 158 b [(.int (ge 2))] [] 0 E_b hown (hw _ (List.mem_of_getElem? (i := 36) rfl)) (hw _ (List.mem_of_getElem? (i := 37) rfl)) (hw _ (List.mem_of_getElem? (i := 39) rfl)) (hw _ (List.mem_of_getElem? (i := 38) rfl)) (hw _ (List.mem_of_getElem? (i := 4) rfl)) (hw _ (List.mem_of_getElem? (i := 40) rfl)) (by decide) e65 (rm7 l Z a0 hw [] b t3 (ge 2) sz_t3 (qN + 2) cap_t3 g_t3 (fun i => if i < qN then gm i else ge (i - qN)) T65.heap n0 M65 E_b f_b_nodes f_b_size F_t3 hsz_t3 (by omega) Z_b Z_t3 ne_b_t3 hG_t3 (by simp <;> omega)) (by decide) (by decide) (by decide) (by decide) (by rw [hml]; rfl) rfl pd_7 rfl (Nat.le_of_eq rfl) (hb hby at_155) rfl ?_
    intro v66 T66 L66 X66 q66
    obtain ⟨rfl, Nq66, Kc66, t4, cap_t4, sz_t4, g_t4, Z_t4, tw, nb, ⟨Eb, fn, fs, Fa, hsz_t4, hcap_t4⟩, hG_t4⟩ := q66
    have N66 := Fr.app N65 Nq66
    have M66 : n0 ≤ T66.heap.size := Nat.le_trans M65 Kc66.1
    have e66 : T66.heap = T66.heap := rfl
    have ne_mo_t4 : mo ≠ t4 := by
      rcases tw with h | h
      · rw [h]; exact ne_mo_t3
      · exact Nat.ne_of_lt (Nat.lt_of_lt_of_le F_mo.lt h)
    have ne_ex_t4 : ex ≠ t4 := by
      rcases tw with h | h
      · rw [h]; exact ne_ex_t3
      · exact Nat.ne_of_lt (Nat.lt_of_lt_of_le F_ex.lt h)
    replace F_mo := F_mo.keep Kc66 (ninS ne_mo_b (ninS ne_mo_t3 nin0))
    replace F_ex := F_ex.keep Kc66 (ninS ne_ex_b (ninS ne_ex_t3 nin0))
    replace E_b := Eb
    replace f_b_nodes := fn
    replace f_b_size := fs
    have F_t4 := Fa
    have ne_b_t4 := nb
    clear tw nb
    refine g_iload X66 hx 160 (hb hby at_158) rfl rfl ?_
    refine g_iload X66 hx 162 (hb hby at_160) rfl rfl ?_
    refine g_iadd X66 hx 163 (hb hby at_162) rfl ?_
    refine g_istore X66 hx 165 (hb hby at_163) #[.val (.int x0), .val (.int x1), .val (.int x2), .val (.int x3), .val (.int x4), .val (.int x5), .val (.ref mo), .val (.ref ex), .val (.int q), .val (.int (3 : Int32)), .val (.ref b), .val (.int (q + (3 : Int32))), .unset] rfl rfl ?_
    have hlen : (q + (3 : Int32)).toInt = ((qN + 3 : Nat) : Int) := own_plus hq (by decide) (by omega)
    have hsz_fin : sz_t4.toInt = ((qN + 3 : Nat) : Int) := hsz_t4
    have hG_fin : ∀ i, i < qN + 3 → g_t4 i = if i < qN then gm i else ge (i - qN) := hG_t4
    refine g_aload X66 hx 167 (hb hby at_165) rfl rfl rfl ?_
    refine g_virtual X66 hx hZ 170 b [] [] 0 E_b hown (hw _ (List.mem_of_getElem? (i := 24) rfl)) (hw _ (List.mem_of_getElem? (i := 25) rfl)) (hw _ (List.mem_of_getElem? (i := 27) rfl)) (hw _ (List.mem_of_getElem? (i := 26) rfl)) (hw _ (List.mem_of_getElem? (i := 4) rfl)) (hw _ (List.mem_of_getElem? (i := 28) rfl)) (by decide) e66 (rm4 l Z a0 hw [] b t4 sz_t4 (qN + 3) cap_t4 g_t4 T66.heap n0 M66 E_b f_b_nodes f_b_size F_t4 hsz_fin (by omega) (by omega) ne_b_t4) (by decide) (by decide) (by decide) (by decide) (by rw [hml]; rfl) rfl pd_5 rfl (Nat.le_of_eq rfl) (hb hby at_167) rfl ?_
    intro v67 T67 L67 X67 q67
    obtain ⟨r, rfl, Nq67, Z_r, G_r, Kc67, F_r⟩ := q67
    have N67 := Fr.app N66 Nq67
    have M67 : n0 ≤ T67.heap.size := Nat.le_trans M66 Kc67.1
    have e67 : T67.heap = T67.heap := rfl
    replace F_mo := F_mo.keep Kc67 nin0
    replace F_ex := F_ex.keep Kc67 nin0
    replace E_b := E_b.keep Kc67
    replace f_b_nodes := f_b_nodes.keep Kc67 nin0
    replace f_b_size := f_b_size.keep Kc67 nin0
    replace F_t4 := F_t4.keep Kc67 nin0
    refine g_astore X67 hx 172 (hb hby at_170) rfl #[.val (.int x0), .val (.int x1), .val (.int x2), .val (.int x3), .val (.int x4), .val (.int x5), .val (.ref mo), .val (.ref ex), .val (.int q), .val (.int (3 : Int32)), .val (.ref b), .val (.int (q + (3 : Int32))), .val (.ref r)] rfl rfl ?_
    refine g_aload X67 hx 174 (hb hby at_172) rfl rfl rfl ?_
    refine g_arrlen X67 hx hZ 175 e67 F_r sz_t4 hsz_fin (hb hby at_174) rfl ?_
    refine g_iload X67 hx 177 (hb hby at_175) rfl rfl ?_
    refine g_icT X67 hx 182 (hb hby at_177) (Jvm.Free.XT.ii_eq_t (show sz_t4 = (q + (3 : Int32)) from (Int32.toInt_inj.mp (by rw [hsz_fin, hlen])))) (by decide) (by decide) ?_
    refine g_aload X67 hx 184 (hb hby at_182) rfl rfl rfl ?_
    refine g_iconst X67 hx 185 (hb hby at_184) (0 : Int32) (by decide) rfl ?_
    refine g_iload X67 hx 187 (hb hby at_185) rfl rfl ?_
    refine g_aload X67 hx 189 (hb hby at_187) rfl rfl rfl ?_
    refine g_iload X67 hx 191 (hb hby at_189) rfl rfl ?_
    refine g_aload X67 hx 193 (hb hby at_191) rfl rfl rfl ?_
    refine g_callS X67 hx hZ 196 [(.ref r), (.int (0 : Int32)), (.int (q + (3 : Int32))), (.ref mo), (.int q), (.ref ex)] [] 0 hown (hw _ (List.mem_of_getElem? (i := 29) rfl)) (hw _ (List.mem_of_getElem? (i := 30) rfl)) (hw _ (List.mem_of_getElem? (i := 31) rfl)) (hw _ (List.mem_of_getElem? (i := 32) rfl)) (by decide) e67 (rm5 l Z a0 hw [] r (0 : Int32) (q + (3 : Int32)) mo q ex 0 (qN + 3) qN gm ge g_t4 T67.heap n0 M67 (by decide) hlen hq hq10 (by omega) F_r F_mo F_ex hG_fin) (by decide) (by decide) (by decide) (by decide) (by rw [hml]; rfl) rfl pd_6 rfl (Nat.le_of_eq rfl) (hb hby at_193) rfl ?_
    intro v68 T68 L68 X68 q68
    obtain ⟨rfl, Nq68, e68⟩ := q68
    have N68 := Fr.app N67 Nq68
    have M68 := M67
    refine g_ifF X68 hx 199 (hb hby at_196) (by decide) rfl ?_
    refine g_aload X68 hx 201 (hb hby at_199) rfl rfl rfl ?_
    refine g_iconst X68 hx 202 (hb hby at_201) (1 : Int32) (by decide) rfl ?_
    refine g_iload X68 hx 204 (hb hby at_202) rfl rfl ?_
    refine g_aload X68 hx 206 (hb hby at_204) rfl rfl rfl ?_
    refine g_iload X68 hx 208 (hb hby at_206) rfl rfl ?_
    refine g_aload X68 hx 210 (hb hby at_208) rfl rfl rfl ?_
    refine g_callS X68 hx hZ 213 [(.ref r), (.int (1 : Int32)), (.int (q + (3 : Int32))), (.ref mo), (.int q), (.ref ex)] [] 0 hown (hw _ (List.mem_of_getElem? (i := 29) rfl)) (hw _ (List.mem_of_getElem? (i := 30) rfl)) (hw _ (List.mem_of_getElem? (i := 31) rfl)) (hw _ (List.mem_of_getElem? (i := 32) rfl)) (by decide) e68 (rm5 l Z a0 hw [] r (1 : Int32) (q + (3 : Int32)) mo q ex 1 (qN + 3) qN gm ge g_t4 T67.heap n0 M68 (by decide) hlen hq hq10 (by omega) F_r F_mo F_ex hG_fin) (by decide) (by decide) (by decide) (by decide) (by rw [hml]; rfl) rfl pd_6 rfl (Nat.le_of_eq rfl) (hb hby at_210) rfl ?_
    intro v69 T69 L69 X69 q69
    obtain ⟨rfl, Nq69, e69⟩ := q69
    have N69 := Fr.app N68 Nq69
    have M69 := M68
    refine g_ifF X69 hx 216 (hb hby at_213) (by decide) rfl ?_
    refine g_aload X69 hx 218 (hb hby at_216) rfl rfl rfl ?_
    refine g_iconst X69 hx 219 (hb hby at_218) (2 : Int32) (by decide) rfl ?_
    refine g_iload X69 hx 221 (hb hby at_219) rfl rfl ?_
    refine g_aload X69 hx 223 (hb hby at_221) rfl rfl rfl ?_
    refine g_iload X69 hx 225 (hb hby at_223) rfl rfl ?_
    refine g_aload X69 hx 227 (hb hby at_225) rfl rfl rfl ?_
    refine g_callS X69 hx hZ 230 [(.ref r), (.int (2 : Int32)), (.int (q + (3 : Int32))), (.ref mo), (.int q), (.ref ex)] [] 0 hown (hw _ (List.mem_of_getElem? (i := 29) rfl)) (hw _ (List.mem_of_getElem? (i := 30) rfl)) (hw _ (List.mem_of_getElem? (i := 31) rfl)) (hw _ (List.mem_of_getElem? (i := 32) rfl)) (by decide) e69 (rm5 l Z a0 hw [] r (2 : Int32) (q + (3 : Int32)) mo q ex 2 (qN + 3) qN gm ge g_t4 T67.heap n0 M69 (by decide) hlen hq hq10 (by omega) F_r F_mo F_ex hG_fin) (by decide) (by decide) (by decide) (by decide) (by rw [hml]; rfl) rfl pd_6 rfl (Nat.le_of_eq rfl) (hb hby at_227) rfl ?_
    intro v70 T70 L70 X70 q70
    obtain ⟨rfl, Nq70, e70⟩ := q70
    have N70 := Fr.app N69 Nq70
    have M70 := M69
    refine g_ifF X70 hx 233 (hb hby at_230) (by decide) rfl ?_
    refine g_aload X70 hx 235 (hb hby at_233) rfl rfl rfl ?_
    refine g_iconst X70 hx 236 (hb hby at_235) (3 : Int32) (by decide) rfl ?_
    refine g_iload X70 hx 238 (hb hby at_236) rfl rfl ?_
    refine g_aload X70 hx 240 (hb hby at_238) rfl rfl rfl ?_
    refine g_iload X70 hx 242 (hb hby at_240) rfl rfl ?_
    refine g_aload X70 hx 244 (hb hby at_242) rfl rfl rfl ?_
    refine g_callS X70 hx hZ 247 [(.ref r), (.int (3 : Int32)), (.int (q + (3 : Int32))), (.ref mo), (.int q), (.ref ex)] [] 0 hown (hw _ (List.mem_of_getElem? (i := 29) rfl)) (hw _ (List.mem_of_getElem? (i := 30) rfl)) (hw _ (List.mem_of_getElem? (i := 31) rfl)) (hw _ (List.mem_of_getElem? (i := 32) rfl)) (by decide) e70 (rm5 l Z a0 hw [] r (3 : Int32) (q + (3 : Int32)) mo q ex 3 (qN + 3) qN gm ge g_t4 T67.heap n0 M70 (by decide) hlen hq hq10 (by omega) F_r F_mo F_ex hG_fin) (by decide) (by decide) (by decide) (by decide) (by rw [hml]; rfl) rfl pd_6 rfl (Nat.le_of_eq rfl) (hb hby at_244) rfl ?_
    intro v71 T71 L71 X71 q71
    obtain ⟨rfl, Nq71, e71⟩ := q71
    have N71 := Fr.app N70 Nq71
    have M71 := M70
    refine g_ifF X71 hx 250 (hb hby at_247) (by decide) rfl ?_
    refine g_aload X71 hx 252 (hb hby at_250) rfl rfl rfl ?_
    refine g_iconst X71 hx 253 (hb hby at_252) (4 : Int32) (by decide) rfl ?_
    refine g_iload X71 hx 255 (hb hby at_253) rfl rfl ?_
    refine g_aload X71 hx 257 (hb hby at_255) rfl rfl rfl ?_
    refine g_iload X71 hx 259 (hb hby at_257) rfl rfl ?_
    refine g_aload X71 hx 261 (hb hby at_259) rfl rfl rfl ?_
    refine g_callS X71 hx hZ 264 [(.ref r), (.int (4 : Int32)), (.int (q + (3 : Int32))), (.ref mo), (.int q), (.ref ex)] [] 0 hown (hw _ (List.mem_of_getElem? (i := 29) rfl)) (hw _ (List.mem_of_getElem? (i := 30) rfl)) (hw _ (List.mem_of_getElem? (i := 31) rfl)) (hw _ (List.mem_of_getElem? (i := 32) rfl)) (by decide) e71 (rm5 l Z a0 hw [] r (4 : Int32) (q + (3 : Int32)) mo q ex 4 (qN + 3) qN gm ge g_t4 T67.heap n0 M71 (by decide) hlen hq hq10 (by omega) F_r F_mo F_ex hG_fin) (by decide) (by decide) (by decide) (by decide) (by rw [hml]; rfl) rfl pd_6 rfl (Nat.le_of_eq rfl) (hb hby at_261) rfl ?_
    intro v72 T72 L72 X72 q72
    obtain ⟨rfl, Nq72, e72⟩ := q72
    have N72 := Fr.app N71 Nq72
    have M72 := M71
    refine g_ifF X72 hx 267 (hb hby at_264) (by decide) rfl ?_
    refine g_aload X72 hx 269 (hb hby at_267) rfl rfl rfl ?_
    refine g_iconst X72 hx 270 (hb hby at_269) (5 : Int32) (by decide) rfl ?_
    refine g_iload X72 hx 272 (hb hby at_270) rfl rfl ?_
    refine g_aload X72 hx 274 (hb hby at_272) rfl rfl rfl ?_
    refine g_iload X72 hx 276 (hb hby at_274) rfl rfl ?_
    refine g_aload X72 hx 278 (hb hby at_276) rfl rfl rfl ?_
    refine g_callS X72 hx hZ 281 [(.ref r), (.int (5 : Int32)), (.int (q + (3 : Int32))), (.ref mo), (.int q), (.ref ex)] [] 0 hown (hw _ (List.mem_of_getElem? (i := 29) rfl)) (hw _ (List.mem_of_getElem? (i := 30) rfl)) (hw _ (List.mem_of_getElem? (i := 31) rfl)) (hw _ (List.mem_of_getElem? (i := 32) rfl)) (by decide) e72 (rm5 l Z a0 hw [] r (5 : Int32) (q + (3 : Int32)) mo q ex 5 (qN + 3) qN gm ge g_t4 T67.heap n0 M72 (by decide) hlen hq hq10 (by omega) F_r F_mo F_ex hG_fin) (by decide) (by decide) (by decide) (by decide) (by rw [hml]; rfl) rfl pd_6 rfl (Nat.le_of_eq rfl) (hb hby at_278) rfl ?_
    intro v73 T73 L73 X73 q73
    obtain ⟨rfl, Nq73, e73⟩ := q73
    have N73 := Fr.app N72 Nq73
    have M73 := M72
    refine g_ifF X73 hx 284 (hb hby at_281) (by decide) rfl ?_
    refine g_aload X73 hx 286 (hb hby at_284) rfl rfl rfl ?_
    refine g_bipush X73 hx 288 (hb hby at_286) (6 : Int32) (by decide) rfl ?_
    refine g_iload X73 hx 290 (hb hby at_288) rfl rfl ?_
    refine g_aload X73 hx 292 (hb hby at_290) rfl rfl rfl ?_
    refine g_iload X73 hx 294 (hb hby at_292) rfl rfl ?_
    refine g_aload X73 hx 296 (hb hby at_294) rfl rfl rfl ?_
    refine g_callS X73 hx hZ 299 [(.ref r), (.int (6 : Int32)), (.int (q + (3 : Int32))), (.ref mo), (.int q), (.ref ex)] [] 0 hown (hw _ (List.mem_of_getElem? (i := 29) rfl)) (hw _ (List.mem_of_getElem? (i := 30) rfl)) (hw _ (List.mem_of_getElem? (i := 31) rfl)) (hw _ (List.mem_of_getElem? (i := 32) rfl)) (by decide) e73 (rm5 l Z a0 hw [] r (6 : Int32) (q + (3 : Int32)) mo q ex 6 (qN + 3) qN gm ge g_t4 T67.heap n0 M73 (by decide) hlen hq hq10 (by omega) F_r F_mo F_ex hG_fin) (by decide) (by decide) (by decide) (by decide) (by rw [hml]; rfl) rfl pd_6 rfl (Nat.le_of_eq rfl) (hb hby at_296) rfl ?_
    intro v74 T74 L74 X74 q74
    obtain ⟨rfl, Nq74, e74⟩ := q74
    have N74 := Fr.app N73 Nq74
    have M74 := M73
    refine g_ifF X74 hx 302 (hb hby at_299) (by decide) rfl ?_
    refine g_aload X74 hx 304 (hb hby at_302) rfl rfl rfl ?_
    refine g_bipush X74 hx 306 (hb hby at_304) (7 : Int32) (by decide) rfl ?_
    refine g_iload X74 hx 308 (hb hby at_306) rfl rfl ?_
    refine g_aload X74 hx 310 (hb hby at_308) rfl rfl rfl ?_
    refine g_iload X74 hx 312 (hb hby at_310) rfl rfl ?_
    refine g_aload X74 hx 314 (hb hby at_312) rfl rfl rfl ?_
    refine g_callS X74 hx hZ 317 [(.ref r), (.int (7 : Int32)), (.int (q + (3 : Int32))), (.ref mo), (.int q), (.ref ex)] [] 0 hown (hw _ (List.mem_of_getElem? (i := 29) rfl)) (hw _ (List.mem_of_getElem? (i := 30) rfl)) (hw _ (List.mem_of_getElem? (i := 31) rfl)) (hw _ (List.mem_of_getElem? (i := 32) rfl)) (by decide) e74 (rm5 l Z a0 hw [] r (7 : Int32) (q + (3 : Int32)) mo q ex 7 (qN + 3) qN gm ge g_t4 T67.heap n0 M74 (by decide) hlen hq hq10 (by omega) F_r F_mo F_ex hG_fin) (by decide) (by decide) (by decide) (by decide) (by rw [hml]; rfl) rfl pd_6 rfl (Nat.le_of_eq rfl) (hb hby at_314) rfl ?_
    intro v75 T75 L75 X75 q75
    obtain ⟨rfl, Nq75, e75⟩ := q75
    have N75 := Fr.app N74 Nq75
    have M75 := M74
    refine g_ifF X75 hx 320 (hb hby at_317) (by decide) rfl ?_
    refine g_aload X75 hx 322 (hb hby at_320) rfl rfl rfl ?_
    refine g_bipush X75 hx 324 (hb hby at_322) (8 : Int32) (by decide) rfl ?_
    refine g_iload X75 hx 326 (hb hby at_324) rfl rfl ?_
    refine g_aload X75 hx 328 (hb hby at_326) rfl rfl rfl ?_
    refine g_iload X75 hx 330 (hb hby at_328) rfl rfl ?_
    refine g_aload X75 hx 332 (hb hby at_330) rfl rfl rfl ?_
    refine g_callS X75 hx hZ 335 [(.ref r), (.int (8 : Int32)), (.int (q + (3 : Int32))), (.ref mo), (.int q), (.ref ex)] [] 0 hown (hw _ (List.mem_of_getElem? (i := 29) rfl)) (hw _ (List.mem_of_getElem? (i := 30) rfl)) (hw _ (List.mem_of_getElem? (i := 31) rfl)) (hw _ (List.mem_of_getElem? (i := 32) rfl)) (by decide) e75 (rm5 l Z a0 hw [] r (8 : Int32) (q + (3 : Int32)) mo q ex 8 (qN + 3) qN gm ge g_t4 T67.heap n0 M75 (by decide) hlen hq hq10 (by omega) F_r F_mo F_ex hG_fin) (by decide) (by decide) (by decide) (by decide) (by rw [hml]; rfl) rfl pd_6 rfl (Nat.le_of_eq rfl) (hb hby at_332) rfl ?_
    intro v76 T76 L76 X76 q76
    obtain ⟨rfl, Nq76, e76⟩ := q76
    have N76 := Fr.app N75 Nq76
    have M76 := M75
    refine g_ifF X76 hx 338 (hb hby at_335) (by decide) rfl ?_
    refine g_aload X76 hx 340 (hb hby at_338) rfl rfl rfl ?_
    refine g_bipush X76 hx 342 (hb hby at_340) (9 : Int32) (by decide) rfl ?_
    refine g_iload X76 hx 344 (hb hby at_342) rfl rfl ?_
    refine g_aload X76 hx 346 (hb hby at_344) rfl rfl rfl ?_
    refine g_iload X76 hx 348 (hb hby at_346) rfl rfl ?_
    refine g_aload X76 hx 350 (hb hby at_348) rfl rfl rfl ?_
    refine g_callS X76 hx hZ 353 [(.ref r), (.int (9 : Int32)), (.int (q + (3 : Int32))), (.ref mo), (.int q), (.ref ex)] [] 0 hown (hw _ (List.mem_of_getElem? (i := 29) rfl)) (hw _ (List.mem_of_getElem? (i := 30) rfl)) (hw _ (List.mem_of_getElem? (i := 31) rfl)) (hw _ (List.mem_of_getElem? (i := 32) rfl)) (by decide) e76 (rm5 l Z a0 hw [] r (9 : Int32) (q + (3 : Int32)) mo q ex 9 (qN + 3) qN gm ge g_t4 T67.heap n0 M76 (by decide) hlen hq hq10 (by omega) F_r F_mo F_ex hG_fin) (by decide) (by decide) (by decide) (by decide) (by rw [hml]; rfl) rfl pd_6 rfl (Nat.le_of_eq rfl) (hb hby at_350) rfl ?_
    intro v77 T77 L77 X77 q77
    obtain ⟨rfl, Nq77, e77⟩ := q77
    have N77 := Fr.app N76 Nq77
    have M77 := M76
    refine g_ifF X77 hx 356 (hb hby at_353) (by decide) rfl ?_
    refine g_aload X77 hx 358 (hb hby at_356) rfl rfl rfl ?_
    refine g_bipush X77 hx 360 (hb hby at_358) (10 : Int32) (by decide) rfl ?_
    refine g_iload X77 hx 362 (hb hby at_360) rfl rfl ?_
    refine g_aload X77 hx 364 (hb hby at_362) rfl rfl rfl ?_
    refine g_iload X77 hx 366 (hb hby at_364) rfl rfl ?_
    refine g_aload X77 hx 368 (hb hby at_366) rfl rfl rfl ?_
    refine g_callS X77 hx hZ 371 [(.ref r), (.int (10 : Int32)), (.int (q + (3 : Int32))), (.ref mo), (.int q), (.ref ex)] [] 0 hown (hw _ (List.mem_of_getElem? (i := 29) rfl)) (hw _ (List.mem_of_getElem? (i := 30) rfl)) (hw _ (List.mem_of_getElem? (i := 31) rfl)) (hw _ (List.mem_of_getElem? (i := 32) rfl)) (by decide) e77 (rm5 l Z a0 hw [] r (10 : Int32) (q + (3 : Int32)) mo q ex 10 (qN + 3) qN gm ge g_t4 T67.heap n0 M77 (by decide) hlen hq hq10 (by omega) F_r F_mo F_ex hG_fin) (by decide) (by decide) (by decide) (by decide) (by rw [hml]; rfl) rfl pd_6 rfl (Nat.le_of_eq rfl) (hb hby at_368) rfl ?_
    intro v78 T78 L78 X78 q78
    obtain ⟨rfl, Nq78, e78⟩ := q78
    have N78 := Fr.app N77 Nq78
    have M78 := M77
    refine g_ifF X78 hx 374 (hb hby at_371) (by decide) rfl ?_
    refine g_aload X78 hx 376 (hb hby at_374) rfl rfl rfl ?_
    refine g_bipush X78 hx 378 (hb hby at_376) (11 : Int32) (by decide) rfl ?_
    refine g_iload X78 hx 380 (hb hby at_378) rfl rfl ?_
    refine g_aload X78 hx 382 (hb hby at_380) rfl rfl rfl ?_
    refine g_iload X78 hx 384 (hb hby at_382) rfl rfl ?_
    refine g_aload X78 hx 386 (hb hby at_384) rfl rfl rfl ?_
    refine g_callS X78 hx hZ 389 [(.ref r), (.int (11 : Int32)), (.int (q + (3 : Int32))), (.ref mo), (.int q), (.ref ex)] [] 0 hown (hw _ (List.mem_of_getElem? (i := 29) rfl)) (hw _ (List.mem_of_getElem? (i := 30) rfl)) (hw _ (List.mem_of_getElem? (i := 31) rfl)) (hw _ (List.mem_of_getElem? (i := 32) rfl)) (by decide) e78 (rm5 l Z a0 hw [] r (11 : Int32) (q + (3 : Int32)) mo q ex 11 (qN + 3) qN gm ge g_t4 T67.heap n0 M78 (by decide) hlen hq hq10 (by omega) F_r F_mo F_ex hG_fin) (by decide) (by decide) (by decide) (by decide) (by rw [hml]; rfl) rfl pd_6 rfl (Nat.le_of_eq rfl) (hb hby at_386) rfl ?_
    intro v79 T79 L79 X79 q79
    obtain ⟨rfl, Nq79, e79⟩ := q79
    have N79 := Fr.app N78 Nq79
    have M79 := M78
    refine g_ifF X79 hx 392 (hb hby at_389) (by decide) rfl ?_
    refine g_aload X79 hx 394 (hb hby at_392) rfl rfl rfl ?_
    refine g_bipush X79 hx 396 (hb hby at_394) (12 : Int32) (by decide) rfl ?_
    refine g_iload X79 hx 398 (hb hby at_396) rfl rfl ?_
    refine g_aload X79 hx 400 (hb hby at_398) rfl rfl rfl ?_
    refine g_iload X79 hx 402 (hb hby at_400) rfl rfl ?_
    refine g_aload X79 hx 404 (hb hby at_402) rfl rfl rfl ?_
    refine g_callS X79 hx hZ 407 [(.ref r), (.int (12 : Int32)), (.int (q + (3 : Int32))), (.ref mo), (.int q), (.ref ex)] [] 0 hown (hw _ (List.mem_of_getElem? (i := 29) rfl)) (hw _ (List.mem_of_getElem? (i := 30) rfl)) (hw _ (List.mem_of_getElem? (i := 31) rfl)) (hw _ (List.mem_of_getElem? (i := 32) rfl)) (by decide) e79 (rm5 l Z a0 hw [] r (12 : Int32) (q + (3 : Int32)) mo q ex 12 (qN + 3) qN gm ge g_t4 T67.heap n0 M79 (by decide) hlen hq hq10 (by omega) F_r F_mo F_ex hG_fin) (by decide) (by decide) (by decide) (by decide) (by rw [hml]; rfl) rfl pd_6 rfl (Nat.le_of_eq rfl) (hb hby at_404) rfl ?_
    intro v80 T80 L80 X80 q80
    obtain ⟨rfl, Nq80, e80⟩ := q80
    have N80 := Fr.app N79 Nq80
    have M80 := M79
    refine g_ifF X80 hx 410 (hb hby at_407) (by decide) rfl ?_
    refine g_iconst X80 hx 411 (hb hby at_410) (1 : Int32) (by decide) rfl ?_
    refine g_goto X80 hx 415 (hb hby at_411) (by decide) (by decide) ?_
    refine g_nret X80 hx (by simp) hret hlk (hb hby at_415) (by decide) (by decide) ?_
    exact ⟨rfl, N80⟩
set_option maxRecDepth 65536 in
set_option maxHeartbeats 40000000 in
theorem comes_1 {Post : Tables → Env → Array Value → State → Outcome → State → Prop} (hpost : ∀ tb e args s v u, (limb_1_1.after args s (.returned v) u = true ∧ limb_1_2.after args s (.returned v) u = true ∧ True) → FrameEnd s (.returned v) u (Jvm.fieldLocs frame_1_writes args s ++ Jvm.arrayLocs frame_1_arrays args s ++ Jvm.staticLocs frame_1_statics s) 24 192 → Post tb e args s (.returned v) u) :
    ArmFor flags0 classFile x code maxLocals ret World_1 tables_1 room_1 Calls_1 rest_1 Pre_1 Post := by
  intro l hfl _ _ p e ha hc hk s m args below hf hA hF happ hP
  obtain ⟨hcalls, hrest, hpre⟩ := hP
  obtain ⟨-, -, -, hnamed, -, -, -, hat⟩ := (Spec.applies_iff hf).mp happ
  obtain ⟨hg, hn⟩ := and_e (Cond.before_iff.mp (show (Jvm.Cond.and given_1 narrow_1).before args s = true from hpre))
  obtain ⟨hcount, hg0⟩ := and_e hg
  obtain ⟨ha0, hg1⟩ := and_e hg0
  obtain ⟨ha1, hg2⟩ := and_e hg1
  obtain ⟨ha2, hg3⟩ := and_e hg2
  obtain ⟨ha3, hg4⟩ := and_e hg3
  obtain ⟨ha4, hg5⟩ := and_e hg4
  obtain ⟨w0, w1, w2, w3, w4, w5, rfl⟩ : ∃ w0 w1 w2 w3 w4 w5 : Value, args = #[w0, w1, w2, w3, w4, w5] := by
    have hs : args.size = 6 := by simpa [Cond.value, given_1] using hcount
    obtain ⟨L⟩ := args
    match L, hs with
    | [w0, w1, w2, w3, w4, w5], _ => exact ⟨w0, w1, w2, w3, w4, w5, rfl⟩
  have hw := fun d (hd : d ∈ tables_1) => atoms_spec (ws := Jvm.Cond.code x code maxLocals ret :: tables_1) hat d (List.mem_cons_of_mem _ hd)
  obtain ⟨i0, ei0⟩ := is_v ha0
  obtain rfl : w0 = (.int i0) := Option.some.inj ei0
  obtain ⟨i1, ei1⟩ := is_v ha1
  obtain rfl : w1 = (.int i1) := Option.some.inj ei1
  obtain ⟨i2, ei2⟩ := is_v ha2
  obtain rfl : w2 = (.int i2) := Option.some.inj ei2
  obtain ⟨i3, ei3⟩ := is_v ha3
  obtain rfl : w3 = (.int i3) := Option.some.inj ei3
  obtain ⟨i4, ei4⟩ := is_v ha4
  obtain rfl : w4 = (.int i4) := Option.some.inj ei4
  obtain ⟨i5, ei5⟩ := is_v hg5
  obtain rfl : w5 = (.int i5) := Option.some.inj ei5
  obtain ⟨n, o, h1, h2, h3, _, L, rfl, ⟨rfl, N⟩, hq⟩ := rm0 l s _ hw tables_1 i0 i1 i2 i3 i4 i5 s.heap s.heap.size (Nat.le_refl _)  p e ha hc hk s m _ below hf ((Spec.applies_iff_loose hf).mp happ).1 ⟨rfl, State.Warmed39.refl s, rfl⟩ trivial
  refine ⟨n, _, h1, h2, h3, hpost _ _ _ _ _ _ ⟨Cond.after_iff.mpr rfl, Cond.after_iff.mpr (eq_i res_at (Term.int_eval (1)) rfl), trivial⟩ ⟨hq.1, hq.2.1, (hq.2.2.sift fun y hy => Or.inr (N y hy)).mono (by decide) (by decide)⟩⟩
theorem main_1_1 : Claimed_1_1 := comes_1 fun _ _ _ _ _ _ h hF => ⟨h.1, hF⟩
theorem main_1_2 : Claimed_1_2 := comes_1 fun _ _ _ _ _ _ h hF => ⟨h.2.1, hF⟩
end Jvm.Pilot.@@N@@
namespace Jvm.Pilot.@@N@@
open Jvm Jvm.ClassFile Sem Op Lib Jvm.Free Jvm.Stand Jvm.Pilot.@@N@@.Jvm.D
/-! MADE BY PROGRAM (witnessworld.py) out of the Statement's table words and the real class files: 12 classes; the members and pool entries that the words name. The judged class is class 1, her method 3. -/
namespace start1
open Jvm.ClassFile
def u (s : String) : CpInfo := .utf8 (stringToUtf16 s)
/-- a pool by its gaps: so many unusable entries, then the entry; so many at the end -/
def gap : Nat → List CpInfo → List CpInfo
  | 0, r => r
  | n + 1, r => .unusable :: gap n r
def poolList (es : List (Nat × CpInfo)) (last : Nat) : List CpInfo := es.foldr (fun e r => gap e.1 (e.2 :: r)) (gap last [])
def pool (es : List (Nat × CpInfo)) (last : Nat) : Array CpInfo := ⟨poolList es last⟩
def fileOf (pool : Array CpInfo) (this : Nat) (attrs : Array Attribute := #[]) (ms : Array MethodInfo := #[]) (fl : Nat := 33) (sup : Nat := 0) (ifs : Array Nat := #[]) (fds : Array FieldInfo := #[]) : ClassFile where
  minorVersion := 0
  majorVersion := 65
  constantPool := pool
  accessFlags := fl
  thisClass := this
  superClass := sup
  interfaces := ifs
  fields := fds
  methods := ms
  attributes := attrs
def plain (name : String) (sup : Option ClassId) : Class where
  name := name
  kind := .ordinary
  loader := none
  accessFlags := 33
  super := sup
  interfaces := #[]
  cf := none
  fields := #[]
  methods := #[]
  instanceTypes := #[]
  staticTypes := #[]
  resolved := #[]
  callSites := []
  init := .initialized
  statics := none
  mirror := none

def pool0 : Array CpInfo := pool [(5, u "<init>"), (0, u "()V"), (1, .class_ 10), (1, u "java/lang/Object")] 113

def k0c0 : Code := { maxStack := 0, maxLocals := 1, code := object_method_1_code, exceptionTable := #[], attributes := #[] }
def k0m0 : Method := { name := "<init>", desc := "()V", sig := { parameters := [], returnType := none }, accessFlags := 1, code := some k0c0 }
/-- java/lang/Object -/
def k0 : Class := { plain "java/lang/Object" none with
  accessFlags := 33
  interfaces := #[]
  cf := some (fileOf pool0 8 #[] #[{ accessFlags := 1, nameIndex := 5, descriptorIndex := 6, attributes := #[] }] 33 0 #[] #[])
  fields := #[]
  methods := #[k0m0]
  instanceTypes := #[]
  staticTypes := #[]
  resolved := Array.replicate 124 none
  statics := none }

def pool1 : Array CpInfo := pool [(2, .class_ 4), (0, .nameAndType 5 6), (0, u "java/lang/Object"), (0, u "<init>"), (0, u "()V"), (0, .methodref 8 9), (0, .class_ 10), (0, .nameAndType 11 12), (0, u "com/example/twigtrim/twigtrim/NodeBufferToReversedArrayPinLaw"), (0, u "expected"), (0, u "(I[II[I)I"), (0, .integer 2147483647), (0, .class_ 15), (0, u "com/example/twigtrim/twigtrim/NodeBuffer"), (0, .methodref 14 3), (0, .methodref 14 18), (0, .nameAndType 19 20), (0, u "addAll"), (0, u "([III)V"), (0, .methodref 14 22), (0, .nameAndType 23 24), (0, u "add"), (0, u "(I)V"), (0, .methodref 14 26), (0, .nameAndType 27 28), (0, u "toReversedArray"), (0, u "()[I"), (0, .methodref 8 30), (0, .nameAndType 31 32), (0, u "at"), (0, u "([III[II[I)Z"), (3, u "law"), (0, u "(IIIIII)Z")] 4

def k1m0 : Method := { name := "<init>", desc := "()V", sig := { parameters := [], returnType := none }, accessFlags := 1, code := none }
def k1c1 : Code := { maxStack := 3, maxLocals := 4, code := method_2_code, exceptionTable := #[], attributes := #[] }
def k1m1 : Method := { name := "expected", desc := "(I[II[I)I", sig := { parameters := [.int, (.array .int), .int, (.array .int)], returnType := some .int }, accessFlags := 10, code := some k1c1 }
def k1c2 : Code := { maxStack := 5, maxLocals := 6, code := method_3_code, exceptionTable := #[], attributes := #[] }
def k1m2 : Method := { name := "at", desc := "([III[II[I)Z", sig := { parameters := [(.array .int), .int, .int, (.array .int), .int, (.array .int)], returnType := some .boolean }, accessFlags := 10, code := some k1c2 }
def k1c3 : Code := { maxStack := 6, maxLocals := 13, code := code, exceptionTable := #[], attributes := #[] }
def k1m3 : Method := { name := "law", desc := "(IIIIII)Z", sig := { parameters := [.int, .int, .int, .int, .int, .int], returnType := some .boolean }, accessFlags := 9, code := some k1c3 }
/-- com/example/twigtrim/twigtrim/NodeBufferToReversedArrayPinLaw -/
def k1 : Class := { plain "com/example/twigtrim/twigtrim/NodeBufferToReversedArrayPinLaw" (some 0) with
  accessFlags := 49
  interfaces := #[]
  cf := some (fileOf pool1 8 #[] #[{ accessFlags := 1, nameIndex := 5, descriptorIndex := 6, attributes := #[] }, { accessFlags := 10, nameIndex := 11, descriptorIndex := 12, attributes := #[] }, { accessFlags := 10, nameIndex := 31, descriptorIndex := 32, attributes := #[] }, { accessFlags := 9, nameIndex := 36, descriptorIndex := 37, attributes := #[] }] 49 2 #[] #[])
  fields := #[]
  methods := #[k1m0, k1m1, k1m2, k1m3]
  instanceTypes := #[]
  staticTypes := #[]
  resolved := Array.replicate 42 none
  statics := none }

def pool2 : Array CpInfo := pool [(1, .methodref 2 3), (0, .class_ 4), (0, .nameAndType 5 6), (0, u "java/lang/Object"), (0, u "<init>"), (0, u "()V"), (0, .fieldref 8 9), (0, .class_ 10), (0, .nameAndType 11 12), (0, u "com/example/twigtrim/twigtrim/NodeBuffer"), (0, u "nodes"), (0, u "[I"), (0, .fieldref 8 14), (0, .nameAndType 15 16), (0, u "size"), (0, u "I"), (0, .methodref 18 19), (0, .class_ 20), (0, .nameAndType 21 22), (0, u "java/util/Arrays"), (0, u "copyOf"), (0, u "([II)[I"), (0, .methodref 24 25), (0, .class_ 26), (0, .nameAndType 27 28), (0, u "java/lang/Math"), (0, u "max"), (0, u "(II)I"), (0, .methodref 30 31), (0, .class_ 32), (0, .nameAndType 33 34), (0, u "java/lang/System"), (0, u "arraycopy"), (0, u "(Ljava/lang/Object;ILjava/lang/Object;II)V"), (2, u "add"), (0, u "(I)V"), (1, u "addAll"), (0, u "([III)V"), (3, u "()[I"), (0, u "toReversedArray")] 3

def k2c0 : Code := { maxStack := 2, maxLocals := 1, code := prog_31_method_1_code, exceptionTable := #[], attributes := #[] }
def k2m0 : Method := { name := "<init>", desc := "()V", sig := { parameters := [], returnType := none }, accessFlags := 0, code := some k2c0 }
def k2c1 : Code := { maxStack := 5, maxLocals := 2, code := prog_31_method_2_code, exceptionTable := #[], attributes := #[] }
def k2m1 : Method := { name := "add", desc := "(I)V", sig := { parameters := [.int], returnType := none }, accessFlags := 0, code := some k2c1 }
def k2c2 : Code := { maxStack := 5, maxLocals := 5, code := prog_31_method_3_code, exceptionTable := #[], attributes := #[] }
def k2m2 : Method := { name := "addAll", desc := "([III)V", sig := { parameters := [(.array .int), .int, .int], returnType := none }, accessFlags := 0, code := some k2c2 }
def k2c3 : Code := { maxStack := 5, maxLocals := 3, code := prog_31_method_6_code, exceptionTable := #[], attributes := #[] }
def k2m3 : Method := { name := "toReversedArray", desc := "()[I", sig := { parameters := [], returnType := some (.array .int) }, accessFlags := 0, code := some k2c3 }
/-- com/example/twigtrim/twigtrim/NodeBuffer -/
def k2 : Class := { plain "com/example/twigtrim/twigtrim/NodeBuffer" (some 0) with
  accessFlags := 48
  interfaces := #[]
  cf := some (fileOf pool2 8 #[] #[{ accessFlags := 0, nameIndex := 5, descriptorIndex := 6, attributes := #[] }, { accessFlags := 0, nameIndex := 37, descriptorIndex := 38, attributes := #[] }, { accessFlags := 0, nameIndex := 40, descriptorIndex := 41, attributes := #[] }, { accessFlags := 0, nameIndex := 46, descriptorIndex := 45, attributes := #[] }] 48 2 #[] #[{ accessFlags := 2, nameIndex := 11, descriptorIndex := 12, attributes := #[] }, { accessFlags := 2, nameIndex := 15, descriptorIndex := 16, attributes := #[] }])
  fields := #[{ name := "nodes", type := (.array .int), accessFlags := 2, slot := 0, constantValue := 0 }, { name := "size", type := .int, accessFlags := 2, slot := 1, constantValue := 0 }]
  methods := #[k2m0, k2m1, k2m2, k2m3]
  instanceTypes := #[(.array .int), .int]
  staticTypes := #[]
  resolved := Array.replicate 50 none
  statics := none }

def pool3 : Array CpInfo := pool [(2, .class_ 4), (1, u "java/lang/Object"), (0, u "<init>"), (0, u "()V"), (1, .class_ 10), (1, u "java/lang/System"), (0, u "allowSecurityManager"), (0, u "I"), (16, u "cons"), (0, u "Ljava/io/Console;"), (77, .class_ 110), (1, u "java/lang/System$CallersHolder"), (43, u "initialErrStream"), (0, u "Ljava/io/PrintStream;"), (19, u "security"), (0, u "Ljava/lang/SecurityManager;"), (31, .class_ 209), (0, u "java/lang/System$1"), (7, u "props"), (0, u "Ljava/util/Properties;"), (2, u "lineSeparator"), (0, u "Ljava/lang/String;"), (96, .class_ 321), (1, u "java/lang/System$LoggerFinder"), (5, .class_ 328), (0, u "java/lang/System$Logger"), (67, u "err"), (2, u "out"), (91, u "notSupportedJnuEncoding"), (15, u "in"), (17, u "initialIn"), (0, u "Ljava/io/InputStream;"), (35, u "bootLayer"), (0, u "Ljava/lang/ModuleLayer;"), (99, .class_ 664), (0, u "java/lang/System$2"), (9, u "NEVER"), (2, u "MAYBE"), (49, u "arraycopy"), (0, u "(Ljava/lang/Object;ILjava/lang/Object;II)V"), (72, .class_ 802), (0, u "java/lang/System$Logger$Level")] 31

def k3m0 : Method := { name := "<init>", desc := "()V", sig := { parameters := [], returnType := none }, accessFlags := 2, code := none }
def k3m1 : Method := { name := "arraycopy", desc := "(Ljava/lang/Object;ILjava/lang/Object;II)V", sig := { parameters := [(.object "java/lang/Object"), .int, (.object "java/lang/Object"), .int, .int], returnType := none }, accessFlags := 265, code := none }
/-- java/lang/System -/
def k3 : Class := { plain "java/lang/System" (some 0) with
  accessFlags := 49
  interfaces := #[]
  cf := some (fileOf pool3 8 #[.nestMembers #[319, 327, 801, 108, 663, 208]] #[{ accessFlags := 2, nameIndex := 5, descriptorIndex := 6, attributes := #[] }, { accessFlags := 265, nameIndex := 727, descriptorIndex := 728, attributes := #[] }] 49 2 #[] #[{ accessFlags := 25, nameIndex := 507, descriptorIndex := 526, attributes := #[] }, { accessFlags := 25, nameIndex := 399, descriptorIndex := 155, attributes := #[] }, { accessFlags := 25, nameIndex := 396, descriptorIndex := 155, attributes := #[] }, { accessFlags := 10, nameIndex := 525, descriptorIndex := 526, attributes := #[] }, { accessFlags := 26, nameIndex := 674, descriptorIndex := 12, attributes := #[] }, { accessFlags := 26, nameIndex := 677, descriptorIndex := 12, attributes := #[] }, { accessFlags := 10, nameIndex := 11, descriptorIndex := 12, attributes := #[] }, { accessFlags := 74, nameIndex := 175, descriptorIndex := 176, attributes := #[] }, { accessFlags := 10, nameIndex := 491, descriptorIndex := 222, attributes := #[] }, { accessFlags := 74, nameIndex := 29, descriptorIndex := 30, attributes := #[] }, { accessFlags := 74, nameIndex := 154, descriptorIndex := 155, attributes := #[] }, { accessFlags := 10, nameIndex := 217, descriptorIndex := 218, attributes := #[] }, { accessFlags := 10, nameIndex := 221, descriptorIndex := 222, attributes := #[] }, { accessFlags := 8, nameIndex := 562, descriptorIndex := 563, attributes := #[] }])
  fields := #[{ name := "in", type := (.object "java/io/InputStream"), accessFlags := 25, slot := 0, constantValue := 0 }, { name := "out", type := (.object "java/io/PrintStream"), accessFlags := 25, slot := 1, constantValue := 0 }, { name := "err", type := (.object "java/io/PrintStream"), accessFlags := 25, slot := 2, constantValue := 0 }, { name := "initialIn", type := (.object "java/io/InputStream"), accessFlags := 10, slot := 3, constantValue := 0 }, { name := "NEVER", type := .int, accessFlags := 26, slot := 4, constantValue := 0 }, { name := "MAYBE", type := .int, accessFlags := 26, slot := 5, constantValue := 0 }, { name := "allowSecurityManager", type := .int, accessFlags := 10, slot := 6, constantValue := 0 }, { name := "security", type := (.object "java/lang/SecurityManager"), accessFlags := 74, slot := 7, constantValue := 0 }, { name := "notSupportedJnuEncoding", type := (.object "java/lang/String"), accessFlags := 10, slot := 8, constantValue := 0 }, { name := "cons", type := (.object "java/io/Console"), accessFlags := 74, slot := 9, constantValue := 0 }, { name := "initialErrStream", type := (.object "java/io/PrintStream"), accessFlags := 74, slot := 10, constantValue := 0 }, { name := "props", type := (.object "java/util/Properties"), accessFlags := 10, slot := 11, constantValue := 0 }, { name := "lineSeparator", type := (.object "java/lang/String"), accessFlags := 10, slot := 12, constantValue := 0 }, { name := "bootLayer", type := (.object "java/lang/ModuleLayer"), accessFlags := 8, slot := 13, constantValue := 0 }]
  methods := #[k3m0, k3m1]
  instanceTypes := #[]
  staticTypes := #[(.object "java/io/InputStream"), (.object "java/io/PrintStream"), (.object "java/io/PrintStream"), (.object "java/io/InputStream"), .int, .int, .int, (.object "java/lang/SecurityManager"), (.object "java/lang/String"), (.object "java/io/Console"), (.object "java/io/PrintStream"), (.object "java/util/Properties"), (.object "java/lang/String"), (.object "java/lang/ModuleLayer")]
  resolved := Array.replicate 834 none
  statics := none }

def pool4 : Array CpInfo := pool [(2, .class_ 4), (1, u "java/lang/Object"), (0, u "<init>"), (0, u "()V"), (7, .class_ 16), (1, u "java/util/Arrays"), (57, .class_ 76), (1, u "java/util/Arrays$NaturalOrder"), (36, .class_ 115), (1, u "java/util/Arrays$LegacyMergeSort"), (1, u "Z"), (32, .methodref 151 152), (0, .class_ 153), (0, .nameAndType 154 155), (0, u "java/lang/System"), (0, u "arraycopy"), (0, u "(Ljava/lang/Object;ILjava/lang/Object;II)V"), (146, u "copyOf"), (1, .methodref 305 306), (0, .class_ 307), (0, .nameAndType 308 309), (0, u "java/lang/Math"), (0, u "min"), (0, u "(II)I"), (65, .class_ 376), (0, u "java/util/Arrays$ArrayList"), (68, u "$assertionsDisabled"), (269, u "MIN_ARRAY_SORT_GRAN"), (0, u "I"), (2, u "INSERTIONSORT_THRESHOLD"), (151, u "([II)[I"), (103, .class_ 976), (0, u "java/util/Arrays$ArrayItr")] 52

def k4m0 : Method := { name := "<init>", desc := "()V", sig := { parameters := [], returnType := none }, accessFlags := 2, code := none }
def k4c1 : Code := { maxStack := 6, maxLocals := 3, code := jdk_65_method_123_code, exceptionTable := #[], attributes := #[] }
def k4m1 : Method := { name := "copyOf", desc := "([II)[I", sig := { parameters := [(.array .int), .int], returnType := some (.array .int) }, accessFlags := 9, code := some k4c1 }
/-- java/util/Arrays -/
def k4 : Class := { plain "java/util/Arrays" (some 0) with
  accessFlags := 49
  interfaces := #[]
  cf := some (fileOf pool4 14 #[.nestMembers #[975, 375, 113, 74]] #[{ accessFlags := 2, nameIndex := 5, descriptorIndex := 6, attributes := #[] }, { accessFlags := 9, nameIndex := 302, descriptorIndex := 871, attributes := #[] }] 49 2 #[] #[{ accessFlags := 26, nameIndex := 715, descriptorIndex := 716, attributes := #[] }, { accessFlags := 26, nameIndex := 719, descriptorIndex := 716, attributes := #[] }, { accessFlags := 4120, nameIndex := 445, descriptorIndex := 117, attributes := #[] }])
  fields := #[{ name := "MIN_ARRAY_SORT_GRAN", type := .int, accessFlags := 26, slot := 0, constantValue := 0 }, { name := "INSERTIONSORT_THRESHOLD", type := .int, accessFlags := 26, slot := 1, constantValue := 0 }, { name := "$assertionsDisabled", type := .boolean, accessFlags := 4120, slot := 2, constantValue := 0 }]
  methods := #[k4m0, k4m1]
  instanceTypes := #[]
  staticTypes := #[.int, .int, .boolean]
  resolved := Array.replicate 1029 none
  statics := none }

def pool5 : Array CpInfo := pool [(1, .class_ 2), (0, u "java/lang/Math"), (1, .class_ 6), (1, u "java/lang/Object"), (0, u "<init>"), (0, u "()V"), (89, .class_ 100), (1, u "java/lang/Math$RandomNumberGeneratorHolder"), (71, u "negativeZeroFloatBits"), (0, u "J"), (2, u "negativeZeroDoubleBits"), (21, u "max"), (2, u "min"), (43, u "$assertionsDisabled"), (0, u "Z"), (88, u "(II)I"), (2, u "twoToTheDoubleScaleDown"), (0, u "D"), (4, u "twoToTheDoubleScaleUp"), (9, u "E"), (3, u "PI"), (2, u "TAU"), (2, u "DEGREES_TO_RADIANS"), (0, u "RADIANS_TO_DEGREES")] 94

def k5m0 : Method := { name := "<init>", desc := "()V", sig := { parameters := [], returnType := none }, accessFlags := 2, code := none }
def k5c1 : Code := { maxStack := 2, maxLocals := 2, code := jdk_29_method_65_code, exceptionTable := #[], attributes := #[] }
def k5m1 : Method := { name := "max", desc := "(II)I", sig := { parameters := [.int, .int], returnType := some .int }, accessFlags := 9, code := some k5c1 }
def k5c2 : Code := { maxStack := 2, maxLocals := 2, code := jdk_29_method_69_code, exceptionTable := #[], attributes := #[] }
def k5m2 : Method := { name := "min", desc := "(II)I", sig := { parameters := [.int, .int], returnType := some .int }, accessFlags := 9, code := some k5c2 }
/-- java/lang/Math -/
def k5 : Class := { plain "java/lang/Math" (some 0) with
  accessFlags := 49
  interfaces := #[]
  cf := some (fileOf pool5 1 #[.nestMembers #[98]] #[{ accessFlags := 2, nameIndex := 7, descriptorIndex := 8, attributes := #[] }, { accessFlags := 9, nameIndex := 198, descriptorIndex := 335, attributes := #[] }, { accessFlags := 9, nameIndex := 201, descriptorIndex := 335, attributes := #[] }] 49 4 #[] #[{ accessFlags := 25, nameIndex := 354, descriptorIndex := 339, attributes := #[] }, { accessFlags := 25, nameIndex := 358, descriptorIndex := 339, attributes := #[] }, { accessFlags := 25, nameIndex := 361, descriptorIndex := 339, attributes := #[] }, { accessFlags := 26, nameIndex := 364, descriptorIndex := 339, attributes := #[] }, { accessFlags := 26, nameIndex := 365, descriptorIndex := 339, attributes := #[] }, { accessFlags := 26, nameIndex := 172, descriptorIndex := 173, attributes := #[] }, { accessFlags := 26, nameIndex := 176, descriptorIndex := 173, attributes := #[] }, { accessFlags := 8, nameIndex := 344, descriptorIndex := 339, attributes := #[] }, { accessFlags := 8, nameIndex := 338, descriptorIndex := 339, attributes := #[] }, { accessFlags := 4120, nameIndex := 245, descriptorIndex := 246, attributes := #[] }])
  fields := #[{ name := "E", type := .double, accessFlags := 25, slot := 0, constantValue := 0 }, { name := "PI", type := .double, accessFlags := 25, slot := 1, constantValue := 0 }, { name := "TAU", type := .double, accessFlags := 25, slot := 2, constantValue := 0 }, { name := "DEGREES_TO_RADIANS", type := .double, accessFlags := 26, slot := 3, constantValue := 0 }, { name := "RADIANS_TO_DEGREES", type := .double, accessFlags := 26, slot := 4, constantValue := 0 }, { name := "negativeZeroFloatBits", type := .long, accessFlags := 26, slot := 5, constantValue := 0 }, { name := "negativeZeroDoubleBits", type := .long, accessFlags := 26, slot := 6, constantValue := 0 }, { name := "twoToTheDoubleScaleUp", type := .double, accessFlags := 8, slot := 7, constantValue := 0 }, { name := "twoToTheDoubleScaleDown", type := .double, accessFlags := 8, slot := 8, constantValue := 0 }, { name := "$assertionsDisabled", type := .boolean, accessFlags := 4120, slot := 9, constantValue := 0 }]
  methods := #[k5m0, k5m1, k5m2]
  instanceTypes := #[]
  staticTypes := #[.double, .double, .double, .double, .double, .long, .long, .double, .double, .boolean]
  resolved := Array.replicate 460 none
  statics := none }

def pool6 : Array CpInfo := pool [(1, u "java/lang/Cloneable"), (0, .class_ 1), (0, u "java/lang/Object"), (0, .class_ 3)] 3

/-- java/lang/Cloneable -/
def k6 : Class := { plain "java/lang/Cloneable" (some 0) with
  accessFlags := 1537
  interfaces := #[]
  cf := some (fileOf pool6 2 #[] #[] 1537 4 #[] #[])
  fields := #[]
  methods := #[]
  instanceTypes := #[]
  staticTypes := #[]
  resolved := Array.replicate 8 none
  statics := none }

def pool7 : Array CpInfo := pool [(1, u "java/io/Serializable"), (0, .class_ 1), (0, u "java/lang/Object"), (0, .class_ 3)] 3

/-- java/io/Serializable -/
def k7 : Class := { plain "java/io/Serializable" (some 0) with
  accessFlags := 1537
  interfaces := #[]
  cf := some (fileOf pool7 2 #[] #[] 1537 4 #[] #[])
  fields := #[]
  methods := #[]
  instanceTypes := #[]
  staticTypes := #[]
  resolved := Array.replicate 8 none
  statics := none }

/-- the primitive byte -/
def k8 : Class := { plain "byte" none with kind := .primitive 'B', accessFlags := 0x411 }
/-- [B -/
def k9 : Class := { plain "[B" (some 0) with kind := .array 8 .byte, interfaces := #[6, 7], accessFlags := 1041 }

/-- the primitive int -/
def k10 : Class := { plain "int" none with kind := .primitive 'I', accessFlags := 0x411 }
/-- [I -/
def k11 : Class := { plain "[I" (some 0) with kind := .array 10 .int, interfaces := #[6, 7], accessFlags := 1041 }

def heap : Heap := #[]
def classes : Array Class := #[k0, k1, k2, k3, k4, k5, k6, k7, k8, k9, k10, k11]
def interned : List (Array UInt16 × Addr) := []
def slotsUsed : Nat := 0
def theMethod : MethodId := ⟨1, 3⟩
def args0 : Array Value := #[.int 5, .int 7, .int 3, .int 4, .int 6, .int 9]
def aboutOver (below : List Frame) : State where
  vm := { classes := classes, interned := interned.toArray }
  heap := heap
  slotsUsed := slotsUsed
  threads := #[{ frames := .invoking theMethod args0 :: below }]
def below0 : List Frame := [.native { method := ⟨0, 0⟩, args := #[] }]
def about1 : State := aboutOver below0
def p0 : Program := .bare "" "" ""
def e0 : Env := launch0.env 0 0 0
theorem w_frames : about1.frames = Frame.invoking theMethod args0 :: below0 := rfl
set_option maxRecDepth 65536 in
theorem w_args : argsFit about1.vm theMethod args0 = true := by decide +kernel
set_option maxRecDepth 65536 in
theorem w_heap : heapFits about1 = true := by decide +kernel
set_option maxRecDepth 65536 in
theorem w_runnable : about1.curStatus? = some .runnable := by decide +kernel
set_option maxRecDepth 65536 in
theorem w_alone : about1.alone = true := by decide +kernel
set_option maxRecDepth 65536 in
theorem w_named : about1.methodNamed? x = some theMethod := by decide +kernel
set_option maxRecDepth 65536 in
theorem w_hears : about1.hears theMethod below0 = true := by decide +kernel
set_option maxRecDepth 65536 in
theorem w_ripe : about1.ripe theMethod args0 below0 = true := by decide +kernel
theorem w_running : about1.status = .running := rfl
set_option maxRecDepth 65536 in
theorem w_room : about1.hasRoom e0.platform room_1 = true :=
  launch0.hasRoom_least _ room_1 (by decide +kernel) (by decide +kernel) (by decide +kernel) (by decide +kernel) (by decide +kernel) (by decide +kernel)
theorem allAtoms_all (ts : List Jvm.Cond) (a : Array Jvm.Value) (st : Jvm.State) : (allAtoms ts).before a st = ts.all (fun c => c.before a st) := by
  induction ts with
  | nil => rfl
  | cons c t ih =>
    show (Jvm.Cond.and c (allAtoms t)).before a st = _
    rw [Jvm.Cond.before_and, ih, List.all_cons]
def words1 : List Jvm.Cond := Jvm.Cond.code x code maxLocals ret :: tables_1
/-- a 'code' word, met by the world's own term for the bytes: nothing is compared byte by byte -/
theorem code_word {y : MethodName} {bytes : ByteArray} {mx : Nat} {rt : Option FieldType} {a : Array Value} {s : State} {m : MethodId} {meth : Method} {c : Code} (h1 : s.methodNamed? y = some m) (h2 : s.vm.method? m = some meth) (h3 : meth.code = some c) (h4 : c.code = bytes)
    (h5 : (c.maxLocals == mx && c.exceptionTable.isEmpty && decide (c.maxStack ≤ mostOperands) && decide (meth.sig.returnType = rt) && !meth.locks && decide (parseMethodDescriptor y.desc = some meth.sig)) = true) : (Jvm.Cond.code y bytes mx rt).before a s = true := by
  simp only [Bool.and_eq_true, beq_iff_eq, Bool.not_eq_true', decide_eq_true_eq] at h5
  obtain ⟨⟨⟨⟨⟨g1, g2⟩, g3⟩, g4⟩, g5⟩, g6⟩ := h5
  simp [Cond.before, Cond.holds, Cond.value, h1, h2, h3, h4, g1, g2, g3, g4, g5, g6]
def isCode : Jvm.Cond → Bool
  | .code _ _ _ _ => true
  | _ => false
theorem all_split {L : List Jvm.Cond} {P : Jvm.Cond → Bool} (h1 : L.all (fun c => isCode c || P c) = true) (h2 : ∀ c ∈ L.filter isCode, P c = true) : L.all P = true := by
  refine List.all_eq_true.mpr fun c hc => ?_
  have h := List.all_eq_true.mp h1 c hc
  rcases Bool.eq_false_or_eq_true (isCode c) with hi | hi
  · exact h2 c (List.mem_filter.mpr ⟨hc, hi⟩)
  · simpa [hi] using h
set_option maxRecDepth 65536 in
theorem w_c0 : (Jvm.Cond.code x code maxLocals ret).before args0 about1 = true := code_word (m := ⟨1, 3⟩) (meth := k1m3) (c := k1c3) (by decide +kernel) rfl rfl rfl (by decide +kernel)
set_option maxRecDepth 65536 in
theorem w_c1 : (Jvm.Cond.code ({ cls := "com/example/twigtrim/twigtrim/NodeBuffer", name := "<init>", desc := "()V" } : Jvm.MethodName) prog_31_method_1_code (1 : Nat) (Option.none : Option Jvm.ClassFile.FieldType)).before args0 about1 = true := code_word (m := ⟨2, 0⟩) (meth := k2m0) (c := k2c0) (by decide +kernel) rfl rfl rfl (by decide +kernel)
set_option maxRecDepth 65536 in
theorem w_c2 : (Jvm.Cond.code ({ cls := "java/lang/Object", name := "<init>", desc := "()V" } : Jvm.MethodName) object_method_1_code (1 : Nat) (Option.none : Option Jvm.ClassFile.FieldType)).before args0 about1 = true := code_word (m := ⟨0, 0⟩) (meth := k0m0) (c := k0c0) (by decide +kernel) rfl rfl rfl (by decide +kernel)
set_option maxRecDepth 65536 in
theorem w_c3 : (Jvm.Cond.code ({ cls := "com/example/twigtrim/twigtrim/NodeBuffer", name := "addAll", desc := "([III)V" } : Jvm.MethodName) prog_31_method_3_code (5 : Nat) (Option.none : Option Jvm.ClassFile.FieldType)).before args0 about1 = true := code_word (m := ⟨2, 2⟩) (meth := k2m2) (c := k2c2) (by decide +kernel) rfl rfl rfl (by decide +kernel)
set_option maxRecDepth 65536 in
theorem w_c4 : (Jvm.Cond.code ({ cls := "com/example/twigtrim/twigtrim/NodeBuffer", name := "toReversedArray", desc := "()[I" } : Jvm.MethodName) prog_31_method_6_code (3 : Nat) (Option.some (Jvm.ClassFile.FieldType.array Jvm.ClassFile.FieldType.int))).before args0 about1 = true := code_word (m := ⟨2, 3⟩) (meth := k2m3) (c := k2c3) (by decide +kernel) rfl rfl rfl (by decide +kernel)
set_option maxRecDepth 65536 in
theorem w_c5 : (Jvm.Cond.code ({ cls := "com/example/twigtrim/twigtrim/NodeBufferToReversedArrayPinLaw", name := "at", desc := "([III[II[I)Z" } : Jvm.MethodName) method_3_code (6 : Nat) (Option.some Jvm.ClassFile.FieldType.boolean)).before args0 about1 = true := code_word (m := ⟨1, 2⟩) (meth := k1m2) (c := k1c2) (by decide +kernel) rfl rfl rfl (by decide +kernel)
set_option maxRecDepth 65536 in
theorem w_c6 : (Jvm.Cond.code ({ cls := "com/example/twigtrim/twigtrim/NodeBufferToReversedArrayPinLaw", name := "expected", desc := "(I[II[I)I" } : Jvm.MethodName) method_2_code (4 : Nat) (Option.some Jvm.ClassFile.FieldType.int)).before args0 about1 = true := code_word (m := ⟨1, 1⟩) (meth := k1m1) (c := k1c1) (by decide +kernel) rfl rfl rfl (by decide +kernel)
set_option maxRecDepth 65536 in
theorem w_c7 : (Jvm.Cond.code ({ cls := "com/example/twigtrim/twigtrim/NodeBuffer", name := "add", desc := "(I)V" } : Jvm.MethodName) prog_31_method_2_code (2 : Nat) (Option.none : Option Jvm.ClassFile.FieldType)).before args0 about1 = true := code_word (m := ⟨2, 1⟩) (meth := k2m1) (c := k2c1) (by decide +kernel) rfl rfl rfl (by decide +kernel)
set_option maxRecDepth 65536 in
theorem w_c8 : (Jvm.Cond.code ({ cls := "java/util/Arrays", name := "copyOf", desc := "([II)[I" } : Jvm.MethodName) jdk_65_method_123_code (3 : Nat) (Option.some (Jvm.ClassFile.FieldType.array Jvm.ClassFile.FieldType.int))).before args0 about1 = true := code_word (m := ⟨4, 1⟩) (meth := k4m1) (c := k4c1) (by decide +kernel) rfl rfl rfl (by decide +kernel)
set_option maxRecDepth 65536 in
theorem w_c9 : (Jvm.Cond.code ({ cls := "java/lang/Math", name := "min", desc := "(II)I" } : Jvm.MethodName) jdk_29_method_69_code (2 : Nat) (Option.some Jvm.ClassFile.FieldType.int)).before args0 about1 = true := code_word (m := ⟨5, 2⟩) (meth := k5m2) (c := k5c2) (by decide +kernel) rfl rfl rfl (by decide +kernel)
set_option maxRecDepth 65536 in
theorem w_c10 : (Jvm.Cond.code ({ cls := "java/lang/Math", name := "max", desc := "(II)I" } : Jvm.MethodName) jdk_29_method_65_code (2 : Nat) (Option.some Jvm.ClassFile.FieldType.int)).before args0 about1 = true := code_word (m := ⟨5, 1⟩) (meth := k5m1) (c := k5c1) (by decide +kernel) rfl rfl rfl (by decide +kernel)
def codes1 : List Jvm.Cond := [Jvm.Cond.code x code maxLocals ret, Jvm.Cond.code ({ cls := "com/example/twigtrim/twigtrim/NodeBuffer", name := "<init>", desc := "()V" } : Jvm.MethodName) prog_31_method_1_code (1 : Nat) (Option.none : Option Jvm.ClassFile.FieldType), Jvm.Cond.code ({ cls := "java/lang/Object", name := "<init>", desc := "()V" } : Jvm.MethodName) object_method_1_code (1 : Nat) (Option.none : Option Jvm.ClassFile.FieldType), Jvm.Cond.code ({ cls := "com/example/twigtrim/twigtrim/NodeBuffer", name := "addAll", desc := "([III)V" } : Jvm.MethodName) prog_31_method_3_code (5 : Nat) (Option.none : Option Jvm.ClassFile.FieldType), Jvm.Cond.code ({ cls := "com/example/twigtrim/twigtrim/NodeBuffer", name := "toReversedArray", desc := "()[I" } : Jvm.MethodName) prog_31_method_6_code (3 : Nat) (Option.some (Jvm.ClassFile.FieldType.array Jvm.ClassFile.FieldType.int)), Jvm.Cond.code ({ cls := "com/example/twigtrim/twigtrim/NodeBufferToReversedArrayPinLaw", name := "at", desc := "([III[II[I)Z" } : Jvm.MethodName) method_3_code (6 : Nat) (Option.some Jvm.ClassFile.FieldType.boolean), Jvm.Cond.code ({ cls := "com/example/twigtrim/twigtrim/NodeBufferToReversedArrayPinLaw", name := "expected", desc := "(I[II[I)I" } : Jvm.MethodName) method_2_code (4 : Nat) (Option.some Jvm.ClassFile.FieldType.int), Jvm.Cond.code ({ cls := "com/example/twigtrim/twigtrim/NodeBuffer", name := "add", desc := "(I)V" } : Jvm.MethodName) prog_31_method_2_code (2 : Nat) (Option.none : Option Jvm.ClassFile.FieldType), Jvm.Cond.code ({ cls := "java/util/Arrays", name := "copyOf", desc := "([II)[I" } : Jvm.MethodName) jdk_65_method_123_code (3 : Nat) (Option.some (Jvm.ClassFile.FieldType.array Jvm.ClassFile.FieldType.int)), Jvm.Cond.code ({ cls := "java/lang/Math", name := "min", desc := "(II)I" } : Jvm.MethodName) jdk_29_method_69_code (2 : Nat) (Option.some Jvm.ClassFile.FieldType.int), Jvm.Cond.code ({ cls := "java/lang/Math", name := "max", desc := "(II)I" } : Jvm.MethodName) jdk_29_method_65_code (2 : Nat) (Option.some Jvm.ClassFile.FieldType.int)]
set_option maxRecDepth 65536 in
theorem codes_eq : words1.filter isCode = codes1 := rfl
theorem w_codes : ∀ c ∈ words1.filter isCode, c.before args0 about1 = true := by
  rw [codes_eq]
  intro c hc
  simp only [codes1, List.mem_cons, List.not_mem_nil, or_false] at hc
  rcases hc with rfl | rfl | rfl | rfl | rfl | rfl | rfl | rfl | rfl | rfl | rfl
  · exact w_c0
  · exact w_c1
  · exact w_c2
  · exact w_c3
  · exact w_c4
  · exact w_c5
  · exact w_c6
  · exact w_c7
  · exact w_c8
  · exact w_c9
  · exact w_c10
set_option maxRecDepth 65536 in
theorem w_t1 : (words1.take 24).all (fun c => isCode c || c.before args0 about1) = true := by decide +kernel
set_option maxRecDepth 65536 in
theorem w_t2 : ((words1.drop 24).take 24).all (fun c => isCode c || c.before args0 about1) = true := by decide +kernel
set_option maxRecDepth 65536 in
theorem w_t3 : ((words1.drop 24).drop 24).all (fun c => isCode c || c.before args0 about1) = true := by decide +kernel
theorem w_tables : (allAtoms (Jvm.Cond.code x code maxLocals ret :: tables_1)).before args0 about1 = true := by
  rw [allAtoms_all]
  show words1.all (fun c => c.before args0 about1) = true
  refine all_split ?_ w_codes
  rw [← List.take_append_drop 24 words1, List.all_append, w_t1, ← List.take_append_drop 24 (words1.drop 24), List.all_append, w_t2, w_t3]
  rfl
set_option maxRecDepth 65536 in
theorem w_case : (Jvm.Cond.and given_1 narrow_1).before args0 about1 = true := by decide +kernel
theorem w_applies : (headSpec (Jvm.Cond.code x code maxLocals ret :: tables_1) room_1).applies x e0.platform about1 = true :=
  (Spec.applies_iff w_frames).mpr ⟨w_running, w_runnable, w_alone, w_named, w_hears, w_ripe, w_room, w_tables⟩
theorem atStart : AtStart classFile x code maxLocals ret World_1 tables_1 room_1 Calls_1 rest_1 Pre_1 launch0 p0 e0 about1 theMethod args0 below0 :=
  ⟨lists_1, trivial, launch0.admits_env _ _ _, launch0.least_env, fairChoices_fair.cas, fairChoices_fair.clock, w_frames, w_args, w_heap, w_applies, trivial, trivial, w_case⟩
end start1
theorem witness_1 : WitnessClaimed_1 := ⟨start1.p0, start1.e0, start1.about1, start1.theMethod, start1.args0, start1.below0, start1.atStart⟩
end Jvm.Pilot.@@N@@
