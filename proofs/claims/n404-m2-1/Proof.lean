import JvmDerived
import JvmDerived.Pilot.@@N@@Statement
import JvmDerived.Pilot.@@N@@Code
set_option linter.unusedVariables false
set_option linter.unusedSimpArgs false
namespace Jvm.Pilot.@@N@@
open Jvm Jvm.ClassFile Sem Op Lib Jvm.Free Jvm.Stand Jvm.LawKit Jvm.RoadKit Bundle Jvm.Pilot.@@N@@.Jvm.D
section OwnWalk
/-- what a walk still owes from where it stands -/
def Go (p : Program) (e : Env) (below : List Frame) (Q : Outcome → State → Prop) (T : State) (g : JFrame) : Prop :=
  ∃ s₂ o, Steps p.tables e below (T.setTop g) s₂ ∧ s₂.status = .running ∧ Ended s₂ below o ∧ Q o s₂
/-- what a body owes at its end -/
def Qend (s : State) (Qf : Option Value → Heap → List Loc → Prop) (kc ks : Nat) (o : Outcome) (U : State) : Prop :=
  ∃ v L, o = .returned v ∧ Qf v U.heap L ∧ FrameEnd s o U L kc ks
variable {p : Program} {l : Launch} {e : Env} {R : Room} {s : State} {m : MethodId} {args : Array Value} {below : List Frame} {meth : Method} {c : Code} {T : State} {locs : List Loc} {cells slots : Nat} {Q : Outcome → State → Prop} {pc : Nat} {Ls : Array Slot} {rest : List Value}
theorem Go.step {T' : State} {g g' : JFrame} (k : ∀ t, Steps p.tables e below (T'.setTop g') t → Steps p.tables e below (T.setTop g) t) (h : Go p e below Q T' g') : Go p e below Q T g := by
  obtain ⟨t, o, h1, h2⟩ := h
  exact ⟨t, o, k t h1, h2⟩
theorem Go.cast {g g' : JFrame} (q : g = g') (h : Go p e below Q T g') : Go p e below Q T g := q ▸ h
theorem g_iadd (X : Stand p l e R s m args below meth c T locs cells slots) (hx : p.tables.exec = Jvm.exec) {x y : Int32} (pc' : Nat) (hd : decode c.code pc = .ok (.iadd, 1))  (hp : pc + 1 = pc')
    (k : Go p e below Q T (mkF m pc' Ls (.int (x + y) :: rest))) : Go p e below Q T (mkF m pc Ls (.int y :: .int x :: rest)) := by
  subst hp; exact Go.step (fun t k => XS.iadd X.here hx rfl hd rfl k) k
theorem g_isub (X : Stand p l e R s m args below meth c T locs cells slots) (hx : p.tables.exec = Jvm.exec) {x y : Int32} (pc' : Nat) (hd : decode c.code pc = .ok (.isub, 1))  (hp : pc + 1 = pc')
    (k : Go p e below Q T (mkF m pc' Ls (.int (x - y) :: rest))) : Go p e below Q T (mkF m pc Ls (.int y :: .int x :: rest)) := by
  subst hp; exact Go.step (fun t k => XS.isub X.here hx rfl hd rfl k) k
theorem g_imul (X : Stand p l e R s m args below meth c T locs cells slots) (hx : p.tables.exec = Jvm.exec) {x y : Int32} (pc' : Nat) (hd : decode c.code pc = .ok (.imul, 1))  (hp : pc + 1 = pc')
    (k : Go p e below Q T (mkF m pc' Ls (.int (x * y) :: rest))) : Go p e below Q T (mkF m pc Ls (.int y :: .int x :: rest)) := by
  subst hp; exact Go.step (fun t k => XS.imul X.here hx rfl hd rfl k) k
theorem g_iand (X : Stand p l e R s m args below meth c T locs cells slots) (hx : p.tables.exec = Jvm.exec) {x y : Int32} (pc' : Nat) (hd : decode c.code pc = .ok (.iand, 1))  (hp : pc + 1 = pc')
    (k : Go p e below Q T (mkF m pc' Ls (.int (x &&& y) :: rest))) : Go p e below Q T (mkF m pc Ls (.int y :: .int x :: rest)) := by
  subst hp; exact Go.step (fun t k => XS.iand X.here hx rfl hd rfl k) k
theorem g_ior (X : Stand p l e R s m args below meth c T locs cells slots) (hx : p.tables.exec = Jvm.exec) {x y : Int32} (pc' : Nat) (hd : decode c.code pc = .ok (.ior, 1))  (hp : pc + 1 = pc')
    (k : Go p e below Q T (mkF m pc' Ls (.int (x ||| y) :: rest))) : Go p e below Q T (mkF m pc Ls (.int y :: .int x :: rest)) := by
  subst hp; exact Go.step (fun t k => XS.ior X.here hx rfl hd rfl k) k
theorem g_ixor (X : Stand p l e R s m args below meth c T locs cells slots) (hx : p.tables.exec = Jvm.exec) {x y : Int32} (pc' : Nat) (hd : decode c.code pc = .ok (.ixor, 1))  (hp : pc + 1 = pc')
    (k : Go p e below Q T (mkF m pc' Ls (.int (x ^^^ y) :: rest))) : Go p e below Q T (mkF m pc Ls (.int y :: .int x :: rest)) := by
  subst hp; exact Go.step (fun t k => XS.ixor X.here hx rfl hd rfl k) k
theorem g_ishl (X : Stand p l e R s m args below meth c T locs cells slots) (hx : p.tables.exec = Jvm.exec) {x y : Int32} (pc' : Nat) (hd : decode c.code pc = .ok (.ishl, 1))  (hp : pc + 1 = pc')
    (k : Go p e below Q T (mkF m pc' Ls (.int (x <<< (y &&& 31)) :: rest))) : Go p e below Q T (mkF m pc Ls (.int y :: .int x :: rest)) := by
  subst hp; exact Go.step (fun t k => XS.ishl X.here hx rfl hd rfl k) k
theorem g_ishr (X : Stand p l e R s m args below meth c T locs cells slots) (hx : p.tables.exec = Jvm.exec) {x y : Int32} (pc' : Nat) (hd : decode c.code pc = .ok (.ishr, 1))  (hp : pc + 1 = pc')
    (k : Go p e below Q T (mkF m pc' Ls (.int (x >>> (y &&& 31)) :: rest))) : Go p e below Q T (mkF m pc Ls (.int y :: .int x :: rest)) := by
  subst hp; exact Go.step (fun t k => XS.ishr X.here hx rfl hd rfl k) k
theorem g_iushr (X : Stand p l e R s m args below meth c T locs cells slots) (hx : p.tables.exec = Jvm.exec) {x y : Int32} (pc' : Nat) (hd : decode c.code pc = .ok (.iushr, 1))  (hp : pc + 1 = pc')
    (k : Go p e below Q T (mkF m pc' Ls (.int ((x.toUInt32 >>> (y &&& 31).toUInt32).toInt32) :: rest))) : Go p e below Q T (mkF m pc Ls (.int y :: .int x :: rest)) := by
  subst hp; exact Go.step (fun t k => XS.iushr X.here hx rfl hd rfl k) k
theorem g_irem (X : Stand p l e R s m args below meth c T locs cells slots) (hx : p.tables.exec = Jvm.exec) {x y : Int32} (pc' : Nat) (hd : decode c.code pc = .ok (.irem, 1)) (hy : y ≠ 0) (hp : pc + 1 = pc')
    (k : Go p e below Q T (mkF m pc' Ls (.int (x % y) :: rest))) : Go p e below Q T (mkF m pc Ls (.int y :: .int x :: rest)) := by
  subst hp; exact Go.step (fun t k => iremM X hx rfl hd rfl hy k) k
theorem g_idiv (X : Stand p l e R s m args below meth c T locs cells slots) (hx : p.tables.exec = Jvm.exec) {x y : Int32} (pc' : Nat) (hd : decode c.code pc = .ok (.idiv, 1)) (hy : y ≠ 0) (hp : pc + 1 = pc')
    (k : Go p e below Q T (mkF m pc' Ls (.int (x / y) :: rest))) : Go p e below Q T (mkF m pc Ls (.int y :: .int x :: rest)) := by
  subst hp; exact Go.step (fun t k => XS.idiv X.here hx rfl hd rfl hy k) k
theorem g_ladd (X : Stand p l e R s m args below meth c T locs cells slots) (hx : p.tables.exec = Jvm.exec) {x y : Int64} (pc' : Nat) (hd : decode c.code pc = .ok (.ladd, 1))  (hp : pc + 1 = pc')
    (k : Go p e below Q T (mkF m pc' Ls (.long (x + y) :: rest))) : Go p e below Q T (mkF m pc Ls (.long y :: .long x :: rest)) := by
  subst hp; exact Go.step (fun t k => XS.ladd X.here hx rfl hd rfl k) k
theorem g_lsub (X : Stand p l e R s m args below meth c T locs cells slots) (hx : p.tables.exec = Jvm.exec) {x y : Int64} (pc' : Nat) (hd : decode c.code pc = .ok (.lsub, 1))  (hp : pc + 1 = pc')
    (k : Go p e below Q T (mkF m pc' Ls (.long (x - y) :: rest))) : Go p e below Q T (mkF m pc Ls (.long y :: .long x :: rest)) := by
  subst hp; exact Go.step (fun t k => XS.lsub X.here hx rfl hd rfl k) k
theorem g_lmul (X : Stand p l e R s m args below meth c T locs cells slots) (hx : p.tables.exec = Jvm.exec) {x y : Int64} (pc' : Nat) (hd : decode c.code pc = .ok (.lmul, 1))  (hp : pc + 1 = pc')
    (k : Go p e below Q T (mkF m pc' Ls (.long (x * y) :: rest))) : Go p e below Q T (mkF m pc Ls (.long y :: .long x :: rest)) := by
  subst hp; exact Go.step (fun t k => XS.lmul X.here hx rfl hd rfl k) k
theorem g_land (X : Stand p l e R s m args below meth c T locs cells slots) (hx : p.tables.exec = Jvm.exec) {x y : Int64} (pc' : Nat) (hd : decode c.code pc = .ok (.land, 1))  (hp : pc + 1 = pc')
    (k : Go p e below Q T (mkF m pc' Ls (.long (x &&& y) :: rest))) : Go p e below Q T (mkF m pc Ls (.long y :: .long x :: rest)) := by
  subst hp; exact Go.step (fun t k => XS.land X.here hx rfl hd rfl k) k
theorem g_lor (X : Stand p l e R s m args below meth c T locs cells slots) (hx : p.tables.exec = Jvm.exec) {x y : Int64} (pc' : Nat) (hd : decode c.code pc = .ok (.lor, 1))  (hp : pc + 1 = pc')
    (k : Go p e below Q T (mkF m pc' Ls (.long (x ||| y) :: rest))) : Go p e below Q T (mkF m pc Ls (.long y :: .long x :: rest)) := by
  subst hp; exact Go.step (fun t k => XS.lor X.here hx rfl hd rfl k) k
theorem g_lxor (X : Stand p l e R s m args below meth c T locs cells slots) (hx : p.tables.exec = Jvm.exec) {x y : Int64} (pc' : Nat) (hd : decode c.code pc = .ok (.lxor, 1))  (hp : pc + 1 = pc')
    (k : Go p e below Q T (mkF m pc' Ls (.long (x ^^^ y) :: rest))) : Go p e below Q T (mkF m pc Ls (.long y :: .long x :: rest)) := by
  subst hp; exact Go.step (fun t k => XS.lxor X.here hx rfl hd rfl k) k
theorem g_ldiv (X : Stand p l e R s m args below meth c T locs cells slots) (hx : p.tables.exec = Jvm.exec) {x y : Int64} (pc' : Nat) (hd : decode c.code pc = .ok (.ldiv, 1)) (hy : y ≠ 0) (hp : pc + 1 = pc')
    (k : Go p e below Q T (mkF m pc' Ls (.long (x / y) :: rest))) : Go p e below Q T (mkF m pc Ls (.long y :: .long x :: rest)) := by
  subst hp; exact Go.step (fun t k => XS.ldiv X.here hx rfl hd rfl hy k) k
theorem g_lshl (X : Stand p l e R s m args below meth c T locs cells slots) (hx : p.tables.exec = Jvm.exec) {x : Int64} {y : Int32} (pc' : Nat) (hd : decode c.code pc = .ok (.lshl, 1))  (hp : pc + 1 = pc')
    (k : Go p e below Q T (mkF m pc' Ls (.long (x <<< (y &&& 0x3f).toInt64) :: rest))) : Go p e below Q T (mkF m pc Ls (.int y :: .long x :: rest)) := by
  subst hp; exact Go.step (fun t k => XS.lshl X.here hx rfl hd rfl k) k
theorem g_lshr (X : Stand p l e R s m args below meth c T locs cells slots) (hx : p.tables.exec = Jvm.exec) {x : Int64} {y : Int32} (pc' : Nat) (hd : decode c.code pc = .ok (.lshr, 1))  (hp : pc + 1 = pc')
    (k : Go p e below Q T (mkF m pc' Ls (.long (x >>> (y &&& 0x3f).toInt64) :: rest))) : Go p e below Q T (mkF m pc Ls (.int y :: .long x :: rest)) := by
  subst hp; exact Go.step (fun t k => XS.lshr X.here hx rfl hd rfl k) k
theorem g_lushr (X : Stand p l e R s m args below meth c T locs cells slots) (hx : p.tables.exec = Jvm.exec) {x : Int64} {y : Int32} (pc' : Nat) (hd : decode c.code pc = .ok (.lushr, 1))  (hp : pc + 1 = pc')
    (k : Go p e below Q T (mkF m pc' Ls (.long ((x.toUInt64 >>> (y &&& 0x3f).toInt64.toUInt64).toInt64) :: rest))) : Go p e below Q T (mkF m pc Ls (.int y :: .long x :: rest)) := by
  subst hp; exact Go.step (fun t k => XS.lushr X.here hx rfl hd rfl k) k
theorem g_i2b (X : Stand p l e R s m args below meth c T locs cells slots) (hx : p.tables.exec = Jvm.exec) {x : Int32} (pc' : Nat) (hd : decode c.code pc = .ok (.i2b, 1))  (hp : pc + 1 = pc')
    (k : Go p e below Q T (mkF m pc' Ls (.int (x.toInt8.toInt32) :: rest))) : Go p e below Q T (mkF m pc Ls (.int x :: rest)) := by
  subst hp; exact Go.step (fun t k => XS.i2b X.here hx rfl hd rfl k) k
theorem g_i2c (X : Stand p l e R s m args below meth c T locs cells slots) (hx : p.tables.exec = Jvm.exec) {x : Int32} (pc' : Nat) (hd : decode c.code pc = .ok (.i2c, 1))  (hp : pc + 1 = pc')
    (k : Go p e below Q T (mkF m pc' Ls (.int (x.toUInt32.toUInt16.toUInt32.toInt32) :: rest))) : Go p e below Q T (mkF m pc Ls (.int x :: rest)) := by
  subst hp; exact Go.step (fun t k => XS.i2c X.here hx rfl hd rfl k) k
theorem g_i2s (X : Stand p l e R s m args below meth c T locs cells slots) (hx : p.tables.exec = Jvm.exec) {x : Int32} (pc' : Nat) (hd : decode c.code pc = .ok (.i2s, 1))  (hp : pc + 1 = pc')
    (k : Go p e below Q T (mkF m pc' Ls (.int (x.toInt16.toInt32) :: rest))) : Go p e below Q T (mkF m pc Ls (.int x :: rest)) := by
  subst hp; exact Go.step (fun t k => XS.i2s X.here hx rfl hd rfl k) k
theorem g_i2l (X : Stand p l e R s m args below meth c T locs cells slots) (hx : p.tables.exec = Jvm.exec) {x : Int32} (pc' : Nat) (hd : decode c.code pc = .ok (.i2l, 1))  (hp : pc + 1 = pc')
    (k : Go p e below Q T (mkF m pc' Ls (.long (x.toInt64) :: rest))) : Go p e below Q T (mkF m pc Ls (.int x :: rest)) := by
  subst hp; exact Go.step (fun t k => XS.i2l X.here hx rfl hd rfl k) k
theorem g_l2i (X : Stand p l e R s m args below meth c T locs cells slots) (hx : p.tables.exec = Jvm.exec) {x : Int64} (pc' : Nat) (hd : decode c.code pc = .ok (.l2i, 1))  (hp : pc + 1 = pc')
    (k : Go p e below Q T (mkF m pc' Ls (.int (x.toInt32) :: rest))) : Go p e below Q T (mkF m pc Ls (.long x :: rest)) := by
  subst hp; exact Go.step (fun t k => XS.l2i X.here hx rfl hd rfl k) k
theorem g_ineg (X : Stand p l e R s m args below meth c T locs cells slots) (hx : p.tables.exec = Jvm.exec) {x : Int32} (pc' : Nat) (hd : decode c.code pc = .ok (.ineg, 1))  (hp : pc + 1 = pc')
    (k : Go p e below Q T (mkF m pc' Ls (.int (-x) :: rest))) : Go p e below Q T (mkF m pc Ls (.int x :: rest)) := by
  subst hp; exact Go.step (fun t k => XS.ineg X.here hx rfl hd rfl k) k
theorem g_lneg (X : Stand p l e R s m args below meth c T locs cells slots) (hx : p.tables.exec = Jvm.exec) {x : Int64} (pc' : Nat) (hd : decode c.code pc = .ok (.lneg, 1))  (hp : pc + 1 = pc')
    (k : Go p e below Q T (mkF m pc' Ls (.long (-x) :: rest))) : Go p e below Q T (mkF m pc Ls (.long x :: rest)) := by
  subst hp; exact Go.step (fun t k => XS.lneg X.here hx rfl hd rfl k) k
theorem g_lcmp (X : Stand p l e R s m args below meth c T locs cells slots) (hx : p.tables.exec = Jvm.exec) {x y : Int64} (pc' : Nat) (hd : decode c.code pc = .ok (.lcmp, 1))  (hp : pc + 1 = pc')
    (k : Go p e below Q T (mkF m pc' Ls (.int (Jvm.Free.XT.cmpL x y) :: rest))) : Go p e below Q T (mkF m pc Ls (.long y :: .long x :: rest)) := by
  subst hp; exact Go.step (fun t k => Jvm.Free.XT.lcmp X.here hx rfl hd rfl k) k
theorem g_iloadN (X : Stand p l e R s m args below meth c T locs cells slots) (hx : p.tables.exec = Jvm.exec) {k' : Fin 4} {v : Int32} (pc' : Nat) (hd : decode c.code pc = .ok (.iload_n k', 1)) (hl : Ls[k'.val]? = some (.val (.int v))) (hp : pc + 1 = pc')
    (k : Go p e below Q T (mkF m pc' Ls (.int v :: rest))) : Go p e below Q T (mkF m pc Ls (rest)) := by
  subst hp; exact Go.step (fun t k => XS.iloadN X.here hx rfl hd hl k) k
theorem g_iload (X : Stand p l e R s m args below meth c T locs cells slots) (hx : p.tables.exec = Jvm.exec) {k' : Nat} {v : Int32} (pc' : Nat) (hd : decode c.code pc = .ok (.iload k', 2)) (hl : Ls[k']? = some (.val (.int v))) (hp : pc + 2 = pc')
    (k : Go p e below Q T (mkF m pc' Ls (.int v :: rest))) : Go p e below Q T (mkF m pc Ls (rest)) := by
  subst hp; exact Go.step (fun t k => XS.iload X.here hx rfl hd hl k) k
theorem g_lloadN (X : Stand p l e R s m args below meth c T locs cells slots) (hx : p.tables.exec = Jvm.exec) {k' : Fin 4} {v : Int64} (pc' : Nat) (hd : decode c.code pc = .ok (.lload_n k', 1)) (hl : Ls[k'.val]? = some (.val (.long v))) (hp : pc + 1 = pc')
    (k : Go p e below Q T (mkF m pc' Ls (.long v :: rest))) : Go p e below Q T (mkF m pc Ls (rest)) := by
  subst hp; exact Go.step (fun t k => XS.lloadN X.here hx rfl hd hl k) k
theorem g_lload (X : Stand p l e R s m args below meth c T locs cells slots) (hx : p.tables.exec = Jvm.exec) {k' : Nat} {v : Int64} (pc' : Nat) (hd : decode c.code pc = .ok (.lload k', 2)) (hl : Ls[k']? = some (.val (.long v))) (hp : pc + 2 = pc')
    (k : Go p e below Q T (mkF m pc' Ls (.long v :: rest))) : Go p e below Q T (mkF m pc Ls (rest)) := by
  subst hp; exact Go.step (fun t k => XS.lload X.here hx rfl hd hl k) k
theorem g_aloadN (X : Stand p l e R s m args below meth c T locs cells slots) (hx : p.tables.exec = Jvm.exec) {k' : Fin 4} {v : Value} (pc' : Nat) (hd : decode c.code pc = .ok (.aload_n k', 1)) (hl : Ls[k'.val]? = some (.val v)) (hv : v.isRef = true) (hp : pc + 1 = pc')
    (k : Go p e below Q T (mkF m pc' Ls (v :: rest))) : Go p e below Q T (mkF m pc Ls (rest)) := by
  subst hp; exact Go.step (fun t k => XS.aloadN X.here hx rfl hd hl hv k) k
theorem g_aload (X : Stand p l e R s m args below meth c T locs cells slots) (hx : p.tables.exec = Jvm.exec) {k' : Nat} {v : Value} (pc' : Nat) (hd : decode c.code pc = .ok (.aload k', 2)) (hl : Ls[k']? = some (.val v)) (hv : v.isRef = true) (hp : pc + 2 = pc')
    (k : Go p e below Q T (mkF m pc' Ls (v :: rest))) : Go p e below Q T (mkF m pc Ls (rest)) := by
  subst hp; exact Go.step (fun t k => XS.aload X.here hx rfl hd hl hv k) k
theorem g_istoreN (X : Stand p l e R s m args below meth c T locs cells slots) (hx : p.tables.exec = Jvm.exec) {k' : Fin 4} {x : Int32} (pc' : Nat) (hd : decode c.code pc = .ok (.istore_n k', 1)) (Ls' : Array Slot) (hl : storeLocals Ls k'.val (.int x) = some Ls') (hp : pc + 1 = pc')
    (k : Go p e below Q T (mkF m pc' Ls' (rest))) : Go p e below Q T (mkF m pc Ls (.int x :: rest)) := by
  subst hp; exact Go.step (fun t k => XS.istoreN X.here hx rfl hd rfl hl k) k
theorem g_istore (X : Stand p l e R s m args below meth c T locs cells slots) (hx : p.tables.exec = Jvm.exec) {k' : Nat} {x : Int32} (pc' : Nat) (hd : decode c.code pc = .ok (.istore k', 2)) (Ls' : Array Slot) (hl : storeLocals Ls k' (.int x) = some Ls') (hp : pc + 2 = pc')
    (k : Go p e below Q T (mkF m pc' Ls' (rest))) : Go p e below Q T (mkF m pc Ls (.int x :: rest)) := by
  subst hp; exact Go.step (fun t k => XS.istore X.here hx rfl hd rfl hl k) k
theorem g_lstoreN (X : Stand p l e R s m args below meth c T locs cells slots) (hx : p.tables.exec = Jvm.exec) {k' : Fin 4} {x : Int64} (pc' : Nat) (hd : decode c.code pc = .ok (.lstore_n k', 1)) (Ls' : Array Slot) (hl : storeLocals Ls k'.val (.long x) = some Ls') (hp : pc + 1 = pc')
    (k : Go p e below Q T (mkF m pc' Ls' (rest))) : Go p e below Q T (mkF m pc Ls (.long x :: rest)) := by
  subst hp; exact Go.step (fun t k => XS.lstoreN X.here hx rfl hd rfl hl k) k
theorem g_lstore (X : Stand p l e R s m args below meth c T locs cells slots) (hx : p.tables.exec = Jvm.exec) {k' : Nat} {x : Int64} (pc' : Nat) (hd : decode c.code pc = .ok (.lstore k', 2)) (Ls' : Array Slot) (hl : storeLocals Ls k' (.long x) = some Ls') (hp : pc + 2 = pc')
    (k : Go p e below Q T (mkF m pc' Ls' (rest))) : Go p e below Q T (mkF m pc Ls (.long x :: rest)) := by
  subst hp; exact Go.step (fun t k => XS.lstore X.here hx rfl hd rfl hl k) k
theorem g_astoreN (X : Stand p l e R s m args below meth c T locs cells slots) (hx : p.tables.exec = Jvm.exec) {k' : Fin 4} {x : Value} (pc' : Nat) (hd : decode c.code pc = .ok (.astore_n k', 1)) (hv : x.isRef = true) (Ls' : Array Slot) (hl : storeLocals Ls k'.val x = some Ls') (hp : pc + 1 = pc')
    (k : Go p e below Q T (mkF m pc' Ls' (rest))) : Go p e below Q T (mkF m pc Ls (x :: rest)) := by
  subst hp; exact Go.step (fun t k => XS.astoreN X.here hx rfl hd rfl hv hl k) k
theorem g_astore (X : Stand p l e R s m args below meth c T locs cells slots) (hx : p.tables.exec = Jvm.exec) {k' : Nat} {x : Value} (pc' : Nat) (hd : decode c.code pc = .ok (.astore k', 2)) (hv : x.isRef = true) (Ls' : Array Slot) (hl : storeLocals Ls k' x = some Ls') (hp : pc + 2 = pc')
    (k : Go p e below Q T (mkF m pc' Ls' (rest))) : Go p e below Q T (mkF m pc Ls (x :: rest)) := by
  subst hp; exact Go.step (fun t k => XS.astore X.here hx rfl hd rfl hv hl k) k
theorem g_iinc (X : Stand p l e R s m args below meth c T locs cells slots) (hx : p.tables.exec = Jvm.exec) {k' : Nat} {cst : Int} {x : Int32} (pc' : Nat) (hd : decode c.code pc = .ok (.iinc k' cst, 3)) (v : Int32) (hv : Int32.ofInt cst = v) (hl : Ls[k']? = some (.val (.int x))) (Ls' : Array Slot) (hl' : storeLocals Ls k' (.int (x + v)) = some Ls') (hp : pc + 3 = pc')
    (k : Go p e below Q T (mkF m pc' Ls' (rest))) : Go p e below Q T (mkF m pc Ls (rest)) := by
  subst hp; exact Go.step (fun t k => XS.iinc X.here hx rfl hd hl (by rw [hv]; exact hl') k) k
theorem g_iincC (X : Stand p l e R s m args below meth c T locs cells slots) (hx : p.tables.exec = Jvm.exec) {k' : Nat} {cst : Int} {x : Int32} (pc' : Nat) (hd : decode c.code pc = .ok (.iinc k' cst, 3)) (v w : Int32) (hv : Int32.ofInt cst = v) (hw : x + v = w) (hl : Ls[k']? = some (.val (.int x))) (Ls' : Array Slot) (hl' : storeLocals Ls k' (.int w) = some Ls') (hp : pc + 3 = pc')
    (k : Go p e below Q T (mkF m pc' Ls' (rest))) : Go p e below Q T (mkF m pc Ls (rest)) := by
  subst hp; exact Go.step (fun t k => XS.iinc X.here hx rfl hd hl (by rw [hv, hw]; exact hl') k) k
theorem g_iconst (X : Stand p l e R s m args below meth c T locs cells slots) (hx : p.tables.exec = Jvm.exec) {i : Int} (pc' : Nat) (hd : decode c.code pc = .ok (.iconst i, 1)) (v : Int32) (hv : Int32.ofInt i = v) (hp : pc + 1 = pc')
    (k : Go p e below Q T (mkF m pc' Ls (.int v :: rest))) : Go p e below Q T (mkF m pc Ls (rest)) := by
  subst hp; exact Go.step (fun t k => XS.iconst X.here hx rfl hd (by rw [hv]; exact k)) k
theorem g_bipush (X : Stand p l e R s m args below meth c T locs cells slots) (hx : p.tables.exec = Jvm.exec) {i : Int} (pc' : Nat) (hd : decode c.code pc = .ok (.bipush i, 2)) (v : Int32) (hv : (Int8.ofInt i).toInt32 = v) (hp : pc + 2 = pc')
    (k : Go p e below Q T (mkF m pc' Ls (.int v :: rest))) : Go p e below Q T (mkF m pc Ls (rest)) := by
  subst hp; exact Go.step (fun t k => XS.bipush X.here hx rfl hd (by rw [hv]; exact k)) k
theorem g_sipush (X : Stand p l e R s m args below meth c T locs cells slots) (hx : p.tables.exec = Jvm.exec) {i : Int} (pc' : Nat) (hd : decode c.code pc = .ok (.sipush i, 3)) (v : Int32) (hv : (Int16.ofInt i).toInt32 = v) (hp : pc + 3 = pc')
    (k : Go p e below Q T (mkF m pc' Ls (.int v :: rest))) : Go p e below Q T (mkF m pc Ls (rest)) := by
  subst hp; exact Go.step (fun t k => XS.sipush X.here hx rfl hd (by rw [hv]; exact k)) k
theorem g_lconst (X : Stand p l e R s m args below meth c T locs cells slots) (hx : p.tables.exec = Jvm.exec) {i : Fin 2} (pc' : Nat) (hd : decode c.code pc = .ok (.lconst i, 1)) (v : Int64) (hv : Int64.ofNat i = v) (hp : pc + 1 = pc')
    (k : Go p e below Q T (mkF m pc' Ls (.long v :: rest))) : Go p e below Q T (mkF m pc Ls (rest)) := by
  subst hp; exact Go.step (fun t k => XS.lconst X.here hx rfl hd (by rw [hv]; exact k)) k
theorem g_null (X : Stand p l e R s m args below meth c T locs cells slots) (hx : p.tables.exec = Jvm.exec)  (pc' : Nat) (hd : decode c.code pc = .ok (.aconst_null, 1))  (hp : pc + 1 = pc')
    (k : Go p e below Q T (mkF m pc' Ls (.null :: rest))) : Go p e below Q T (mkF m pc Ls (rest)) := by
  subst hp; exact Go.step (fun t k => XS.aconstNull X.here hx rfl hd k) k
theorem g_dup (X : Stand p l e R s m args below meth c T locs cells slots) (hx : p.tables.exec = Jvm.exec) {x : Value} (pc' : Nat) (hd : decode c.code pc = .ok (.dup, 1)) (hc : x.category = 1) (hp : pc + 1 = pc')
    (k : Go p e below Q T (mkF m pc' Ls (x :: x :: rest))) : Go p e below Q T (mkF m pc Ls (x :: rest)) := by
  subst hp; exact Go.step (fun t k => XS.dup X.here hx rfl hd rfl hc k) k
theorem g_pop (X : Stand p l e R s m args below meth c T locs cells slots) (hx : p.tables.exec = Jvm.exec) {x : Value} (pc' : Nat) (hd : decode c.code pc = .ok (.pop, 1)) (hc : x.category = 1) (hp : pc + 1 = pc')
    (k : Go p e below Q T (mkF m pc' Ls (rest))) : Go p e below Q T (mkF m pc Ls (x :: rest)) := by
  subst hp; exact Go.step (fun t k => XS.pop X.here hx rfl hd rfl hc k) k
theorem g_dup2 (X : Stand p l e R s m args below meth c T locs cells slots) (hx : p.tables.exec = Jvm.exec) {x y : Value} (pc' : Nat) (hd : decode c.code pc = .ok (.dup2, 1)) (hc : x.category = 1) (hc' : y.category = 1) (hp : pc + 1 = pc')
    (k : Go p e below Q T (mkF m pc' Ls (x :: y :: x :: y :: rest))) : Go p e below Q T (mkF m pc Ls (x :: y :: rest)) := by
  subst hp; exact Go.step (fun t k => Jvm.Free.XT.dup2 X.here hx rfl hd rfl hc hc' k) k
theorem g_dupX1 (X : Stand p l e R s m args below meth c T locs cells slots) (hx : p.tables.exec = Jvm.exec) {x y : Value} (pc' : Nat) (hd : decode c.code pc = .ok (.dup_x1, 1)) (hc : x.category = 1) (hc' : y.category = 1) (hp : pc + 1 = pc')
    (k : Go p e below Q T (mkF m pc' Ls (x :: y :: x :: rest))) : Go p e below Q T (mkF m pc Ls (x :: y :: rest)) := by
  subst hp; exact Go.step (fun t k => XS.dupX1 X.here hx rfl hd rfl hc hc' k) k
theorem g_ldcI (X : Stand p l e R s m args below meth c T locs cells slots) (hx : p.tables.exec = Jvm.exec) {Z : State} {a0 : Array Value} (hZ : Z.Warmed39 s.vm) {own : String} {index : Nat} (v : Int32) (hown : s.vm.findClass own = some m.cls) (w : (Jvm.Cond.constant own index v).before a0 Z = true) (pc' : Nat) (hd : decode c.code pc = .ok (.ldc index, 2))  (hp : pc + 2 = pc')
    (k : Go p e below Q T (mkF m pc' Ls (.int v :: rest))) : Go p e below Q T (mkF m pc Ls (rest)) := by
  subst hp; exact Go.step (fun t k => X.ldcI hx hown (mv hZ w) rfl hd k) k
theorem g_ldcWI (X : Stand p l e R s m args below meth c T locs cells slots) (hx : p.tables.exec = Jvm.exec) {Z : State} {a0 : Array Value} (hZ : Z.Warmed39 s.vm) {own : String} {index : Nat} (v : Int32) (hown : s.vm.findClass own = some m.cls) (w : (Jvm.Cond.constant own index v).before a0 Z = true) (pc' : Nat) (hd : decode c.code pc = .ok (.ldc_w index, 3))  (hp : pc + 3 = pc')
    (k : Go p e below Q T (mkF m pc' Ls (.int v :: rest))) : Go p e below Q T (mkF m pc Ls (rest)) := by
  subst hp; exact Go.step (fun t k => X.ldcWI hx hown (mv hZ w) rfl hd k) k
theorem g_ldc2J (X : Stand p l e R s m args below meth c T locs cells slots) (hx : p.tables.exec = Jvm.exec) {Z : State} {a0 : Array Value} (hZ : Z.Warmed39 s.vm) {own : String} {index : Nat} (v : Int64) (hown : s.vm.findClass own = some m.cls) (w : (Jvm.Cond.constantLong own index v).before a0 Z = true) (pc' : Nat) (hd : decode c.code pc = .ok (.ldc2_w index, 3))  (hp : pc + 3 = pc')
    (k : Go p e below Q T (mkF m pc' Ls (.long v :: rest))) : Go p e below Q T (mkF m pc Ls (rest)) := by
  subst hp; exact Go.step (fun t k => X.ldc2J hx hown (mv hZ w) rfl hd k) k
theorem g_goto (X : Stand p l e R s m args below meth c T locs cells slots) (hx : p.tables.exec = Jvm.exec) (pc' : Nat) {o : Int} (hd : decode c.code pc = .ok (.goto o, 3)) (ho : 0 ≤ (pc : Int) + o) (hp : ((pc : Int) + o).toNat = pc') {st : List Value}
    (k : Go p e below Q T (mkF m pc' Ls st)) : Go p e below Q T (mkF m pc Ls st) := Go.step (fun t k => XS.goto X.here hx rfl rfl hd ho hp k) k
theorem g_ifT (X : Stand p l e R s m args below meth c T locs cells slots) (hx : p.tables.exec = Jvm.exec) (pc' : Nat) {o : Int} {cd : ClassFile.Cond} {x : Int32} (hd : decode c.code pc = .ok (.ifCond cd o, 3)) (hc : ifCond.holds cd x = true) (ho : 0 ≤ (pc : Int) + o) (hp : ((pc : Int) + o).toNat = pc')
    (k : Go p e below Q T (mkF m pc' Ls rest)) : Go p e below Q T (mkF m pc Ls (.int x :: rest)) := Go.step (fun t k => XS.ifYes X.here hx rfl rfl hd rfl hc ho hp k) k
theorem g_ifF (X : Stand p l e R s m args below meth c T locs cells slots) (hx : p.tables.exec = Jvm.exec) (pc' : Nat) {o : Int} {cd : ClassFile.Cond} {x : Int32} (hd : decode c.code pc = .ok (.ifCond cd o, 3)) (hc : ifCond.holds cd x = false) (hp : pc + 3 = pc')
    (k : Go p e below Q T (mkF m pc' Ls rest)) : Go p e below Q T (mkF m pc Ls (.int x :: rest)) := by subst hp; exact Go.step (fun t k => XS.ifNo X.here hx rfl hd rfl hc k) k
theorem g_icT (X : Stand p l e R s m args below meth c T locs cells slots) (hx : p.tables.exec = Jvm.exec) (pc' : Nat) {o : Int} {cd : ClassFile.Cond} {x y : Int32} (hd : decode c.code pc = .ok (.if_icmp cd o, 3)) (hc : if_icmp.holds cd x y = true) (ho : 0 ≤ (pc : Int) + o) (hp : ((pc : Int) + o).toNat = pc')
    (k : Go p e below Q T (mkF m pc' Ls rest)) : Go p e below Q T (mkF m pc Ls (.int y :: .int x :: rest)) := Go.step (fun t k => XS.icmpYes X.here hx rfl rfl hd rfl hc ho hp k) k
theorem g_icF (X : Stand p l e R s m args below meth c T locs cells slots) (hx : p.tables.exec = Jvm.exec) (pc' : Nat) {o : Int} {cd : ClassFile.Cond} {x y : Int32} (hd : decode c.code pc = .ok (.if_icmp cd o, 3)) (hc : if_icmp.holds cd x y = false) (hp : pc + 3 = pc')
    (k : Go p e below Q T (mkF m pc' Ls rest)) : Go p e below Q T (mkF m pc Ls (.int y :: .int x :: rest)) := by subst hp; exact Go.step (fun t k => XS.icmpNo X.here hx rfl hd rfl hc k) k
theorem g_swIn (X : Stand p l e R s m args below meth c T locs cells slots) (hx : p.tables.exec = Jvm.exec) (pc' : Nat) {dflt low high : Int} {offs : Array Int} {len : Nat} {o : Int} {i : Int32} (hd : decode c.code pc = .ok (.tableswitch dflt low high offs, len)) (hin : ¬ (i.toInt < low ∨ i.toInt > high)) (hoff : offs[(i.toInt - low).toNat]? = some o) (ho : 0 ≤ (pc : Int) + o) (hp : ((pc : Int) + o).toNat = pc')
    (k : Go p e below Q T (mkF m pc' Ls rest)) : Go p e below Q T (mkF m pc Ls (.int i :: rest)) := Go.step (fun t k => XS.tswIn X.here hx rfl rfl hd rfl hin hoff ho hp k) k
theorem g_swOut (X : Stand p l e R s m args below meth c T locs cells slots) (hx : p.tables.exec = Jvm.exec) (pc' : Nat) {dflt low high : Int} {offs : Array Int} {len : Nat} {i : Int32} (hd : decode c.code pc = .ok (.tableswitch dflt low high offs, len)) (hout : i.toInt < low ∨ i.toInt > high) (ho : 0 ≤ (pc : Int) + dflt) (hp : ((pc : Int) + dflt).toNat = pc')
    (k : Go p e below Q T (mkF m pc' Ls rest)) : Go p e below Q T (mkF m pc Ls (.int i :: rest)) := Go.step (fun t k => XS.tswOut X.here hx rfl rfl hd rfl hout ho hp k) k
theorem g_nullT (X : Stand p l e R s m args below meth c T locs cells slots) (hx : p.tables.exec = Jvm.exec) (pc' : Nat) {o : Int} (hd : decode c.code pc = .ok (.ifnull o, 3)) (ho : 0 ≤ (pc : Int) + o) (hp : ((pc : Int) + o).toNat = pc')
    (k : Go p e below Q T (mkF m pc' Ls rest)) : Go p e below Q T (mkF m pc Ls (.null :: rest)) := Go.step (fun t k => XS.ifnullYes X.here hx rfl rfl hd rfl ho hp k) k
theorem g_nullF (X : Stand p l e R s m args below meth c T locs cells slots) (hx : p.tables.exec = Jvm.exec) (pc' : Nat) {o : Int} {b : Addr} (hd : decode c.code pc = .ok (.ifnull o, 3)) (hp : pc + 3 = pc')
    (k : Go p e below Q T (mkF m pc' Ls rest)) : Go p e below Q T (mkF m pc Ls (.ref b :: rest)) := by subst hp; exact Go.step (fun t k => XS.ifnullNo X.here hx rfl hd rfl k) k
theorem g_nonnullT (X : Stand p l e R s m args below meth c T locs cells slots) (hx : p.tables.exec = Jvm.exec) (pc' : Nat) {o : Int} {b : Addr} (hd : decode c.code pc = .ok (.ifnonnull o, 3)) (ho : 0 ≤ (pc : Int) + o) (hp : ((pc : Int) + o).toNat = pc')
    (k : Go p e below Q T (mkF m pc' Ls rest)) : Go p e below Q T (mkF m pc Ls (.ref b :: rest)) := Go.step (fun t k => XS.ifnonnullYes X.here hx rfl rfl hd rfl ho hp k) k
theorem g_nonnullF (X : Stand p l e R s m args below meth c T locs cells slots) (hx : p.tables.exec = Jvm.exec) (pc' : Nat) {o : Int} (hd : decode c.code pc = .ok (.ifnonnull o, 3)) (hp : pc + 3 = pc')
    (k : Go p e below Q T (mkF m pc' Ls rest)) : Go p e below Q T (mkF m pc Ls (.null :: rest)) := by subst hp; exact Go.step (fun t k => XS.ifnonnullNo X.here hx rfl hd rfl k) k
theorem own_end {Qf : Option Value → Heap → List Loc → Prop} {kc ks : Nat} {g : JFrame} (X : Stand p l e R s m args below meth c T locs cells slots) (hx : p.tables.exec = Jvm.exec) (v : Option Value) (hv : meth.sig.returnType = none → v = none) (hlocks : meth.locks = false)
    (st : ∀ fs, (∀ (f : JFrame) (acts : List Action), f.method = m → f.locked = none → f.entered = [] → (doReturn e (T.setTop f) acts v).1 = T.setFrames fs) → Steps p.tables e below (T.setTop g) (T.setFrames fs))
    (hc : cells ≤ kc) (hs : slots ≤ ks) (hQ : Qf v T.heap locs) : Go p e below (Qend s Qf kc ks) T g := by
  obtain ⟨fs, hr, hrun, hended, hW, hsame⟩ := X.leave (v := v) hv hlocks
  exact ⟨_, _, st fs hr, hrun, hended, _, _, rfl, hQ, ⟨_, rfl⟩, hW, hsame.mono hc hs⟩
theorem g_iret {Qf : Option Value → Heap → List Loc → Prop} {kc ks : Nat} (X : Stand p l e R s m args below meth c T locs cells slots) (hx : p.tables.exec = Jvm.exec) {z : Int32} (hret : meth.sig.returnType = some .int) (hlocks : meth.locks = false) (hd : decode c.code pc = .ok (.ireturn, 1)) (hc : cells ≤ kc) (hs : slots ≤ ks)
    (hQ : Qf (some (.int z)) T.heap locs) : Go p e below (Qend s Qf kc ks) T (mkF m pc Ls (.int z :: rest)) :=
  own_end X hx _ (fun h => by rw [hret] at h; cases h) hlocks (fun fs hr => retOut X hx hret rfl (Or.inl ⟨rfl, Or.inl rfl, _, rfl⟩) hd hr) hc hs hQ
theorem g_lret {Qf : Option Value → Heap → List Loc → Prop} {kc ks : Nat} (X : Stand p l e R s m args below meth c T locs cells slots) (hx : p.tables.exec = Jvm.exec) {z : Int64} (hret : meth.sig.returnType = some .long) (hlocks : meth.locks = false) (hd : decode c.code pc = .ok (.lreturn, 1)) (hc : cells ≤ kc) (hs : slots ≤ ks)
    (hQ : Qf (some (.long z)) T.heap locs) : Go p e below (Qend s Qf kc ks) T (mkF m pc Ls (.long z :: rest)) :=
  own_end X hx _ (fun h => by rw [hret] at h; cases h) hlocks (fun fs hr => retOut X hx hret rfl (Or.inr (Or.inl ⟨rfl, rfl, _, rfl⟩)) hd hr) hc hs hQ
theorem g_nret {Qf : Option Value → Heap → List Loc → Prop} {kc ks : Nat} (X : Stand p l e R s m args below meth c T locs cells slots) (hx : p.tables.exec = Jvm.exec) {z : Int32} {t : FieldType} (ht : t = .boolean ∨ t = .byte ∨ t = .char ∨ t = .short) (hret : meth.sig.returnType = some t) (hlocks : meth.locks = false) (hd : decode c.code pc = .ok (.ireturn, 1)) (hc : cells ≤ kc) (hs : slots ≤ ks)
    (hQ : Qf (some (.int (nar t z))) T.heap locs) : Go p e below (Qend s Qf kc ks) T (mkF m pc Ls (.int z :: rest)) :=
  own_end X hx _ (fun h => by rw [hret] at h; cases h) hlocks (fun fs hr => retN X hx hret ht hd hr) hc hs hQ
theorem g_aret {Qf : Option Value → Heap → List Loc → Prop} {kc ks : Nat} (X : Stand p l e R s m args below meth c T locs cells slots) (hx : p.tables.exec = Jvm.exec) {w : Value} {t : FieldType} (ht : t.isReference = true) (hw : w.isRef = true) (hn : narrow t w = w) (hret : meth.sig.returnType = some t) (hlocks : meth.locks = false) (hd : decode c.code pc = .ok (.areturn, 1)) (hc : cells ≤ kc) (hs : slots ≤ ks)
    (hQ : Qf (some w) T.heap locs) : Go p e below (Qend s Qf kc ks) T (mkF m pc Ls (w :: rest)) :=
  own_end X hx _ (fun h => by rw [hret] at h; cases h) hlocks (fun fs hr => retOut X hx hret hn (Or.inr (Or.inr (Or.inr (Or.inr ⟨rfl, ht, hw⟩)))) hd hr) hc hs hQ
theorem g_ret0 {Qf : Option Value → Heap → List Loc → Prop} {kc ks : Nat} (X : Stand p l e R s m args below meth c T locs cells slots) (hx : p.tables.exec = Jvm.exec) (hret : meth.sig.returnType = none) (hlocks : meth.locks = false) (hd : decode c.code pc = .ok (.return_, 1)) (hc : cells ≤ kc) (hs : slots ≤ ks)
    (hQ : Qf none T.heap locs) : Go p e below (Qend s Qf kc ks) T (mkF m pc Ls []) :=
  own_end X hx _ (fun _ => rfl) hlocks (fun fs hr => X.returnOut hx hret hd hr) hc hs hQ
/-- from a body's first row -/
theorem own_start {y : MethodName} {bytes : ByteArray} {maxL : Nat} {ret : Option FieldType} {ws : List Jvm.Cond} {rm : Room} {as' : Array Value} {Z : State} {h0 : Heap} {Qf : Option Value → Heap → List Loc → Prop} (hp : plainName y.cls = true)
    (body : ∀ (p : Program) (e : Env) (s : State) (m : MethodId) (below : List Frame) (meth : Method) (c : Code) (T : State), Stand p l e rm s m as' below meth c T [] 0 0 → p.tables.exec = Jvm.exec → c.code = bytes → c.maxLocals = maxL → s.vm.findClass y.cls = some m.cls →
      meth.name = y.name → meth.sig.returnType = ret → meth.locks = false → Z.Warmed39 s.vm → T.heap = h0 → Go p e below (Qend s Qf rm.cells rm.slots) T (entryFrame m as' maxL)) :
    MetFree l y (head1 (Jvm.Cond.code y bytes maxL ret :: ws) rm) (fun a U => a = as' ∧ Z.Warmed39 U.vm ∧ U.heap = h0) (fun _ _ _ _ _ => True) (fun _ U o U' => ∃ v L, o = .returned v ∧ Qf v U'.heap L ∧ FrameEnd U o U' L rm.cells rm.slots) := by
  refine MetFree.of_bodySF (plainFor_of_name hp) hisR ?_
  intro p e s m args below meth c s₁ Bd hml0 hP hK
  obtain ⟨rfl, hZ, hh⟩ := hP
  exact body p e s m below meth c s₁ (Stand.of_body Bd) Bd.exec Bd.bytes hml0 (findClass_of_methodNamed Bd.named) (name_of_methodNamed Bd.named Bd.method).1 Bd.returns Bd.notSynchronized hZ (by rw [← hh, Bd.state]; rfl)
/-- a static call, paid by the callee's own contract -/
theorem g_callS (X : Stand p l e R s m args below meth c T locs cells slots) (hx : p.tables.exec = Jvm.exec) {Z : State} {a0 : Array Value} (hZ : Z.Warmed39 s.vm) {own : String} {index : Nat} {y : MethodName} {bytes : ByteArray} {maxL : Nat} {ret' : Option FieldType} {rm : Room} {Qc : Option Value → Heap → List Loc → Prop} {h : Heap} (pc' : Nat) (argsL : List Value) (rest : List Value) (W : Nat)
    (hown : s.vm.findClass own = some m.cls) (w1 : (Jvm.Cond.methodLink own index y).before a0 Z = true) (w2 : (Jvm.Cond.static y).before a0 Z = true) (w3 : (Jvm.Cond.initialized y.cls).before a0 Z = true) (w4 : (Jvm.Cond.code y bytes maxL ret').before a0 Z = true) (hy : y.cls ≠ "java/lang/invoke/MethodHandle" ∧ y.cls ≠ "java/lang/invoke/VarHandle")
    (eT : T.heap = h)
    (hM : MetFree l y (head1 [Jvm.Cond.code y bytes maxL ret'] rm) (fun a U => a = argsL.toArray ∧ Z.Warmed39 U.vm ∧ U.heap = h) (fun _ _ _ _ _ => True) (fun _ U o U' => ∃ v L, o = .returned v ∧ Qc v U'.heap L ∧ FrameEnd U o U' L rm.cells rm.slots))
    (hf : rm.frames + 1 ≤ R.frames) (hl : W + (maxL + 11) + rm.locals ≤ R.locals) (hcl : cells + rm.cells ≤ R.cells) (hsl : slots + rm.slots ≤ R.slots)
    (hsize : Ls.size = c.maxLocals) {st : List Value} (hstack : st = argsL.reverse ++ rest) {ps : List FieldType} {r : Option FieldType} (hdesc : parseMethodDescriptor y.desc = some ⟨ps, r⟩) (hlen : argsL.length = ps.length) (hW : (rest.map fun v => v.category).sum ≤ W) (hd : decode c.code pc = .ok (.invokestatic index, 3)) (hp : pc + 3 = pc')
    (k : ∀ (v : Option Value) (T' : State) (L : List Loc), Stand p l e R s m args below meth c T' (locs ++ L) (cells + rm.cells) (slots + rm.slots) → Qc v T'.heap L → Go p e below Q T' (mkF m pc' Ls (v.toList ++ rest))) : Go p e below Q T (mkF m pc Ls st) := by
  subst hp hstack
  obtain ⟨v, _, ⟨T', L', k', n'⟩, -, X', ⟨L, hQ, l1, y1, z1⟩, st⟩ := Jvm.LawKit.callS X hx (y := y) hown (mvT hZ w1) (mvT hZ w2) (mvT hZ w3) (mvT hZ w4) hy (backOf (W := W) hM hZ w4 w3 hf hl) (g := mkF m pc Ls (argsL.reverse ++ rest)) rfl hsize (argsL := argsL) (rest := rest) (lenOf hdesc hlen) rfl (by show 2 * 0 + _ ≤ _; omega) hd (fun _ _ => ⟨rfl, eT, hcl, hsl⟩)
  dsimp only [Pt.U, Pt.locs, Pt.cells, Pt.slots] at X' l1 y1 z1 st hQ
  subst l1 y1 z1
  exact Go.step (fun t k => st _ k) (k v T' L X' hQ)
end OwnWalk
section OwnArr
variable {p : Program} {l : Launch} {e : Env} {R : Room} {s : State} {m : MethodId} {args : Array Value} {below : List Frame} {meth : Method} {c : Code} {T : State} {locs : List Loc} {cells slots : Nat} {Q : Outcome → State → Prop} {pc : Nat} {Ls : Array Slot} {rest : List Value} {Z : State} {a0 : Array Value} {h h' : Heap} {a b : Addr} {ty : FieldType} {n : Nat} {f f' : Nat → Value} {ws : List Addr} {sl : Nat} {v : Value}
/-- in heap h the array at a has n places; place i holds f i -/
def AV (Z : State) (h : Heap) (a : Addr) (ty : FieldType) (n : Nat) (f : Nat → Value) : Prop := ∃ c : Cell, Arr Z h a c ty ∧ c.slots.size = n ∧ ∀ i, i < n → c.slots[i]? = some (f i)
theorem AV.lt (F : AV Z h a ty n f) : a < h.size := by obtain ⟨c, A, -⟩ := F; exact A.lt
theorem AV.ext (F : AV Z h a ty n f) (E : Ext h h') : AV Z h' a ty n f := by obtain ⟨c, A, r⟩ := F; exact ⟨c, A.ext E, r⟩
theorem AV.keep (F : AV Z h a ty n f) (K : Keep h h' ws) (q : a ∉ ws) : AV Z h' a ty n f := by obtain ⟨c, A, r⟩ := F; exact ⟨c, ⟨K.2.1 a c A.1 q, A.2⟩, r⟩
theorem AV.other (F : AV Z h b ty n f) (W : Wr h h' a sl v) (q : b ≠ a) : AV Z h' b ty n f := by obtain ⟨c, A, r⟩ := F; exact ⟨c, A.other W q, r⟩
theorem AV.set (F : AV Z h a ty n f) (W : Wr h h' a sl v) : AV Z h' a ty n (fun i => if i = sl then v else f i) := by
  obtain ⟨c, A, S, H⟩ := F
  refine ⟨c.setSlot sl v, A.same W, by rw [sz_set]; exact S, fun i hi => ?_⟩
  by_cases q : i = sl
  · subst q
    simp [Cell.setSlot, S, hi]
  · show (c.slots.setIfInBounds sl v)[i]? = some (if i = sl then v else f i)
    rw [Array.getElem?_setIfInBounds_ne (Ne.symm q), if_neg q]
    exact H i hi
theorem AV.congr (F : AV Z h a ty n f) (q : ∀ i, i < n → f i = f' i) : AV Z h a ty n f' := by obtain ⟨c, A, S, H⟩ := F; exact ⟨c, A, S, fun i hi => by rw [← q i hi]; exact H i hi⟩
theorem own_ix {j : Int32} {i : Nat} (hi : j.toInt = i) : j.toNatClampNeg = i := by show j.toInt.toNat = i; omega
theorem own_nn {j : Int32} {i : Nat} (hi : j.toInt = i) : ¬ j < 0 := by rw [Int32.lt_iff_toInt_lt, hi]; show ¬ (i : Int) < 0; omega
theorem own_in {c : Cell} {j : Int32} {i : Nat} (S : c.slots.size = n) (hi : j.toInt = i) (hin : i < n) : ¬ (j < 0 ∨ c.slots.size ≤ j.toNatClampNeg) := by
  rw [own_ix hi, S]; exact fun q => q.elim (own_nn hi) (fun q => by omega)
theorem g_newarr (X : Stand p l e R s m args below meth c T locs cells slots) (hx : p.tables.exec = Jvm.exec) (hZ : Z.Warmed39 s.vm) {aty : ArrayType} (pc' : Nat) (w : (Jvm.Cond.arrayClass (newarray.typeOf aty)).before a0 Z = true) (eT : T.heap = h) {z : Int32} (hd : decode c.code pc = .ok (.newarray aty, 2)) (nn : Nat) (hn : z.toInt = nn) (cap : Nat) (hcap : nn ≤ cap) (hb8 : cap * 8 ≤ 536870912) (hc : cells + 1 ≤ R.cells) (hl : slots + cap ≤ R.slots) (hp : pc + 2 = pc')
    (k : ∀ (T' : State) (a : Addr), Stand p l e R s m args below meth c T' locs (cells + 1) (slots + cap) → Ext h T'.heap → a = h.size → AV Z T'.heap a (newarray.typeOf aty) nn (fun _ => defaultValue (newarray.typeOf aty)) → Go p e below Q T' (mkF m pc' Ls (.ref a :: rest))) : Go p e below Q T (mkF m pc Ls (.int z :: rest)) := by
  subst hp
  obtain ⟨T', h', cA, X', e', E, A, st⟩ := newP X hx hZ w eT (g := mkF m pc Ls (.int z :: rest)) rfl hd rfl (own_nn hn) (cap := cap) (by rw [own_ix hn]; exact hcap) hb8 hc hl
  subst e'
  refine Go.step (fun t k => st t k) (k T' _ X' E rfl ⟨_, A, by rw [sz_new, own_ix hn], fun i hi => ?_⟩)
  simp [newA, own_ix hn, hi]
theorem g_arrlen (X : Stand p l e R s m args below meth c T locs cells slots) (hx : p.tables.exec = Jvm.exec) (hZ : Z.Warmed39 s.vm) (pc' : Nat) (eT : T.heap = h) (F : AV Z h a ty n f) (z : Int32) (hz : z.toInt = n) (hd : decode c.code pc = .ok (.arraylength, 1)) (hp : pc + 1 = pc')
    (k : Go p e below Q T (mkF m pc' Ls (.int z :: rest))) : Go p e below Q T (mkF m pc Ls (.ref a :: rest)) := by
  subst hp
  obtain ⟨cl, A, S, H⟩ := F
  have q : cl.slots.size.toInt32 = z := len_of (by rw [own_ix hz]; exact S) (own_nn hz)
  rw [← q] at k
  have st := X.arraylength hx (cell := cl) (ty := ty) (by rw [eT]; exact A.1) (State.isArrayOf_alike hZ.alike A.2.1) (g := mkF m pc Ls (.ref a :: rest)) rfl rfl hd
  exact Go.step (fun t k => st t k) k
theorem g_bastore (X : Stand p l e R s m args below meth c T locs cells slots) (hx : p.tables.exec = Jvm.exec) (hZ : Z.Warmed39 s.vm) (pc' : Nat) (eT : T.heap = h) (F : AV Z h a .byte n f) {j : Int32} {x : Int32} (hd : decode c.code pc = .ok (.bastore, 1)) (i : Nat) (hi : j.toInt = i) (hin : i < n) (hp : pc + 1 = pc')
    (k : ∀ (T' : State), Stand p l e R s m args below meth c T' (locs ++ [⟨a, i⟩]) cells slots → Wr h T'.heap a i (.int (nar .byte x)) → AV Z T'.heap a .byte n (fun q => if q = i then .int (nar .byte x) else f q) → Go p e below Q T' (mkF m pc' Ls rest)) : Go p e below Q T (mkF m pc Ls (.int x :: .int j :: .ref a :: rest)) := by
  subst hp
  obtain ⟨cl, A, S, H⟩ := F
  obtain ⟨T', h', X', e', W, st⟩ := stB X hx hZ eT A (own_in S hi hin) (g := mkF m pc Ls (.int x :: .int j :: .ref a :: rest)) rfl rfl hd
  subst e'
  rw [own_ix hi] at X' W
  exact Go.step (fun t k => st t k) (k T' X' W (AV.set ⟨cl, A, S, H⟩ W))
theorem g_iastore (X : Stand p l e R s m args below meth c T locs cells slots) (hx : p.tables.exec = Jvm.exec) (hZ : Z.Warmed39 s.vm) (pc' : Nat) (eT : T.heap = h) (F : AV Z h a .int n f) {j : Int32} {x : Int32} (hd : decode c.code pc = .ok (.iastore, 1)) (i : Nat) (hi : j.toInt = i) (hin : i < n) (hp : pc + 1 = pc')
    (k : ∀ (T' : State), Stand p l e R s m args below meth c T' (locs ++ [⟨a, i⟩]) cells slots → Wr h T'.heap a i (.int x) → AV Z T'.heap a .int n (fun q => if q = i then .int x else f q) → Go p e below Q T' (mkF m pc' Ls rest)) : Go p e below Q T (mkF m pc Ls (.int x :: .int j :: .ref a :: rest)) := by
  subst hp
  obtain ⟨cl, A, S, H⟩ := F
  obtain ⟨T', h', X', e', W, st⟩ := stI X hx hZ eT A (own_in S hi hin) (g := mkF m pc Ls (.int x :: .int j :: .ref a :: rest)) rfl rfl hd
  subst e'
  rw [own_ix hi] at X' W
  exact Go.step (fun t k => st t k) (k T' X' W (AV.set ⟨cl, A, S, H⟩ W))
theorem g_lastore (X : Stand p l e R s m args below meth c T locs cells slots) (hx : p.tables.exec = Jvm.exec) (hZ : Z.Warmed39 s.vm) (pc' : Nat) (eT : T.heap = h) (F : AV Z h a .long n f) {j : Int32} {x : Int64} (hd : decode c.code pc = .ok (.lastore, 1)) (i : Nat) (hi : j.toInt = i) (hin : i < n) (hp : pc + 1 = pc')
    (k : ∀ (T' : State), Stand p l e R s m args below meth c T' (locs ++ [⟨a, i⟩]) cells slots → Wr h T'.heap a i (.long x) → AV Z T'.heap a .long n (fun q => if q = i then .long x else f q) → Go p e below Q T' (mkF m pc' Ls rest)) : Go p e below Q T (mkF m pc Ls (.long x :: .int j :: .ref a :: rest)) := by
  subst hp
  obtain ⟨cl, A, S, H⟩ := F
  obtain ⟨T', h', X', e', W, st⟩ := stJ X hx hZ eT A (own_in S hi hin) (g := mkF m pc Ls (.long x :: .int j :: .ref a :: rest)) rfl rfl hd
  subst e'
  rw [own_ix hi] at X' W
  exact Go.step (fun t k => st t k) (k T' X' W (AV.set ⟨cl, A, S, H⟩ W))
theorem g_baload (X : Stand p l e R s m args below meth c T locs cells slots) (hx : p.tables.exec = Jvm.exec) (hZ : Z.Warmed39 s.vm) (pc' : Nat) (eT : T.heap = h) (F : AV Z h a .byte n f) {j : Int32} (hd : decode c.code pc = .ok (.baload, 1)) (i : Nat) (hi : j.toInt = i) (hin : i < n) (v : Value) (hv : f i = v) (hp : pc + 1 = pc')
    (k : Go p e below Q T (mkF m pc' Ls (v :: rest))) : Go p e below Q T (mkF m pc Ls (.int j :: .ref a :: rest)) := by
  subst hp hv
  obtain ⟨cl, A, S, H⟩ := F
  have st := X.baloadBytes hx (cell := cl) (j := j) (v := f i) (by rw [eT]; exact A.1) (State.isArrayOf_alike hZ.alike A.2.1) A.2.2 (own_in S hi hin) (by rw [own_ix hi]; exact H i hin) (g := mkF m pc Ls (.int j :: .ref a :: rest)) rfl rfl hd
  exact Go.step (fun t k => st t k) k
theorem g_iaload (X : Stand p l e R s m args below meth c T locs cells slots) (hx : p.tables.exec = Jvm.exec) (hZ : Z.Warmed39 s.vm) (pc' : Nat) (eT : T.heap = h) (F : AV Z h a .int n f) {j : Int32} (hd : decode c.code pc = .ok (.iaload, 1)) (i : Nat) (hi : j.toInt = i) (hin : i < n) (v : Value) (hv : f i = v) (hp : pc + 1 = pc')
    (k : Go p e below Q T (mkF m pc' Ls (v :: rest))) : Go p e below Q T (mkF m pc Ls (.int j :: .ref a :: rest)) := by
  subst hp hv
  obtain ⟨cl, A, S, H⟩ := F
  have st := X.iaload hx (cell := cl) (j := j) (v := f i) (by rw [eT]; exact A.1) (State.isArrayOf_alike hZ.alike A.2.1) A.2.2 (own_in S hi hin) (by rw [own_ix hi]; exact H i hin) (g := mkF m pc Ls (.int j :: .ref a :: rest)) rfl rfl hd
  exact Go.step (fun t k => st t k) k
theorem g_laload (X : Stand p l e R s m args below meth c T locs cells slots) (hx : p.tables.exec = Jvm.exec) (hZ : Z.Warmed39 s.vm) (pc' : Nat) (eT : T.heap = h) (F : AV Z h a .long n f) {j : Int32} (hd : decode c.code pc = .ok (.laload, 1)) (i : Nat) (hi : j.toInt = i) (hin : i < n) (v : Value) (hv : f i = v) (hp : pc + 1 = pc')
    (k : Go p e below Q T (mkF m pc' Ls (v :: rest))) : Go p e below Q T (mkF m pc Ls (.int j :: .ref a :: rest)) := by
  subst hp hv
  obtain ⟨cl, A, S, H⟩ := F
  have st := X.laload hx (cell := cl) (j := j) (v := f i) (by rw [eT]; exact A.1) (State.isArrayOf_alike hZ.alike A.2.1) A.2.2 (own_in S hi hin) (by rw [own_ix hi]; exact H i hin) (g := mkF m pc Ls (.int j :: .ref a :: rest)) rfl rfl hd
  exact Go.step (fun t k => st t k) k
end OwnArr

theorem d1_0 : decode prog_35_method_10_code 0 = .ok (.aload_n 1, 1) := by decide +kernel
theorem d1_1 : decode prog_35_method_10_code 1 = .ok (.astore_n 2, 1) := by decide +kernel
theorem d1_2 : decode prog_35_method_10_code 2 = .ok (.aload_n 2, 1) := by decide +kernel
theorem d1_3 : decode prog_35_method_10_code 3 = .ok (.arraylength, 1) := by decide +kernel
theorem d1_4 : decode prog_35_method_10_code 4 = .ok (.istore_n 3, 1) := by decide +kernel
theorem d1_5 : decode prog_35_method_10_code 5 = .ok (.iconst 0, 1) := by decide +kernel
theorem d1_6 : decode prog_35_method_10_code 6 = .ok (.istore 4, 2) := by decide +kernel
theorem d1_8 : decode prog_35_method_10_code 8 = .ok (.iload 4, 2) := by decide +kernel
theorem d1_10 : decode prog_35_method_10_code 10 = .ok (.iload_n 3, 1) := by decide +kernel
theorem d1_11 : decode prog_35_method_10_code 11 = .ok (.if_icmp .ge 23, 3) := by decide +kernel
theorem d1_14 : decode prog_35_method_10_code 14 = .ok (.aload_n 2, 1) := by decide +kernel
theorem d1_15 : decode prog_35_method_10_code 15 = .ok (.iload 4, 2) := by decide +kernel
theorem d1_17 : decode prog_35_method_10_code 17 = .ok (.iaload, 1) := by decide +kernel
theorem d1_18 : decode prog_35_method_10_code 18 = .ok (.istore 5, 2) := by decide +kernel
theorem d1_20 : decode prog_35_method_10_code 20 = .ok (.iload 5, 2) := by decide +kernel
theorem d1_22 : decode prog_35_method_10_code 22 = .ok (.iload_n 0, 1) := by decide +kernel
theorem d1_23 : decode prog_35_method_10_code 23 = .ok (.if_icmp .ne 5, 3) := by decide +kernel
theorem d1_26 : decode prog_35_method_10_code 26 = .ok (.iconst 1, 1) := by decide +kernel
theorem d1_27 : decode prog_35_method_10_code 27 = .ok (.ireturn, 1) := by decide +kernel
theorem d1_28 : decode prog_35_method_10_code 28 = .ok (.iinc 4 1, 3) := by decide +kernel
theorem d1_31 : decode prog_35_method_10_code 31 = .ok (.goto (-23), 3) := by decide +kernel
theorem d1_34 : decode prog_35_method_10_code 34 = .ok (.iconst 0, 1) := by decide +kernel
theorem d1_35 : decode prog_35_method_10_code 35 = .ok (.ireturn, 1) := by decide +kernel
theorem pd_0 : parseMethodDescriptor "(I[I)Z" = some ⟨[.int, (.array .int)], some .boolean⟩ := by decide +kernel
theorem pn_0 : plainName "com/example/twigtrim/twigtrim/NodeTests$Numbering" = true := by first | (simp [plainName, overriddenIn]; done) | decide +kernel
theorem pn_1 : plainName "com/example/twigtrim/twigtrim/NumberingMatchesPinLaw" = true := by first | (simp [plainName, overriddenIn]; done) | decide +kernel
def fM : List Int32 → Int32 → Int32
  | [], _ => 0
  | x :: r, t => if x = t then 1 else fM r t
def Q1 (xs : List Int32) (t : Int32) (h0 : Heap) (n0 : Nat) (v : Option Value) (h : Heap) (L : List Loc) : Prop := v = some (.int (fM xs t)) ∧ Fr n0 L ∧ h = h0
set_option maxRecDepth 65536 in
set_option maxHeartbeats 40000000 in
theorem rm1_0 (l : Launch) (Z : State) (a0 : Array Value) (hw : ∀ d ∈ tables_1, d.before a0 Z = true) (ws : List Jvm.Cond) (t : Int32) (a : Addr) (f : Nat → Value) (h0 : Heap) (n0 : Nat) (Z0 : n0 ≤ h0.size) (F_a : AV Z h0 a .int 0 f)  :
    MetFree l (⟨"com/example/twigtrim/twigtrim/NodeTests$Numbering", "matches", "(I[I)Z"⟩ : MethodName) (head1 (Jvm.Cond.code (⟨"com/example/twigtrim/twigtrim/NodeTests$Numbering", "matches", "(I[I)Z"⟩ : MethodName) prog_35_method_10_code 6 (some .boolean) :: ws) ({ frames := 0, cells := 0, slots := 0, locals := 0 } : Room)) (fun av_ U_ => av_ = #[(.int t), (.ref a)] ∧ Z.Warmed39 U_.vm ∧ U_.heap = h0) (fun _ _ _ _ _ => True) (fun _ U_ o_ W_ => ∃ v_ L_, o_ = .returned v_ ∧ Q1 [] t h0 n0 v_ W_.heap L_ ∧ FrameEnd U_ o_ W_ L_ ({ frames := 0, cells := 0, slots := 0, locals := 0 } : Room).cells ({ frames := 0, cells := 0, slots := 0, locals := 0 } : Room).slots) := by
  refine own_start pn_0 ?_
  intro p e s m below meth c T0 X0 hx hby hml hown hnm hret hlk hZ e0
  have N0 := Fr.nil n0
  have M0 := Z0
  refine Go.cast (show entryFrame m #[(.int t), (.ref a)] 6 = (mkF m 0 #[.val (.int t), .val (.ref a), .unset, .unset, .unset, .unset] []) from (by first | (simp [entryFrame, mkF, argsToLocals, Value.category, maxLocals]; done) | rfl)) ?_
  refine g_aloadN X0 hx 1 (hb hby d1_0) rfl rfl rfl ?_
  refine g_astoreN X0 hx 2 (hb hby d1_1) rfl #[.val (.int t), .val (.ref a), .val (.ref a), .unset, .unset, .unset] rfl rfl ?_
  refine g_aloadN X0 hx 3 (hb hby d1_2) rfl rfl rfl ?_
  refine g_arrlen X0 hx hZ 4 e0 F_a (0 : Int32) (by decide) (hb hby d1_3) rfl ?_
  refine g_istoreN X0 hx 5 (hb hby d1_4) #[.val (.int t), .val (.ref a), .val (.ref a), .val (.int (0 : Int32)), .unset, .unset] rfl rfl ?_
  refine g_iconst X0 hx 6 (hb hby d1_5) (0 : Int32) (by decide) rfl ?_
  refine g_istore X0 hx 8 (hb hby d1_6) #[.val (.int t), .val (.ref a), .val (.ref a), .val (.int (0 : Int32)), .val (.int (0 : Int32)), .unset] rfl rfl ?_
  refine g_iload X0 hx 10 (hb hby d1_8) rfl rfl ?_
  refine g_iloadN X0 hx 11 (hb hby d1_10) rfl rfl ?_
  refine g_icT X0 hx 34 (hb hby d1_11) (by decide) (by decide) (by decide) ?_
  refine g_iconst X0 hx 35 (hb hby d1_34) (0 : Int32) (by decide) rfl ?_
  refine g_nret X0 hx (by simp) hret hlk (hb hby d1_35) (by decide) (by decide) ?_
  exact ⟨by simp [fM, nar], N0, e0⟩
set_option maxRecDepth 65536 in
set_option maxHeartbeats 40000000 in
theorem rm1_1 (l : Launch) (Z : State) (a0 : Array Value) (hw : ∀ d ∈ tables_1, d.before a0 Z = true) (ws : List Jvm.Cond) (g0 : Int32) (t : Int32) (a : Addr) (f : Nat → Value) (h0 : Heap) (n0 : Nat) (Z0 : n0 ≤ h0.size) (F_a : AV Z h0 a .int 1 f) (hf0 : f 0 = .int g0) :
    MetFree l (⟨"com/example/twigtrim/twigtrim/NodeTests$Numbering", "matches", "(I[I)Z"⟩ : MethodName) (head1 (Jvm.Cond.code (⟨"com/example/twigtrim/twigtrim/NodeTests$Numbering", "matches", "(I[I)Z"⟩ : MethodName) prog_35_method_10_code 6 (some .boolean) :: ws) ({ frames := 0, cells := 0, slots := 0, locals := 0 } : Room)) (fun av_ U_ => av_ = #[(.int t), (.ref a)] ∧ Z.Warmed39 U_.vm ∧ U_.heap = h0) (fun _ _ _ _ _ => True) (fun _ U_ o_ W_ => ∃ v_ L_, o_ = .returned v_ ∧ Q1 [g0] t h0 n0 v_ W_.heap L_ ∧ FrameEnd U_ o_ W_ L_ ({ frames := 0, cells := 0, slots := 0, locals := 0 } : Room).cells ({ frames := 0, cells := 0, slots := 0, locals := 0 } : Room).slots) := by
  refine own_start pn_0 ?_
  intro p e s m below meth c T0 X0 hx hby hml hown hnm hret hlk hZ e0
  have N0 := Fr.nil n0
  have M0 := Z0
  refine Go.cast (show entryFrame m #[(.int t), (.ref a)] 6 = (mkF m 0 #[.val (.int t), .val (.ref a), .unset, .unset, .unset, .unset] []) from (by first | (simp [entryFrame, mkF, argsToLocals, Value.category, maxLocals]; done) | rfl)) ?_
  refine g_aloadN X0 hx 1 (hb hby d1_0) rfl rfl rfl ?_
  refine g_astoreN X0 hx 2 (hb hby d1_1) rfl #[.val (.int t), .val (.ref a), .val (.ref a), .unset, .unset, .unset] rfl rfl ?_
  refine g_aloadN X0 hx 3 (hb hby d1_2) rfl rfl rfl ?_
  refine g_arrlen X0 hx hZ 4 e0 F_a (1 : Int32) (by decide) (hb hby d1_3) rfl ?_
  refine g_istoreN X0 hx 5 (hb hby d1_4) #[.val (.int t), .val (.ref a), .val (.ref a), .val (.int (1 : Int32)), .unset, .unset] rfl rfl ?_
  refine g_iconst X0 hx 6 (hb hby d1_5) (0 : Int32) (by decide) rfl ?_
  refine g_istore X0 hx 8 (hb hby d1_6) #[.val (.int t), .val (.ref a), .val (.ref a), .val (.int (1 : Int32)), .val (.int (0 : Int32)), .unset] rfl rfl ?_
  refine g_iload X0 hx 10 (hb hby d1_8) rfl rfl ?_
  refine g_iloadN X0 hx 11 (hb hby d1_10) rfl rfl ?_
  refine g_icF X0 hx 14 (hb hby d1_11) (by decide) rfl ?_
  refine g_aloadN X0 hx 15 (hb hby d1_14) rfl rfl rfl ?_
  refine g_iload X0 hx 17 (hb hby d1_15) rfl rfl ?_
  refine g_iaload X0 hx hZ 18 e0 F_a (hb hby d1_17) (0) (by decide) (by decide) (.int g0) hf0 rfl ?_
  refine g_istore X0 hx 20 (hb hby d1_18) #[.val (.int t), .val (.ref a), .val (.ref a), .val (.int (1 : Int32)), .val (.int (0 : Int32)), .val (.int g0)] rfl rfl ?_
  refine g_iload X0 hx 22 (hb hby d1_20) rfl rfl ?_
  refine g_iloadN X0 hx 23 (hb hby d1_22) rfl rfl ?_
  by_cases c23 : g0 = t
  · refine g_icF X0 hx 26 (hb hby d1_23) (Jvm.Free.XT.ii_ne_f c23) rfl ?_
    refine g_iconst X0 hx 27 (hb hby d1_26) (1 : Int32) (by decide) rfl ?_
    refine g_nret X0 hx (by simp) hret hlk (hb hby d1_27) (by decide) (by decide) ?_
    exact ⟨by simp [fM, nar, c23], N0, e0⟩
  · refine g_icT X0 hx 28 (hb hby d1_23) (Jvm.Free.XT.ii_ne_t c23) (by decide) (by decide) ?_
    refine g_iincC X0 hx 31 (hb hby d1_28) (1 : Int32) (1 : Int32) (by decide) (by decide) rfl #[.val (.int t), .val (.ref a), .val (.ref a), .val (.int (1 : Int32)), .val (.int (1 : Int32)), .val (.int g0)] rfl rfl ?_
    refine g_goto X0 hx 8 (hb hby d1_31) (by decide) (by decide) ?_
    refine g_iload X0 hx 10 (hb hby d1_8) rfl rfl ?_
    refine g_iloadN X0 hx 11 (hb hby d1_10) rfl rfl ?_
    refine g_icT X0 hx 34 (hb hby d1_11) (by decide) (by decide) (by decide) ?_
    refine g_iconst X0 hx 35 (hb hby d1_34) (0 : Int32) (by decide) rfl ?_
    refine g_nret X0 hx (by simp) hret hlk (hb hby d1_35) (by decide) (by decide) ?_
    exact ⟨by simp [fM, nar, c23], N0, e0⟩
set_option maxRecDepth 65536 in
set_option maxHeartbeats 40000000 in
theorem rm1_2 (l : Launch) (Z : State) (a0 : Array Value) (hw : ∀ d ∈ tables_1, d.before a0 Z = true) (ws : List Jvm.Cond) (g0 g1 : Int32) (t : Int32) (a : Addr) (f : Nat → Value) (h0 : Heap) (n0 : Nat) (Z0 : n0 ≤ h0.size) (F_a : AV Z h0 a .int 2 f) (hf0 : f 0 = .int g0) (hf1 : f 1 = .int g1) :
    MetFree l (⟨"com/example/twigtrim/twigtrim/NodeTests$Numbering", "matches", "(I[I)Z"⟩ : MethodName) (head1 (Jvm.Cond.code (⟨"com/example/twigtrim/twigtrim/NodeTests$Numbering", "matches", "(I[I)Z"⟩ : MethodName) prog_35_method_10_code 6 (some .boolean) :: ws) ({ frames := 0, cells := 0, slots := 0, locals := 0 } : Room)) (fun av_ U_ => av_ = #[(.int t), (.ref a)] ∧ Z.Warmed39 U_.vm ∧ U_.heap = h0) (fun _ _ _ _ _ => True) (fun _ U_ o_ W_ => ∃ v_ L_, o_ = .returned v_ ∧ Q1 [g0, g1] t h0 n0 v_ W_.heap L_ ∧ FrameEnd U_ o_ W_ L_ ({ frames := 0, cells := 0, slots := 0, locals := 0 } : Room).cells ({ frames := 0, cells := 0, slots := 0, locals := 0 } : Room).slots) := by
  refine own_start pn_0 ?_
  intro p e s m below meth c T0 X0 hx hby hml hown hnm hret hlk hZ e0
  have N0 := Fr.nil n0
  have M0 := Z0
  refine Go.cast (show entryFrame m #[(.int t), (.ref a)] 6 = (mkF m 0 #[.val (.int t), .val (.ref a), .unset, .unset, .unset, .unset] []) from (by first | (simp [entryFrame, mkF, argsToLocals, Value.category, maxLocals]; done) | rfl)) ?_
  refine g_aloadN X0 hx 1 (hb hby d1_0) rfl rfl rfl ?_
  refine g_astoreN X0 hx 2 (hb hby d1_1) rfl #[.val (.int t), .val (.ref a), .val (.ref a), .unset, .unset, .unset] rfl rfl ?_
  refine g_aloadN X0 hx 3 (hb hby d1_2) rfl rfl rfl ?_
  refine g_arrlen X0 hx hZ 4 e0 F_a (2 : Int32) (by decide) (hb hby d1_3) rfl ?_
  refine g_istoreN X0 hx 5 (hb hby d1_4) #[.val (.int t), .val (.ref a), .val (.ref a), .val (.int (2 : Int32)), .unset, .unset] rfl rfl ?_
  refine g_iconst X0 hx 6 (hb hby d1_5) (0 : Int32) (by decide) rfl ?_
  refine g_istore X0 hx 8 (hb hby d1_6) #[.val (.int t), .val (.ref a), .val (.ref a), .val (.int (2 : Int32)), .val (.int (0 : Int32)), .unset] rfl rfl ?_
  refine g_iload X0 hx 10 (hb hby d1_8) rfl rfl ?_
  refine g_iloadN X0 hx 11 (hb hby d1_10) rfl rfl ?_
  refine g_icF X0 hx 14 (hb hby d1_11) (by decide) rfl ?_
  refine g_aloadN X0 hx 15 (hb hby d1_14) rfl rfl rfl ?_
  refine g_iload X0 hx 17 (hb hby d1_15) rfl rfl ?_
  refine g_iaload X0 hx hZ 18 e0 F_a (hb hby d1_17) (0) (by decide) (by decide) (.int g0) hf0 rfl ?_
  refine g_istore X0 hx 20 (hb hby d1_18) #[.val (.int t), .val (.ref a), .val (.ref a), .val (.int (2 : Int32)), .val (.int (0 : Int32)), .val (.int g0)] rfl rfl ?_
  refine g_iload X0 hx 22 (hb hby d1_20) rfl rfl ?_
  refine g_iloadN X0 hx 23 (hb hby d1_22) rfl rfl ?_
  by_cases c23 : g0 = t
  · refine g_icF X0 hx 26 (hb hby d1_23) (Jvm.Free.XT.ii_ne_f c23) rfl ?_
    refine g_iconst X0 hx 27 (hb hby d1_26) (1 : Int32) (by decide) rfl ?_
    refine g_nret X0 hx (by simp) hret hlk (hb hby d1_27) (by decide) (by decide) ?_
    exact ⟨by simp [fM, nar, c23], N0, e0⟩
  · refine g_icT X0 hx 28 (hb hby d1_23) (Jvm.Free.XT.ii_ne_t c23) (by decide) (by decide) ?_
    refine g_iincC X0 hx 31 (hb hby d1_28) (1 : Int32) (1 : Int32) (by decide) (by decide) rfl #[.val (.int t), .val (.ref a), .val (.ref a), .val (.int (2 : Int32)), .val (.int (1 : Int32)), .val (.int g0)] rfl rfl ?_
    refine g_goto X0 hx 8 (hb hby d1_31) (by decide) (by decide) ?_
    refine g_iload X0 hx 10 (hb hby d1_8) rfl rfl ?_
    refine g_iloadN X0 hx 11 (hb hby d1_10) rfl rfl ?_
    refine g_icF X0 hx 14 (hb hby d1_11) (by decide) rfl ?_
    refine g_aloadN X0 hx 15 (hb hby d1_14) rfl rfl rfl ?_
    refine g_iload X0 hx 17 (hb hby d1_15) rfl rfl ?_
    refine g_iaload X0 hx hZ 18 e0 F_a (hb hby d1_17) (1) (by decide) (by decide) (.int g1) hf1 rfl ?_
    refine g_istore X0 hx 20 (hb hby d1_18) #[.val (.int t), .val (.ref a), .val (.ref a), .val (.int (2 : Int32)), .val (.int (1 : Int32)), .val (.int g1)] rfl rfl ?_
    refine g_iload X0 hx 22 (hb hby d1_20) rfl rfl ?_
    refine g_iloadN X0 hx 23 (hb hby d1_22) rfl rfl ?_
    by_cases c23_1 : g1 = t
    · refine g_icF X0 hx 26 (hb hby d1_23) (Jvm.Free.XT.ii_ne_f c23_1) rfl ?_
      refine g_iconst X0 hx 27 (hb hby d1_26) (1 : Int32) (by decide) rfl ?_
      refine g_nret X0 hx (by simp) hret hlk (hb hby d1_27) (by decide) (by decide) ?_
      exact ⟨by simp [fM, nar, c23, c23_1], N0, e0⟩
    · refine g_icT X0 hx 28 (hb hby d1_23) (Jvm.Free.XT.ii_ne_t c23_1) (by decide) (by decide) ?_
      refine g_iincC X0 hx 31 (hb hby d1_28) (1 : Int32) (2 : Int32) (by decide) (by decide) rfl #[.val (.int t), .val (.ref a), .val (.ref a), .val (.int (2 : Int32)), .val (.int (2 : Int32)), .val (.int g1)] rfl rfl ?_
      refine g_goto X0 hx 8 (hb hby d1_31) (by decide) (by decide) ?_
      refine g_iload X0 hx 10 (hb hby d1_8) rfl rfl ?_
      refine g_iloadN X0 hx 11 (hb hby d1_10) rfl rfl ?_
      refine g_icT X0 hx 34 (hb hby d1_11) (by decide) (by decide) (by decide) ?_
      refine g_iconst X0 hx 35 (hb hby d1_34) (0 : Int32) (by decide) rfl ?_
      refine g_nret X0 hx (by simp) hret hlk (hb hby d1_35) (by decide) (by decide) ?_
      exact ⟨by simp [fM, nar, c23, c23_1], N0, e0⟩
set_option maxRecDepth 65536 in
set_option maxHeartbeats 40000000 in
theorem rm1_3 (l : Launch) (Z : State) (a0 : Array Value) (hw : ∀ d ∈ tables_1, d.before a0 Z = true) (ws : List Jvm.Cond) (g0 g1 g2 : Int32) (t : Int32) (a : Addr) (f : Nat → Value) (h0 : Heap) (n0 : Nat) (Z0 : n0 ≤ h0.size) (F_a : AV Z h0 a .int 3 f) (hf0 : f 0 = .int g0) (hf1 : f 1 = .int g1) (hf2 : f 2 = .int g2) :
    MetFree l (⟨"com/example/twigtrim/twigtrim/NodeTests$Numbering", "matches", "(I[I)Z"⟩ : MethodName) (head1 (Jvm.Cond.code (⟨"com/example/twigtrim/twigtrim/NodeTests$Numbering", "matches", "(I[I)Z"⟩ : MethodName) prog_35_method_10_code 6 (some .boolean) :: ws) ({ frames := 0, cells := 0, slots := 0, locals := 0 } : Room)) (fun av_ U_ => av_ = #[(.int t), (.ref a)] ∧ Z.Warmed39 U_.vm ∧ U_.heap = h0) (fun _ _ _ _ _ => True) (fun _ U_ o_ W_ => ∃ v_ L_, o_ = .returned v_ ∧ Q1 [g0, g1, g2] t h0 n0 v_ W_.heap L_ ∧ FrameEnd U_ o_ W_ L_ ({ frames := 0, cells := 0, slots := 0, locals := 0 } : Room).cells ({ frames := 0, cells := 0, slots := 0, locals := 0 } : Room).slots) := by
  refine own_start pn_0 ?_
  intro p e s m below meth c T0 X0 hx hby hml hown hnm hret hlk hZ e0
  have N0 := Fr.nil n0
  have M0 := Z0
  refine Go.cast (show entryFrame m #[(.int t), (.ref a)] 6 = (mkF m 0 #[.val (.int t), .val (.ref a), .unset, .unset, .unset, .unset] []) from (by first | (simp [entryFrame, mkF, argsToLocals, Value.category, maxLocals]; done) | rfl)) ?_
  refine g_aloadN X0 hx 1 (hb hby d1_0) rfl rfl rfl ?_
  refine g_astoreN X0 hx 2 (hb hby d1_1) rfl #[.val (.int t), .val (.ref a), .val (.ref a), .unset, .unset, .unset] rfl rfl ?_
  refine g_aloadN X0 hx 3 (hb hby d1_2) rfl rfl rfl ?_
  refine g_arrlen X0 hx hZ 4 e0 F_a (3 : Int32) (by decide) (hb hby d1_3) rfl ?_
  refine g_istoreN X0 hx 5 (hb hby d1_4) #[.val (.int t), .val (.ref a), .val (.ref a), .val (.int (3 : Int32)), .unset, .unset] rfl rfl ?_
  refine g_iconst X0 hx 6 (hb hby d1_5) (0 : Int32) (by decide) rfl ?_
  refine g_istore X0 hx 8 (hb hby d1_6) #[.val (.int t), .val (.ref a), .val (.ref a), .val (.int (3 : Int32)), .val (.int (0 : Int32)), .unset] rfl rfl ?_
  refine g_iload X0 hx 10 (hb hby d1_8) rfl rfl ?_
  refine g_iloadN X0 hx 11 (hb hby d1_10) rfl rfl ?_
  refine g_icF X0 hx 14 (hb hby d1_11) (by decide) rfl ?_
  refine g_aloadN X0 hx 15 (hb hby d1_14) rfl rfl rfl ?_
  refine g_iload X0 hx 17 (hb hby d1_15) rfl rfl ?_
  refine g_iaload X0 hx hZ 18 e0 F_a (hb hby d1_17) (0) (by decide) (by decide) (.int g0) hf0 rfl ?_
  refine g_istore X0 hx 20 (hb hby d1_18) #[.val (.int t), .val (.ref a), .val (.ref a), .val (.int (3 : Int32)), .val (.int (0 : Int32)), .val (.int g0)] rfl rfl ?_
  refine g_iload X0 hx 22 (hb hby d1_20) rfl rfl ?_
  refine g_iloadN X0 hx 23 (hb hby d1_22) rfl rfl ?_
  by_cases c23 : g0 = t
  · refine g_icF X0 hx 26 (hb hby d1_23) (Jvm.Free.XT.ii_ne_f c23) rfl ?_
    refine g_iconst X0 hx 27 (hb hby d1_26) (1 : Int32) (by decide) rfl ?_
    refine g_nret X0 hx (by simp) hret hlk (hb hby d1_27) (by decide) (by decide) ?_
    exact ⟨by simp [fM, nar, c23], N0, e0⟩
  · refine g_icT X0 hx 28 (hb hby d1_23) (Jvm.Free.XT.ii_ne_t c23) (by decide) (by decide) ?_
    refine g_iincC X0 hx 31 (hb hby d1_28) (1 : Int32) (1 : Int32) (by decide) (by decide) rfl #[.val (.int t), .val (.ref a), .val (.ref a), .val (.int (3 : Int32)), .val (.int (1 : Int32)), .val (.int g0)] rfl rfl ?_
    refine g_goto X0 hx 8 (hb hby d1_31) (by decide) (by decide) ?_
    refine g_iload X0 hx 10 (hb hby d1_8) rfl rfl ?_
    refine g_iloadN X0 hx 11 (hb hby d1_10) rfl rfl ?_
    refine g_icF X0 hx 14 (hb hby d1_11) (by decide) rfl ?_
    refine g_aloadN X0 hx 15 (hb hby d1_14) rfl rfl rfl ?_
    refine g_iload X0 hx 17 (hb hby d1_15) rfl rfl ?_
    refine g_iaload X0 hx hZ 18 e0 F_a (hb hby d1_17) (1) (by decide) (by decide) (.int g1) hf1 rfl ?_
    refine g_istore X0 hx 20 (hb hby d1_18) #[.val (.int t), .val (.ref a), .val (.ref a), .val (.int (3 : Int32)), .val (.int (1 : Int32)), .val (.int g1)] rfl rfl ?_
    refine g_iload X0 hx 22 (hb hby d1_20) rfl rfl ?_
    refine g_iloadN X0 hx 23 (hb hby d1_22) rfl rfl ?_
    by_cases c23_1 : g1 = t
    · refine g_icF X0 hx 26 (hb hby d1_23) (Jvm.Free.XT.ii_ne_f c23_1) rfl ?_
      refine g_iconst X0 hx 27 (hb hby d1_26) (1 : Int32) (by decide) rfl ?_
      refine g_nret X0 hx (by simp) hret hlk (hb hby d1_27) (by decide) (by decide) ?_
      exact ⟨by simp [fM, nar, c23, c23_1], N0, e0⟩
    · refine g_icT X0 hx 28 (hb hby d1_23) (Jvm.Free.XT.ii_ne_t c23_1) (by decide) (by decide) ?_
      refine g_iincC X0 hx 31 (hb hby d1_28) (1 : Int32) (2 : Int32) (by decide) (by decide) rfl #[.val (.int t), .val (.ref a), .val (.ref a), .val (.int (3 : Int32)), .val (.int (2 : Int32)), .val (.int g1)] rfl rfl ?_
      refine g_goto X0 hx 8 (hb hby d1_31) (by decide) (by decide) ?_
      refine g_iload X0 hx 10 (hb hby d1_8) rfl rfl ?_
      refine g_iloadN X0 hx 11 (hb hby d1_10) rfl rfl ?_
      refine g_icF X0 hx 14 (hb hby d1_11) (by decide) rfl ?_
      refine g_aloadN X0 hx 15 (hb hby d1_14) rfl rfl rfl ?_
      refine g_iload X0 hx 17 (hb hby d1_15) rfl rfl ?_
      refine g_iaload X0 hx hZ 18 e0 F_a (hb hby d1_17) (2) (by decide) (by decide) (.int g2) hf2 rfl ?_
      refine g_istore X0 hx 20 (hb hby d1_18) #[.val (.int t), .val (.ref a), .val (.ref a), .val (.int (3 : Int32)), .val (.int (2 : Int32)), .val (.int g2)] rfl rfl ?_
      refine g_iload X0 hx 22 (hb hby d1_20) rfl rfl ?_
      refine g_iloadN X0 hx 23 (hb hby d1_22) rfl rfl ?_
      by_cases c23_2 : g2 = t
      · refine g_icF X0 hx 26 (hb hby d1_23) (Jvm.Free.XT.ii_ne_f c23_2) rfl ?_
        refine g_iconst X0 hx 27 (hb hby d1_26) (1 : Int32) (by decide) rfl ?_
        refine g_nret X0 hx (by simp) hret hlk (hb hby d1_27) (by decide) (by decide) ?_
        exact ⟨by simp [fM, nar, c23, c23_1, c23_2], N0, e0⟩
      · refine g_icT X0 hx 28 (hb hby d1_23) (Jvm.Free.XT.ii_ne_t c23_2) (by decide) (by decide) ?_
        refine g_iincC X0 hx 31 (hb hby d1_28) (1 : Int32) (3 : Int32) (by decide) (by decide) rfl #[.val (.int t), .val (.ref a), .val (.ref a), .val (.int (3 : Int32)), .val (.int (3 : Int32)), .val (.int g2)] rfl rfl ?_
        refine g_goto X0 hx 8 (hb hby d1_31) (by decide) (by decide) ?_
        refine g_iload X0 hx 10 (hb hby d1_8) rfl rfl ?_
        refine g_iloadN X0 hx 11 (hb hby d1_10) rfl rfl ?_
        refine g_icT X0 hx 34 (hb hby d1_11) (by decide) (by decide) (by decide) ?_
        refine g_iconst X0 hx 35 (hb hby d1_34) (0 : Int32) (by decide) rfl ?_
        refine g_nret X0 hx (by simp) hret hlk (hb hby d1_35) (by decide) (by decide) ?_
        exact ⟨by simp [fM, nar, c23, c23_1, c23_2], N0, e0⟩
def Q0 (n0 : Nat) (v : Option Value) (h : Heap) (L : List Loc) : Prop := v = some (.int 1) ∧ Fr n0 L
set_option maxRecDepth 65536 in
set_option maxHeartbeats 40000000 in
theorem rm0 (l : Launch) (Z : State) (a0 : Array Value) (hw : ∀ d ∈ tables_1, d.before a0 Z = true) (ws : List Jvm.Cond) (x0 x1 x2 x3 x4 : Int32) (h0 : Heap) (n0 : Nat) (Z0 : n0 ≤ h0.size)  :
    MetFree l x (head1 (Jvm.Cond.code x code maxLocals ret :: ws) room_1) (fun av_ U_ => av_ = #[(.int x0), (.int x1), (.int x2), (.int x3), (.int x4)] ∧ Z.Warmed39 U_.vm ∧ U_.heap = h0) (fun _ _ _ _ _ => True) (fun _ U_ o_ W_ => ∃ v_ L_, o_ = .returned v_ ∧ Q0 n0 v_ W_.heap L_ ∧ FrameEnd U_ o_ W_ L_ room_1.cells room_1.slots) := by
  refine own_start pn_1 ?_
  intro p e s m below meth c T0 X0 hx hby hml hown hnm hret hlk hZ e0
  have N0 := Fr.nil n0
  have M0 := Z0
  refine Go.cast (show entryFrame m #[(.int x0), (.int x1), (.int x2), (.int x3), (.int x4)] maxLocals = (mkF m 0 #[.val (.int x0), .val (.int x1), .val (.int x2), .val (.int x3), .val (.int x4), .unset, .unset, .unset, .unset, .unset, .unset, .unset] []) from (by first | (simp [entryFrame, mkF, argsToLocals, Value.category, maxLocals]; done) | rfl)) ?_
  refine g_iload X0 hx 2 (hb hby at_0) rfl rfl ?_
  refine g_iconst X0 hx 3 (hb hby at_2) (3 : Int32) (by decide) rfl ?_
  refine g_iand X0 hx 4 (hb hby at_3) rfl ?_
  refine g_istore X0 hx 6 (hb hby at_4) #[.val (.int x0), .val (.int x1), .val (.int x2), .val (.int x3), .val (.int x4), .val (.int (x4 &&& (3 : Int32))), .unset, .unset, .unset, .unset, .unset, .unset] rfl rfl ?_
  generalize h_n : (x4 &&& (3 : Int32)) = n
  refine g_iload X0 hx 8 (hb hby at_6) rfl rfl ?_
  refine g_iconst X0 hx 9 (hb hby at_8) (2 : Int32) (by decide) rfl ?_
  refine g_iushr X0 hx 10 (hb hby at_9) rfl ?_
  refine g_iconst X0 hx 11 (hb hby at_10) (3 : Int32) (by decide) rfl ?_
  refine g_iand X0 hx 12 (hb hby at_11) rfl ?_
  refine g_istore X0 hx 14 (hb hby at_12) #[.val (.int x0), .val (.int x1), .val (.int x2), .val (.int x3), .val (.int x4), .val (.int n), .val (.int (((x4.toUInt32 >>> ((2 : Int32) &&& 31).toUInt32).toInt32) &&& (3 : Int32))), .unset, .unset, .unset, .unset, .unset] rfl rfl ?_
  generalize h_pick : (((x4.toUInt32 >>> ((2 : Int32) &&& 31).toUInt32).toInt32) &&& (3 : Int32)) = pick
  have rn := c_mask x4 3 2 (by decide) (by decide)
  rw [h_n] at rn
  refine g_iloadN X0 hx 15 (hb hby at_14) rfl rfl ?_
  refine g_istore X0 hx 17 (hb hby at_15) #[.val (.int x0), .val (.int x1), .val (.int x2), .val (.int x3), .val (.int x4), .val (.int n), .val (.int pick), .val (.int x0), .unset, .unset, .unset, .unset] rfl rfl ?_
  have J50 : ∀ (t : Int32), Go p e below (Qend s (Q0 n0) room_1.cells room_1.slots) T0 (mkF m 50 #[.val (.int x0), .val (.int x1), .val (.int x2), .val (.int x3), .val (.int x4), .val (.int n), .val (.int pick), .val (.int t), .unset, .unset, .unset, .unset] []) := by
    intro t
    rcases (show n = 0 ∨ n = 1 ∨ n = 2 ∨ n = 3 from by
        have z0 : (0 : Int32).toInt = 0 := by decide
        have z1 : (1 : Int32).toInt = 1 := by decide
        have z2 : (2 : Int32).toInt = 2 := by decide
        have z3 : (3 : Int32).toInt = 3 := by decide
        simp only [← Int32.toInt_inj, z0, z1, z2, z3]; omega) with rfl | rfl | rfl | rfl
    · skip
      refine g_iload X0 hx 52 (hb hby at_50) rfl rfl ?_
      refine g_newarr X0 hx hZ 54 (hw _ (List.mem_of_getElem? (i := 0) rfl)) e0 (hb hby at_52) (0) (by decide) 0 (by decide) (by decide) (by decide) (by decide) rfl ?_
      intro T1 arr X1 E1 g_arr F_arr
      have e1 : T1.heap = T1.heap := rfl
      have N1 := N0
      have Z_arr : n0 ≤ arr := by rw [g_arr]; exact M0
      have M1 : n0 ≤ T1.heap.size := Nat.le_trans M0 E1.1
      refine g_astore X1 hx 56 (hb hby at_54) rfl #[.val (.int x0), .val (.int x1), .val (.int x2), .val (.int x3), .val (.int x4), .val (.int (0 : Int32)), .val (.int pick), .val (.int t), .val (.ref arr), .unset, .unset, .unset] rfl rfl ?_
      refine g_iload X1 hx 58 (hb hby at_56) rfl rfl ?_
      refine g_ifT X1 hx 66 (hb hby at_58) (by decide) (by decide) (by decide) ?_
      refine g_iload X1 hx 68 (hb hby at_66) rfl rfl ?_
      refine g_iconst X1 hx 69 (hb hby at_68) (1 : Int32) (by decide) rfl ?_
      refine g_icT X1 hx 77 (hb hby at_69) (by decide) (by decide) (by decide) ?_
      refine g_iload X1 hx 79 (hb hby at_77) rfl rfl ?_
      refine g_iconst X1 hx 80 (hb hby at_79) (2 : Int32) (by decide) rfl ?_
      refine g_icT X1 hx 88 (hb hby at_80) (by decide) (by decide) (by decide) ?_
      refine g_iload X1 hx 90 (hb hby at_88) rfl rfl ?_
      refine g_ifT X1 hx 99 (hb hby at_90) (by decide) (by decide) (by decide) ?_
      refine g_iload X1 hx 101 (hb hby at_99) rfl rfl ?_
      refine g_iconst X1 hx 102 (hb hby at_101) (1 : Int32) (by decide) rfl ?_
      refine g_icT X1 hx 111 (hb hby at_102) (by decide) (by decide) (by decide) ?_
      refine g_iload X1 hx 113 (hb hby at_111) rfl rfl ?_
      refine g_iconst X1 hx 114 (hb hby at_113) (2 : Int32) (by decide) rfl ?_
      refine g_icT X1 hx 127 (hb hby at_114) (by decide) (by decide) (by decide) ?_
      refine g_iconst X1 hx 128 (hb hby at_127) (0 : Int32) (by decide) rfl ?_
      refine g_istore X1 hx 130 (hb hby at_128) #[.val (.int x0), .val (.int x1), .val (.int x2), .val (.int x3), .val (.int x4), .val (.int (0 : Int32)), .val (.int pick), .val (.int t), .val (.ref arr), .val (.int (0 : Int32)), .unset, .unset] rfl rfl ?_
      refine g_iload X1 hx 132 (hb hby at_130) rfl rfl ?_
      refine g_aload X1 hx 134 (hb hby at_132) rfl rfl rfl ?_
      refine g_callS X1 hx hZ 137 [(.int t), (.ref arr)] [] 0 hown (hw _ (List.mem_of_getElem? (i := 1) rfl)) (hw _ (List.mem_of_getElem? (i := 2) rfl)) (hw _ (List.mem_of_getElem? (i := 3) rfl)) (hw _ (List.mem_of_getElem? (i := 4) rfl)) (by decide) e1 (rm1_0 l Z a0 hw []  t arr _ T1.heap n0 M1 F_arr) (by decide) (by decide) (by decide) (by decide) (by rw [hml]; rfl) rfl pd_0 rfl (Nat.le_of_eq rfl) (hb hby at_134) rfl ?_
      intro v2 T2 L2 X2 q2
      obtain ⟨rfl, Nq2, e2⟩ := q2
      have N2 := Fr.app N1 Nq2
      have M2 := M1
      rw [show fM [] t = 0 from by simp [fM]]
      refine g_istore X2 hx 139 (hb hby at_137) #[.val (.int x0), .val (.int x1), .val (.int x2), .val (.int x3), .val (.int x4), .val (.int (0 : Int32)), .val (.int pick), .val (.int t), .val (.ref arr), .val (.int (0 : Int32)), .val (.int (0 : Int32)), .unset] rfl rfl ?_
      refine g_iconst X2 hx 140 (hb hby at_139) (1 : Int32) (by decide) rfl ?_
      refine g_istore X2 hx 142 (hb hby at_140) #[.val (.int x0), .val (.int x1), .val (.int x2), .val (.int x3), .val (.int x4), .val (.int (0 : Int32)), .val (.int pick), .val (.int t), .val (.ref arr), .val (.int (0 : Int32)), .val (.int (0 : Int32)), .val (.int (1 : Int32))] rfl rfl ?_
      refine g_iload X2 hx 144 (hb hby at_142) rfl rfl ?_
      refine g_ifT X2 hx 158 (hb hby at_144) (by decide) (by decide) (by decide) ?_
      refine g_iload X2 hx 160 (hb hby at_158) rfl rfl ?_
      refine g_iconst X2 hx 161 (hb hby at_160) (1 : Int32) (by decide) rfl ?_
      refine g_icT X2 hx 175 (hb hby at_161) (by decide) (by decide) (by decide) ?_
      refine g_iload X2 hx 177 (hb hby at_175) rfl rfl ?_
      refine g_iconst X2 hx 178 (hb hby at_177) (2 : Int32) (by decide) rfl ?_
      refine g_icT X2 hx 192 (hb hby at_178) (by decide) (by decide) (by decide) ?_
      refine g_iload X2 hx 194 (hb hby at_192) rfl rfl ?_
      refine g_iload X2 hx 196 (hb hby at_194) rfl rfl ?_
      refine g_icF X2 hx 199 (hb hby at_196) (by decide) rfl ?_
      refine g_iload X2 hx 201 (hb hby at_199) rfl rfl ?_
      refine g_ifF X2 hx 204 (hb hby at_201) (by decide) rfl ?_
      refine g_iconst X2 hx 205 (hb hby at_204) (1 : Int32) (by decide) rfl ?_
      refine g_goto X2 hx 209 (hb hby at_205) (by decide) (by decide) ?_
      refine g_nret X2 hx (by simp) hret hlk (hb hby at_209) (by decide) (by decide) ?_
      exact ⟨rfl, N2⟩
    · skip
      refine g_iload X0 hx 52 (hb hby at_50) rfl rfl ?_
      refine g_newarr X0 hx hZ 54 (hw _ (List.mem_of_getElem? (i := 0) rfl)) e0 (hb hby at_52) (1) (by decide) 1 (by decide) (by decide) (by decide) (by decide) rfl ?_
      intro T3 arr X3 E3 g_arr F_arr
      have e3 : T3.heap = T3.heap := rfl
      have N3 := N0
      have Z_arr : n0 ≤ arr := by rw [g_arr]; exact M0
      have M3 : n0 ≤ T3.heap.size := Nat.le_trans M0 E3.1
      refine g_astore X3 hx 56 (hb hby at_54) rfl #[.val (.int x0), .val (.int x1), .val (.int x2), .val (.int x3), .val (.int x4), .val (.int (1 : Int32)), .val (.int pick), .val (.int t), .val (.ref arr), .unset, .unset, .unset] rfl rfl ?_
      refine g_iload X3 hx 58 (hb hby at_56) rfl rfl ?_
      refine g_ifF X3 hx 61 (hb hby at_58) (by decide) rfl ?_
      refine g_aload X3 hx 63 (hb hby at_61) rfl rfl rfl ?_
      refine g_iconst X3 hx 64 (hb hby at_63) (0 : Int32) (by decide) rfl ?_
      refine g_iloadN X3 hx 65 (hb hby at_64) rfl rfl ?_
      refine g_iastore X3 hx hZ 66 e3 F_arr (hb hby at_65) (0) (by decide) (by decide) rfl ?_
      intro T4 X4 W4 G4
      replace F_arr := G4
      have e4 : T4.heap = T4.heap := rfl
      have N4 := Fr.snoc X4 N3 Z_arr
      have M4 : n0 ≤ T4.heap.size := by rw [W4.size]; exact M3
      refine g_iload X4 hx 68 (hb hby at_66) rfl rfl ?_
      refine g_iconst X4 hx 69 (hb hby at_68) (1 : Int32) (by decide) rfl ?_
      refine g_icT X4 hx 77 (hb hby at_69) (by decide) (by decide) (by decide) ?_
      refine g_iload X4 hx 79 (hb hby at_77) rfl rfl ?_
      refine g_iconst X4 hx 80 (hb hby at_79) (2 : Int32) (by decide) rfl ?_
      refine g_icT X4 hx 88 (hb hby at_80) (by decide) (by decide) (by decide) ?_
      refine g_iload X4 hx 90 (hb hby at_88) rfl rfl ?_
      refine g_ifF X4 hx 93 (hb hby at_90) (by decide) rfl ?_
      refine g_iloadN X4 hx 94 (hb hby at_93) rfl rfl ?_
      refine g_iload X4 hx 96 (hb hby at_94) rfl rfl ?_
      by_cases c96 : x1 = t
      · refine g_icT X4 hx 123 (hb hby at_96) (Jvm.Free.XT.ii_eq_t c96) (by decide) (by decide) ?_
        refine g_iconst X4 hx 124 (hb hby at_123) (1 : Int32) (by decide) rfl ?_
        refine g_goto X4 hx 128 (hb hby at_124) (by decide) (by decide) ?_
        refine g_istore X4 hx 130 (hb hby at_128) #[.val (.int x0), .val (.int x1), .val (.int x2), .val (.int x3), .val (.int x4), .val (.int (1 : Int32)), .val (.int pick), .val (.int t), .val (.ref arr), .val (.int (1 : Int32)), .unset, .unset] rfl rfl ?_
        refine g_iload X4 hx 132 (hb hby at_130) rfl rfl ?_
        refine g_aload X4 hx 134 (hb hby at_132) rfl rfl rfl ?_
        refine g_callS X4 hx hZ 137 [(.int t), (.ref arr)] [] 0 hown (hw _ (List.mem_of_getElem? (i := 1) rfl)) (hw _ (List.mem_of_getElem? (i := 2) rfl)) (hw _ (List.mem_of_getElem? (i := 3) rfl)) (hw _ (List.mem_of_getElem? (i := 4) rfl)) (by decide) e4 (rm1_1 l Z a0 hw [] x1 t arr _ T4.heap n0 M4 F_arr rfl) (by decide) (by decide) (by decide) (by decide) (by rw [hml]; rfl) rfl pd_0 rfl (Nat.le_of_eq rfl) (hb hby at_134) rfl ?_
        intro v5 T5 L5 X5 q5
        obtain ⟨rfl, Nq5, e5⟩ := q5
        have N5 := Fr.app N4 Nq5
        have M5 := M4
        rw [show fM [x1] t = 1 from by simp [fM, c96]]
        refine g_istore X5 hx 139 (hb hby at_137) #[.val (.int x0), .val (.int x1), .val (.int x2), .val (.int x3), .val (.int x4), .val (.int (1 : Int32)), .val (.int pick), .val (.int t), .val (.ref arr), .val (.int (1 : Int32)), .val (.int (1 : Int32)), .unset] rfl rfl ?_
        refine g_iconst X5 hx 140 (hb hby at_139) (1 : Int32) (by decide) rfl ?_
        refine g_istore X5 hx 142 (hb hby at_140) #[.val (.int x0), .val (.int x1), .val (.int x2), .val (.int x3), .val (.int x4), .val (.int (1 : Int32)), .val (.int pick), .val (.int t), .val (.ref arr), .val (.int (1 : Int32)), .val (.int (1 : Int32)), .val (.int (1 : Int32))] rfl rfl ?_
        refine g_iload X5 hx 144 (hb hby at_142) rfl rfl ?_
        refine g_ifF X5 hx 147 (hb hby at_144) (by decide) rfl ?_
        refine g_aload X5 hx 149 (hb hby at_147) rfl rfl rfl ?_
        refine g_iconst X5 hx 150 (hb hby at_149) (0 : Int32) (by decide) rfl ?_
        refine g_iaload X5 hx hZ 151 e5 F_arr (hb hby at_150) (0) (by decide) (by decide) (.int x1) rfl rfl ?_
        refine g_iloadN X5 hx 152 (hb hby at_151) rfl rfl ?_
        refine g_icT X5 hx 158 (hb hby at_152) (Jvm.Free.XT.ii_eq_t (show x1 = x1 from rfl)) (by decide) (by decide) ?_
        refine g_iload X5 hx 160 (hb hby at_158) rfl rfl ?_
        refine g_iconst X5 hx 161 (hb hby at_160) (1 : Int32) (by decide) rfl ?_
        refine g_icT X5 hx 175 (hb hby at_161) (by decide) (by decide) (by decide) ?_
        refine g_iload X5 hx 177 (hb hby at_175) rfl rfl ?_
        refine g_iconst X5 hx 178 (hb hby at_177) (2 : Int32) (by decide) rfl ?_
        refine g_icT X5 hx 192 (hb hby at_178) (by decide) (by decide) (by decide) ?_
        refine g_iload X5 hx 194 (hb hby at_192) rfl rfl ?_
        refine g_iload X5 hx 196 (hb hby at_194) rfl rfl ?_
        refine g_icF X5 hx 199 (hb hby at_196) (by decide) rfl ?_
        refine g_iload X5 hx 201 (hb hby at_199) rfl rfl ?_
        refine g_ifF X5 hx 204 (hb hby at_201) (by decide) rfl ?_
        refine g_iconst X5 hx 205 (hb hby at_204) (1 : Int32) (by decide) rfl ?_
        refine g_goto X5 hx 209 (hb hby at_205) (by decide) (by decide) ?_
        refine g_nret X5 hx (by simp) hret hlk (hb hby at_209) (by decide) (by decide) ?_
        exact ⟨rfl, N5⟩
      · refine g_icF X4 hx 99 (hb hby at_96) (Jvm.Free.XT.ii_eq_f c96) rfl ?_
        refine g_iload X4 hx 101 (hb hby at_99) rfl rfl ?_
        refine g_iconst X4 hx 102 (hb hby at_101) (1 : Int32) (by decide) rfl ?_
        refine g_icT X4 hx 111 (hb hby at_102) (by decide) (by decide) (by decide) ?_
        refine g_iload X4 hx 113 (hb hby at_111) rfl rfl ?_
        refine g_iconst X4 hx 114 (hb hby at_113) (2 : Int32) (by decide) rfl ?_
        refine g_icT X4 hx 127 (hb hby at_114) (by decide) (by decide) (by decide) ?_
        refine g_iconst X4 hx 128 (hb hby at_127) (0 : Int32) (by decide) rfl ?_
        refine g_istore X4 hx 130 (hb hby at_128) #[.val (.int x0), .val (.int x1), .val (.int x2), .val (.int x3), .val (.int x4), .val (.int (1 : Int32)), .val (.int pick), .val (.int t), .val (.ref arr), .val (.int (0 : Int32)), .unset, .unset] rfl rfl ?_
        refine g_iload X4 hx 132 (hb hby at_130) rfl rfl ?_
        refine g_aload X4 hx 134 (hb hby at_132) rfl rfl rfl ?_
        refine g_callS X4 hx hZ 137 [(.int t), (.ref arr)] [] 0 hown (hw _ (List.mem_of_getElem? (i := 1) rfl)) (hw _ (List.mem_of_getElem? (i := 2) rfl)) (hw _ (List.mem_of_getElem? (i := 3) rfl)) (hw _ (List.mem_of_getElem? (i := 4) rfl)) (by decide) e4 (rm1_1 l Z a0 hw [] x1 t arr _ T4.heap n0 M4 F_arr rfl) (by decide) (by decide) (by decide) (by decide) (by rw [hml]; rfl) rfl pd_0 rfl (Nat.le_of_eq rfl) (hb hby at_134) rfl ?_
        intro v6 T6 L6 X6 q6
        obtain ⟨rfl, Nq6, e6⟩ := q6
        have N6 := Fr.app N4 Nq6
        have M6 := M4
        rw [show fM [x1] t = 0 from by simp [fM, c96]]
        refine g_istore X6 hx 139 (hb hby at_137) #[.val (.int x0), .val (.int x1), .val (.int x2), .val (.int x3), .val (.int x4), .val (.int (1 : Int32)), .val (.int pick), .val (.int t), .val (.ref arr), .val (.int (0 : Int32)), .val (.int (0 : Int32)), .unset] rfl rfl ?_
        refine g_iconst X6 hx 140 (hb hby at_139) (1 : Int32) (by decide) rfl ?_
        refine g_istore X6 hx 142 (hb hby at_140) #[.val (.int x0), .val (.int x1), .val (.int x2), .val (.int x3), .val (.int x4), .val (.int (1 : Int32)), .val (.int pick), .val (.int t), .val (.ref arr), .val (.int (0 : Int32)), .val (.int (0 : Int32)), .val (.int (1 : Int32))] rfl rfl ?_
        refine g_iload X6 hx 144 (hb hby at_142) rfl rfl ?_
        refine g_ifF X6 hx 147 (hb hby at_144) (by decide) rfl ?_
        refine g_aload X6 hx 149 (hb hby at_147) rfl rfl rfl ?_
        refine g_iconst X6 hx 150 (hb hby at_149) (0 : Int32) (by decide) rfl ?_
        refine g_iaload X6 hx hZ 151 e6 F_arr (hb hby at_150) (0) (by decide) (by decide) (.int x1) rfl rfl ?_
        refine g_iloadN X6 hx 152 (hb hby at_151) rfl rfl ?_
        refine g_icT X6 hx 158 (hb hby at_152) (Jvm.Free.XT.ii_eq_t (show x1 = x1 from rfl)) (by decide) (by decide) ?_
        refine g_iload X6 hx 160 (hb hby at_158) rfl rfl ?_
        refine g_iconst X6 hx 161 (hb hby at_160) (1 : Int32) (by decide) rfl ?_
        refine g_icT X6 hx 175 (hb hby at_161) (by decide) (by decide) (by decide) ?_
        refine g_iload X6 hx 177 (hb hby at_175) rfl rfl ?_
        refine g_iconst X6 hx 178 (hb hby at_177) (2 : Int32) (by decide) rfl ?_
        refine g_icT X6 hx 192 (hb hby at_178) (by decide) (by decide) (by decide) ?_
        refine g_iload X6 hx 194 (hb hby at_192) rfl rfl ?_
        refine g_iload X6 hx 196 (hb hby at_194) rfl rfl ?_
        refine g_icF X6 hx 199 (hb hby at_196) (by decide) rfl ?_
        refine g_iload X6 hx 201 (hb hby at_199) rfl rfl ?_
        refine g_ifF X6 hx 204 (hb hby at_201) (by decide) rfl ?_
        refine g_iconst X6 hx 205 (hb hby at_204) (1 : Int32) (by decide) rfl ?_
        refine g_goto X6 hx 209 (hb hby at_205) (by decide) (by decide) ?_
        refine g_nret X6 hx (by simp) hret hlk (hb hby at_209) (by decide) (by decide) ?_
        exact ⟨rfl, N6⟩
    · skip
      refine g_iload X0 hx 52 (hb hby at_50) rfl rfl ?_
      refine g_newarr X0 hx hZ 54 (hw _ (List.mem_of_getElem? (i := 0) rfl)) e0 (hb hby at_52) (2) (by decide) 2 (by decide) (by decide) (by decide) (by decide) rfl ?_
      intro T7 arr X7 E7 g_arr F_arr
      have e7 : T7.heap = T7.heap := rfl
      have N7 := N0
      have Z_arr : n0 ≤ arr := by rw [g_arr]; exact M0
      have M7 : n0 ≤ T7.heap.size := Nat.le_trans M0 E7.1
      refine g_astore X7 hx 56 (hb hby at_54) rfl #[.val (.int x0), .val (.int x1), .val (.int x2), .val (.int x3), .val (.int x4), .val (.int (2 : Int32)), .val (.int pick), .val (.int t), .val (.ref arr), .unset, .unset, .unset] rfl rfl ?_
      refine g_iload X7 hx 58 (hb hby at_56) rfl rfl ?_
      refine g_ifF X7 hx 61 (hb hby at_58) (by decide) rfl ?_
      refine g_aload X7 hx 63 (hb hby at_61) rfl rfl rfl ?_
      refine g_iconst X7 hx 64 (hb hby at_63) (0 : Int32) (by decide) rfl ?_
      refine g_iloadN X7 hx 65 (hb hby at_64) rfl rfl ?_
      refine g_iastore X7 hx hZ 66 e7 F_arr (hb hby at_65) (0) (by decide) (by decide) rfl ?_
      intro T8 X8 W8 G8
      replace F_arr := G8
      have e8 : T8.heap = T8.heap := rfl
      have N8 := Fr.snoc X8 N7 Z_arr
      have M8 : n0 ≤ T8.heap.size := by rw [W8.size]; exact M7
      refine g_iload X8 hx 68 (hb hby at_66) rfl rfl ?_
      refine g_iconst X8 hx 69 (hb hby at_68) (1 : Int32) (by decide) rfl ?_
      refine g_icF X8 hx 72 (hb hby at_69) (by decide) rfl ?_
      refine g_aload X8 hx 74 (hb hby at_72) rfl rfl rfl ?_
      refine g_iconst X8 hx 75 (hb hby at_74) (1 : Int32) (by decide) rfl ?_
      refine g_iloadN X8 hx 76 (hb hby at_75) rfl rfl ?_
      refine g_iastore X8 hx hZ 77 e8 F_arr (hb hby at_76) (1) (by decide) (by decide) rfl ?_
      intro T9 X9 W9 G9
      replace F_arr := G9
      have e9 : T9.heap = T9.heap := rfl
      have N9 := Fr.snoc X9 N8 Z_arr
      have M9 : n0 ≤ T9.heap.size := by rw [W9.size]; exact M8
      refine g_iload X9 hx 79 (hb hby at_77) rfl rfl ?_
      refine g_iconst X9 hx 80 (hb hby at_79) (2 : Int32) (by decide) rfl ?_
      refine g_icT X9 hx 88 (hb hby at_80) (by decide) (by decide) (by decide) ?_
      refine g_iload X9 hx 90 (hb hby at_88) rfl rfl ?_
      refine g_ifF X9 hx 93 (hb hby at_90) (by decide) rfl ?_
      refine g_iloadN X9 hx 94 (hb hby at_93) rfl rfl ?_
      refine g_iload X9 hx 96 (hb hby at_94) rfl rfl ?_
      by_cases c96 : x1 = t
      · refine g_icT X9 hx 123 (hb hby at_96) (Jvm.Free.XT.ii_eq_t c96) (by decide) (by decide) ?_
        refine g_iconst X9 hx 124 (hb hby at_123) (1 : Int32) (by decide) rfl ?_
        refine g_goto X9 hx 128 (hb hby at_124) (by decide) (by decide) ?_
        refine g_istore X9 hx 130 (hb hby at_128) #[.val (.int x0), .val (.int x1), .val (.int x2), .val (.int x3), .val (.int x4), .val (.int (2 : Int32)), .val (.int pick), .val (.int t), .val (.ref arr), .val (.int (1 : Int32)), .unset, .unset] rfl rfl ?_
        refine g_iload X9 hx 132 (hb hby at_130) rfl rfl ?_
        refine g_aload X9 hx 134 (hb hby at_132) rfl rfl rfl ?_
        refine g_callS X9 hx hZ 137 [(.int t), (.ref arr)] [] 0 hown (hw _ (List.mem_of_getElem? (i := 1) rfl)) (hw _ (List.mem_of_getElem? (i := 2) rfl)) (hw _ (List.mem_of_getElem? (i := 3) rfl)) (hw _ (List.mem_of_getElem? (i := 4) rfl)) (by decide) e9 (rm1_2 l Z a0 hw [] x1 x2 t arr _ T9.heap n0 M9 F_arr rfl rfl) (by decide) (by decide) (by decide) (by decide) (by rw [hml]; rfl) rfl pd_0 rfl (Nat.le_of_eq rfl) (hb hby at_134) rfl ?_
        intro v10 T10 L10 X10 q10
        obtain ⟨rfl, Nq10, e10⟩ := q10
        have N10 := Fr.app N9 Nq10
        have M10 := M9
        rw [show fM [x1, x2] t = 1 from by simp [fM, c96]]
        refine g_istore X10 hx 139 (hb hby at_137) #[.val (.int x0), .val (.int x1), .val (.int x2), .val (.int x3), .val (.int x4), .val (.int (2 : Int32)), .val (.int pick), .val (.int t), .val (.ref arr), .val (.int (1 : Int32)), .val (.int (1 : Int32)), .unset] rfl rfl ?_
        refine g_iconst X10 hx 140 (hb hby at_139) (1 : Int32) (by decide) rfl ?_
        refine g_istore X10 hx 142 (hb hby at_140) #[.val (.int x0), .val (.int x1), .val (.int x2), .val (.int x3), .val (.int x4), .val (.int (2 : Int32)), .val (.int pick), .val (.int t), .val (.ref arr), .val (.int (1 : Int32)), .val (.int (1 : Int32)), .val (.int (1 : Int32))] rfl rfl ?_
        refine g_iload X10 hx 144 (hb hby at_142) rfl rfl ?_
        refine g_ifF X10 hx 147 (hb hby at_144) (by decide) rfl ?_
        refine g_aload X10 hx 149 (hb hby at_147) rfl rfl rfl ?_
        refine g_iconst X10 hx 150 (hb hby at_149) (0 : Int32) (by decide) rfl ?_
        refine g_iaload X10 hx hZ 151 e10 F_arr (hb hby at_150) (0) (by decide) (by decide) (.int x1) rfl rfl ?_
        refine g_iloadN X10 hx 152 (hb hby at_151) rfl rfl ?_
        refine g_icT X10 hx 158 (hb hby at_152) (Jvm.Free.XT.ii_eq_t (show x1 = x1 from rfl)) (by decide) (by decide) ?_
        refine g_iload X10 hx 160 (hb hby at_158) rfl rfl ?_
        refine g_iconst X10 hx 161 (hb hby at_160) (1 : Int32) (by decide) rfl ?_
        refine g_icF X10 hx 164 (hb hby at_161) (by decide) rfl ?_
        refine g_aload X10 hx 166 (hb hby at_164) rfl rfl rfl ?_
        refine g_iconst X10 hx 167 (hb hby at_166) (1 : Int32) (by decide) rfl ?_
        refine g_iaload X10 hx hZ 168 e10 F_arr (hb hby at_167) (1) (by decide) (by decide) (.int x2) rfl rfl ?_
        refine g_iloadN X10 hx 169 (hb hby at_168) rfl rfl ?_
        refine g_icT X10 hx 175 (hb hby at_169) (Jvm.Free.XT.ii_eq_t (show x2 = x2 from rfl)) (by decide) (by decide) ?_
        refine g_iload X10 hx 177 (hb hby at_175) rfl rfl ?_
        refine g_iconst X10 hx 178 (hb hby at_177) (2 : Int32) (by decide) rfl ?_
        refine g_icT X10 hx 192 (hb hby at_178) (by decide) (by decide) (by decide) ?_
        refine g_iload X10 hx 194 (hb hby at_192) rfl rfl ?_
        refine g_iload X10 hx 196 (hb hby at_194) rfl rfl ?_
        refine g_icF X10 hx 199 (hb hby at_196) (by decide) rfl ?_
        refine g_iload X10 hx 201 (hb hby at_199) rfl rfl ?_
        refine g_ifF X10 hx 204 (hb hby at_201) (by decide) rfl ?_
        refine g_iconst X10 hx 205 (hb hby at_204) (1 : Int32) (by decide) rfl ?_
        refine g_goto X10 hx 209 (hb hby at_205) (by decide) (by decide) ?_
        refine g_nret X10 hx (by simp) hret hlk (hb hby at_209) (by decide) (by decide) ?_
        exact ⟨rfl, N10⟩
      · refine g_icF X9 hx 99 (hb hby at_96) (Jvm.Free.XT.ii_eq_f c96) rfl ?_
        refine g_iload X9 hx 101 (hb hby at_99) rfl rfl ?_
        refine g_iconst X9 hx 102 (hb hby at_101) (1 : Int32) (by decide) rfl ?_
        refine g_icF X9 hx 105 (hb hby at_102) (by decide) rfl ?_
        refine g_iloadN X9 hx 106 (hb hby at_105) rfl rfl ?_
        refine g_iload X9 hx 108 (hb hby at_106) rfl rfl ?_
        by_cases c108 : x2 = t
        · refine g_icT X9 hx 123 (hb hby at_108) (Jvm.Free.XT.ii_eq_t c108) (by decide) (by decide) ?_
          refine g_iconst X9 hx 124 (hb hby at_123) (1 : Int32) (by decide) rfl ?_
          refine g_goto X9 hx 128 (hb hby at_124) (by decide) (by decide) ?_
          refine g_istore X9 hx 130 (hb hby at_128) #[.val (.int x0), .val (.int x1), .val (.int x2), .val (.int x3), .val (.int x4), .val (.int (2 : Int32)), .val (.int pick), .val (.int t), .val (.ref arr), .val (.int (1 : Int32)), .unset, .unset] rfl rfl ?_
          refine g_iload X9 hx 132 (hb hby at_130) rfl rfl ?_
          refine g_aload X9 hx 134 (hb hby at_132) rfl rfl rfl ?_
          refine g_callS X9 hx hZ 137 [(.int t), (.ref arr)] [] 0 hown (hw _ (List.mem_of_getElem? (i := 1) rfl)) (hw _ (List.mem_of_getElem? (i := 2) rfl)) (hw _ (List.mem_of_getElem? (i := 3) rfl)) (hw _ (List.mem_of_getElem? (i := 4) rfl)) (by decide) e9 (rm1_2 l Z a0 hw [] x1 x2 t arr _ T9.heap n0 M9 F_arr rfl rfl) (by decide) (by decide) (by decide) (by decide) (by rw [hml]; rfl) rfl pd_0 rfl (Nat.le_of_eq rfl) (hb hby at_134) rfl ?_
          intro v11 T11 L11 X11 q11
          obtain ⟨rfl, Nq11, e11⟩ := q11
          have N11 := Fr.app N9 Nq11
          have M11 := M9
          rw [show fM [x1, x2] t = 1 from by simp [fM, c96, c108]]
          refine g_istore X11 hx 139 (hb hby at_137) #[.val (.int x0), .val (.int x1), .val (.int x2), .val (.int x3), .val (.int x4), .val (.int (2 : Int32)), .val (.int pick), .val (.int t), .val (.ref arr), .val (.int (1 : Int32)), .val (.int (1 : Int32)), .unset] rfl rfl ?_
          refine g_iconst X11 hx 140 (hb hby at_139) (1 : Int32) (by decide) rfl ?_
          refine g_istore X11 hx 142 (hb hby at_140) #[.val (.int x0), .val (.int x1), .val (.int x2), .val (.int x3), .val (.int x4), .val (.int (2 : Int32)), .val (.int pick), .val (.int t), .val (.ref arr), .val (.int (1 : Int32)), .val (.int (1 : Int32)), .val (.int (1 : Int32))] rfl rfl ?_
          refine g_iload X11 hx 144 (hb hby at_142) rfl rfl ?_
          refine g_ifF X11 hx 147 (hb hby at_144) (by decide) rfl ?_
          refine g_aload X11 hx 149 (hb hby at_147) rfl rfl rfl ?_
          refine g_iconst X11 hx 150 (hb hby at_149) (0 : Int32) (by decide) rfl ?_
          refine g_iaload X11 hx hZ 151 e11 F_arr (hb hby at_150) (0) (by decide) (by decide) (.int x1) rfl rfl ?_
          refine g_iloadN X11 hx 152 (hb hby at_151) rfl rfl ?_
          refine g_icT X11 hx 158 (hb hby at_152) (Jvm.Free.XT.ii_eq_t (show x1 = x1 from rfl)) (by decide) (by decide) ?_
          refine g_iload X11 hx 160 (hb hby at_158) rfl rfl ?_
          refine g_iconst X11 hx 161 (hb hby at_160) (1 : Int32) (by decide) rfl ?_
          refine g_icF X11 hx 164 (hb hby at_161) (by decide) rfl ?_
          refine g_aload X11 hx 166 (hb hby at_164) rfl rfl rfl ?_
          refine g_iconst X11 hx 167 (hb hby at_166) (1 : Int32) (by decide) rfl ?_
          refine g_iaload X11 hx hZ 168 e11 F_arr (hb hby at_167) (1) (by decide) (by decide) (.int x2) rfl rfl ?_
          refine g_iloadN X11 hx 169 (hb hby at_168) rfl rfl ?_
          refine g_icT X11 hx 175 (hb hby at_169) (Jvm.Free.XT.ii_eq_t (show x2 = x2 from rfl)) (by decide) (by decide) ?_
          refine g_iload X11 hx 177 (hb hby at_175) rfl rfl ?_
          refine g_iconst X11 hx 178 (hb hby at_177) (2 : Int32) (by decide) rfl ?_
          refine g_icT X11 hx 192 (hb hby at_178) (by decide) (by decide) (by decide) ?_
          refine g_iload X11 hx 194 (hb hby at_192) rfl rfl ?_
          refine g_iload X11 hx 196 (hb hby at_194) rfl rfl ?_
          refine g_icF X11 hx 199 (hb hby at_196) (by decide) rfl ?_
          refine g_iload X11 hx 201 (hb hby at_199) rfl rfl ?_
          refine g_ifF X11 hx 204 (hb hby at_201) (by decide) rfl ?_
          refine g_iconst X11 hx 205 (hb hby at_204) (1 : Int32) (by decide) rfl ?_
          refine g_goto X11 hx 209 (hb hby at_205) (by decide) (by decide) ?_
          refine g_nret X11 hx (by simp) hret hlk (hb hby at_209) (by decide) (by decide) ?_
          exact ⟨rfl, N11⟩
        · refine g_icF X9 hx 111 (hb hby at_108) (Jvm.Free.XT.ii_eq_f c108) rfl ?_
          refine g_iload X9 hx 113 (hb hby at_111) rfl rfl ?_
          refine g_iconst X9 hx 114 (hb hby at_113) (2 : Int32) (by decide) rfl ?_
          refine g_icT X9 hx 127 (hb hby at_114) (by decide) (by decide) (by decide) ?_
          refine g_iconst X9 hx 128 (hb hby at_127) (0 : Int32) (by decide) rfl ?_
          refine g_istore X9 hx 130 (hb hby at_128) #[.val (.int x0), .val (.int x1), .val (.int x2), .val (.int x3), .val (.int x4), .val (.int (2 : Int32)), .val (.int pick), .val (.int t), .val (.ref arr), .val (.int (0 : Int32)), .unset, .unset] rfl rfl ?_
          refine g_iload X9 hx 132 (hb hby at_130) rfl rfl ?_
          refine g_aload X9 hx 134 (hb hby at_132) rfl rfl rfl ?_
          refine g_callS X9 hx hZ 137 [(.int t), (.ref arr)] [] 0 hown (hw _ (List.mem_of_getElem? (i := 1) rfl)) (hw _ (List.mem_of_getElem? (i := 2) rfl)) (hw _ (List.mem_of_getElem? (i := 3) rfl)) (hw _ (List.mem_of_getElem? (i := 4) rfl)) (by decide) e9 (rm1_2 l Z a0 hw [] x1 x2 t arr _ T9.heap n0 M9 F_arr rfl rfl) (by decide) (by decide) (by decide) (by decide) (by rw [hml]; rfl) rfl pd_0 rfl (Nat.le_of_eq rfl) (hb hby at_134) rfl ?_
          intro v12 T12 L12 X12 q12
          obtain ⟨rfl, Nq12, e12⟩ := q12
          have N12 := Fr.app N9 Nq12
          have M12 := M9
          rw [show fM [x1, x2] t = 0 from by simp [fM, c96, c108]]
          refine g_istore X12 hx 139 (hb hby at_137) #[.val (.int x0), .val (.int x1), .val (.int x2), .val (.int x3), .val (.int x4), .val (.int (2 : Int32)), .val (.int pick), .val (.int t), .val (.ref arr), .val (.int (0 : Int32)), .val (.int (0 : Int32)), .unset] rfl rfl ?_
          refine g_iconst X12 hx 140 (hb hby at_139) (1 : Int32) (by decide) rfl ?_
          refine g_istore X12 hx 142 (hb hby at_140) #[.val (.int x0), .val (.int x1), .val (.int x2), .val (.int x3), .val (.int x4), .val (.int (2 : Int32)), .val (.int pick), .val (.int t), .val (.ref arr), .val (.int (0 : Int32)), .val (.int (0 : Int32)), .val (.int (1 : Int32))] rfl rfl ?_
          refine g_iload X12 hx 144 (hb hby at_142) rfl rfl ?_
          refine g_ifF X12 hx 147 (hb hby at_144) (by decide) rfl ?_
          refine g_aload X12 hx 149 (hb hby at_147) rfl rfl rfl ?_
          refine g_iconst X12 hx 150 (hb hby at_149) (0 : Int32) (by decide) rfl ?_
          refine g_iaload X12 hx hZ 151 e12 F_arr (hb hby at_150) (0) (by decide) (by decide) (.int x1) rfl rfl ?_
          refine g_iloadN X12 hx 152 (hb hby at_151) rfl rfl ?_
          refine g_icT X12 hx 158 (hb hby at_152) (Jvm.Free.XT.ii_eq_t (show x1 = x1 from rfl)) (by decide) (by decide) ?_
          refine g_iload X12 hx 160 (hb hby at_158) rfl rfl ?_
          refine g_iconst X12 hx 161 (hb hby at_160) (1 : Int32) (by decide) rfl ?_
          refine g_icF X12 hx 164 (hb hby at_161) (by decide) rfl ?_
          refine g_aload X12 hx 166 (hb hby at_164) rfl rfl rfl ?_
          refine g_iconst X12 hx 167 (hb hby at_166) (1 : Int32) (by decide) rfl ?_
          refine g_iaload X12 hx hZ 168 e12 F_arr (hb hby at_167) (1) (by decide) (by decide) (.int x2) rfl rfl ?_
          refine g_iloadN X12 hx 169 (hb hby at_168) rfl rfl ?_
          refine g_icT X12 hx 175 (hb hby at_169) (Jvm.Free.XT.ii_eq_t (show x2 = x2 from rfl)) (by decide) (by decide) ?_
          refine g_iload X12 hx 177 (hb hby at_175) rfl rfl ?_
          refine g_iconst X12 hx 178 (hb hby at_177) (2 : Int32) (by decide) rfl ?_
          refine g_icT X12 hx 192 (hb hby at_178) (by decide) (by decide) (by decide) ?_
          refine g_iload X12 hx 194 (hb hby at_192) rfl rfl ?_
          refine g_iload X12 hx 196 (hb hby at_194) rfl rfl ?_
          refine g_icF X12 hx 199 (hb hby at_196) (by decide) rfl ?_
          refine g_iload X12 hx 201 (hb hby at_199) rfl rfl ?_
          refine g_ifF X12 hx 204 (hb hby at_201) (by decide) rfl ?_
          refine g_iconst X12 hx 205 (hb hby at_204) (1 : Int32) (by decide) rfl ?_
          refine g_goto X12 hx 209 (hb hby at_205) (by decide) (by decide) ?_
          refine g_nret X12 hx (by simp) hret hlk (hb hby at_209) (by decide) (by decide) ?_
          exact ⟨rfl, N12⟩
    · skip
      refine g_iload X0 hx 52 (hb hby at_50) rfl rfl ?_
      refine g_newarr X0 hx hZ 54 (hw _ (List.mem_of_getElem? (i := 0) rfl)) e0 (hb hby at_52) (3) (by decide) 3 (by decide) (by decide) (by decide) (by decide) rfl ?_
      intro T13 arr X13 E13 g_arr F_arr
      have e13 : T13.heap = T13.heap := rfl
      have N13 := N0
      have Z_arr : n0 ≤ arr := by rw [g_arr]; exact M0
      have M13 : n0 ≤ T13.heap.size := Nat.le_trans M0 E13.1
      refine g_astore X13 hx 56 (hb hby at_54) rfl #[.val (.int x0), .val (.int x1), .val (.int x2), .val (.int x3), .val (.int x4), .val (.int (3 : Int32)), .val (.int pick), .val (.int t), .val (.ref arr), .unset, .unset, .unset] rfl rfl ?_
      refine g_iload X13 hx 58 (hb hby at_56) rfl rfl ?_
      refine g_ifF X13 hx 61 (hb hby at_58) (by decide) rfl ?_
      refine g_aload X13 hx 63 (hb hby at_61) rfl rfl rfl ?_
      refine g_iconst X13 hx 64 (hb hby at_63) (0 : Int32) (by decide) rfl ?_
      refine g_iloadN X13 hx 65 (hb hby at_64) rfl rfl ?_
      refine g_iastore X13 hx hZ 66 e13 F_arr (hb hby at_65) (0) (by decide) (by decide) rfl ?_
      intro T14 X14 W14 G14
      replace F_arr := G14
      have e14 : T14.heap = T14.heap := rfl
      have N14 := Fr.snoc X14 N13 Z_arr
      have M14 : n0 ≤ T14.heap.size := by rw [W14.size]; exact M13
      refine g_iload X14 hx 68 (hb hby at_66) rfl rfl ?_
      refine g_iconst X14 hx 69 (hb hby at_68) (1 : Int32) (by decide) rfl ?_
      refine g_icF X14 hx 72 (hb hby at_69) (by decide) rfl ?_
      refine g_aload X14 hx 74 (hb hby at_72) rfl rfl rfl ?_
      refine g_iconst X14 hx 75 (hb hby at_74) (1 : Int32) (by decide) rfl ?_
      refine g_iloadN X14 hx 76 (hb hby at_75) rfl rfl ?_
      refine g_iastore X14 hx hZ 77 e14 F_arr (hb hby at_76) (1) (by decide) (by decide) rfl ?_
      intro T15 X15 W15 G15
      replace F_arr := G15
      have e15 : T15.heap = T15.heap := rfl
      have N15 := Fr.snoc X15 N14 Z_arr
      have M15 : n0 ≤ T15.heap.size := by rw [W15.size]; exact M14
      refine g_iload X15 hx 79 (hb hby at_77) rfl rfl ?_
      refine g_iconst X15 hx 80 (hb hby at_79) (2 : Int32) (by decide) rfl ?_
      refine g_icF X15 hx 83 (hb hby at_80) (by decide) rfl ?_
      refine g_aload X15 hx 85 (hb hby at_83) rfl rfl rfl ?_
      refine g_iconst X15 hx 86 (hb hby at_85) (2 : Int32) (by decide) rfl ?_
      refine g_iloadN X15 hx 87 (hb hby at_86) rfl rfl ?_
      refine g_iastore X15 hx hZ 88 e15 F_arr (hb hby at_87) (2) (by decide) (by decide) rfl ?_
      intro T16 X16 W16 G16
      replace F_arr := G16
      have e16 : T16.heap = T16.heap := rfl
      have N16 := Fr.snoc X16 N15 Z_arr
      have M16 : n0 ≤ T16.heap.size := by rw [W16.size]; exact M15
      refine g_iload X16 hx 90 (hb hby at_88) rfl rfl ?_
      refine g_ifF X16 hx 93 (hb hby at_90) (by decide) rfl ?_
      refine g_iloadN X16 hx 94 (hb hby at_93) rfl rfl ?_
      refine g_iload X16 hx 96 (hb hby at_94) rfl rfl ?_
      by_cases c96 : x1 = t
      · refine g_icT X16 hx 123 (hb hby at_96) (Jvm.Free.XT.ii_eq_t c96) (by decide) (by decide) ?_
        refine g_iconst X16 hx 124 (hb hby at_123) (1 : Int32) (by decide) rfl ?_
        refine g_goto X16 hx 128 (hb hby at_124) (by decide) (by decide) ?_
        refine g_istore X16 hx 130 (hb hby at_128) #[.val (.int x0), .val (.int x1), .val (.int x2), .val (.int x3), .val (.int x4), .val (.int (3 : Int32)), .val (.int pick), .val (.int t), .val (.ref arr), .val (.int (1 : Int32)), .unset, .unset] rfl rfl ?_
        refine g_iload X16 hx 132 (hb hby at_130) rfl rfl ?_
        refine g_aload X16 hx 134 (hb hby at_132) rfl rfl rfl ?_
        refine g_callS X16 hx hZ 137 [(.int t), (.ref arr)] [] 0 hown (hw _ (List.mem_of_getElem? (i := 1) rfl)) (hw _ (List.mem_of_getElem? (i := 2) rfl)) (hw _ (List.mem_of_getElem? (i := 3) rfl)) (hw _ (List.mem_of_getElem? (i := 4) rfl)) (by decide) e16 (rm1_3 l Z a0 hw [] x1 x2 x3 t arr _ T16.heap n0 M16 F_arr rfl rfl rfl) (by decide) (by decide) (by decide) (by decide) (by rw [hml]; rfl) rfl pd_0 rfl (Nat.le_of_eq rfl) (hb hby at_134) rfl ?_
        intro v17 T17 L17 X17 q17
        obtain ⟨rfl, Nq17, e17⟩ := q17
        have N17 := Fr.app N16 Nq17
        have M17 := M16
        rw [show fM [x1, x2, x3] t = 1 from by simp [fM, c96]]
        refine g_istore X17 hx 139 (hb hby at_137) #[.val (.int x0), .val (.int x1), .val (.int x2), .val (.int x3), .val (.int x4), .val (.int (3 : Int32)), .val (.int pick), .val (.int t), .val (.ref arr), .val (.int (1 : Int32)), .val (.int (1 : Int32)), .unset] rfl rfl ?_
        refine g_iconst X17 hx 140 (hb hby at_139) (1 : Int32) (by decide) rfl ?_
        refine g_istore X17 hx 142 (hb hby at_140) #[.val (.int x0), .val (.int x1), .val (.int x2), .val (.int x3), .val (.int x4), .val (.int (3 : Int32)), .val (.int pick), .val (.int t), .val (.ref arr), .val (.int (1 : Int32)), .val (.int (1 : Int32)), .val (.int (1 : Int32))] rfl rfl ?_
        refine g_iload X17 hx 144 (hb hby at_142) rfl rfl ?_
        refine g_ifF X17 hx 147 (hb hby at_144) (by decide) rfl ?_
        refine g_aload X17 hx 149 (hb hby at_147) rfl rfl rfl ?_
        refine g_iconst X17 hx 150 (hb hby at_149) (0 : Int32) (by decide) rfl ?_
        refine g_iaload X17 hx hZ 151 e17 F_arr (hb hby at_150) (0) (by decide) (by decide) (.int x1) rfl rfl ?_
        refine g_iloadN X17 hx 152 (hb hby at_151) rfl rfl ?_
        refine g_icT X17 hx 158 (hb hby at_152) (Jvm.Free.XT.ii_eq_t (show x1 = x1 from rfl)) (by decide) (by decide) ?_
        refine g_iload X17 hx 160 (hb hby at_158) rfl rfl ?_
        refine g_iconst X17 hx 161 (hb hby at_160) (1 : Int32) (by decide) rfl ?_
        refine g_icF X17 hx 164 (hb hby at_161) (by decide) rfl ?_
        refine g_aload X17 hx 166 (hb hby at_164) rfl rfl rfl ?_
        refine g_iconst X17 hx 167 (hb hby at_166) (1 : Int32) (by decide) rfl ?_
        refine g_iaload X17 hx hZ 168 e17 F_arr (hb hby at_167) (1) (by decide) (by decide) (.int x2) rfl rfl ?_
        refine g_iloadN X17 hx 169 (hb hby at_168) rfl rfl ?_
        refine g_icT X17 hx 175 (hb hby at_169) (Jvm.Free.XT.ii_eq_t (show x2 = x2 from rfl)) (by decide) (by decide) ?_
        refine g_iload X17 hx 177 (hb hby at_175) rfl rfl ?_
        refine g_iconst X17 hx 178 (hb hby at_177) (2 : Int32) (by decide) rfl ?_
        refine g_icF X17 hx 181 (hb hby at_178) (by decide) rfl ?_
        refine g_aload X17 hx 183 (hb hby at_181) rfl rfl rfl ?_
        refine g_iconst X17 hx 184 (hb hby at_183) (2 : Int32) (by decide) rfl ?_
        refine g_iaload X17 hx hZ 185 e17 F_arr (hb hby at_184) (2) (by decide) (by decide) (.int x3) rfl rfl ?_
        refine g_iloadN X17 hx 186 (hb hby at_185) rfl rfl ?_
        refine g_icT X17 hx 192 (hb hby at_186) (Jvm.Free.XT.ii_eq_t (show x3 = x3 from rfl)) (by decide) (by decide) ?_
        refine g_iload X17 hx 194 (hb hby at_192) rfl rfl ?_
        refine g_iload X17 hx 196 (hb hby at_194) rfl rfl ?_
        refine g_icF X17 hx 199 (hb hby at_196) (by decide) rfl ?_
        refine g_iload X17 hx 201 (hb hby at_199) rfl rfl ?_
        refine g_ifF X17 hx 204 (hb hby at_201) (by decide) rfl ?_
        refine g_iconst X17 hx 205 (hb hby at_204) (1 : Int32) (by decide) rfl ?_
        refine g_goto X17 hx 209 (hb hby at_205) (by decide) (by decide) ?_
        refine g_nret X17 hx (by simp) hret hlk (hb hby at_209) (by decide) (by decide) ?_
        exact ⟨rfl, N17⟩
      · refine g_icF X16 hx 99 (hb hby at_96) (Jvm.Free.XT.ii_eq_f c96) rfl ?_
        refine g_iload X16 hx 101 (hb hby at_99) rfl rfl ?_
        refine g_iconst X16 hx 102 (hb hby at_101) (1 : Int32) (by decide) rfl ?_
        refine g_icF X16 hx 105 (hb hby at_102) (by decide) rfl ?_
        refine g_iloadN X16 hx 106 (hb hby at_105) rfl rfl ?_
        refine g_iload X16 hx 108 (hb hby at_106) rfl rfl ?_
        by_cases c108 : x2 = t
        · refine g_icT X16 hx 123 (hb hby at_108) (Jvm.Free.XT.ii_eq_t c108) (by decide) (by decide) ?_
          refine g_iconst X16 hx 124 (hb hby at_123) (1 : Int32) (by decide) rfl ?_
          refine g_goto X16 hx 128 (hb hby at_124) (by decide) (by decide) ?_
          refine g_istore X16 hx 130 (hb hby at_128) #[.val (.int x0), .val (.int x1), .val (.int x2), .val (.int x3), .val (.int x4), .val (.int (3 : Int32)), .val (.int pick), .val (.int t), .val (.ref arr), .val (.int (1 : Int32)), .unset, .unset] rfl rfl ?_
          refine g_iload X16 hx 132 (hb hby at_130) rfl rfl ?_
          refine g_aload X16 hx 134 (hb hby at_132) rfl rfl rfl ?_
          refine g_callS X16 hx hZ 137 [(.int t), (.ref arr)] [] 0 hown (hw _ (List.mem_of_getElem? (i := 1) rfl)) (hw _ (List.mem_of_getElem? (i := 2) rfl)) (hw _ (List.mem_of_getElem? (i := 3) rfl)) (hw _ (List.mem_of_getElem? (i := 4) rfl)) (by decide) e16 (rm1_3 l Z a0 hw [] x1 x2 x3 t arr _ T16.heap n0 M16 F_arr rfl rfl rfl) (by decide) (by decide) (by decide) (by decide) (by rw [hml]; rfl) rfl pd_0 rfl (Nat.le_of_eq rfl) (hb hby at_134) rfl ?_
          intro v18 T18 L18 X18 q18
          obtain ⟨rfl, Nq18, e18⟩ := q18
          have N18 := Fr.app N16 Nq18
          have M18 := M16
          rw [show fM [x1, x2, x3] t = 1 from by simp [fM, c96, c108]]
          refine g_istore X18 hx 139 (hb hby at_137) #[.val (.int x0), .val (.int x1), .val (.int x2), .val (.int x3), .val (.int x4), .val (.int (3 : Int32)), .val (.int pick), .val (.int t), .val (.ref arr), .val (.int (1 : Int32)), .val (.int (1 : Int32)), .unset] rfl rfl ?_
          refine g_iconst X18 hx 140 (hb hby at_139) (1 : Int32) (by decide) rfl ?_
          refine g_istore X18 hx 142 (hb hby at_140) #[.val (.int x0), .val (.int x1), .val (.int x2), .val (.int x3), .val (.int x4), .val (.int (3 : Int32)), .val (.int pick), .val (.int t), .val (.ref arr), .val (.int (1 : Int32)), .val (.int (1 : Int32)), .val (.int (1 : Int32))] rfl rfl ?_
          refine g_iload X18 hx 144 (hb hby at_142) rfl rfl ?_
          refine g_ifF X18 hx 147 (hb hby at_144) (by decide) rfl ?_
          refine g_aload X18 hx 149 (hb hby at_147) rfl rfl rfl ?_
          refine g_iconst X18 hx 150 (hb hby at_149) (0 : Int32) (by decide) rfl ?_
          refine g_iaload X18 hx hZ 151 e18 F_arr (hb hby at_150) (0) (by decide) (by decide) (.int x1) rfl rfl ?_
          refine g_iloadN X18 hx 152 (hb hby at_151) rfl rfl ?_
          refine g_icT X18 hx 158 (hb hby at_152) (Jvm.Free.XT.ii_eq_t (show x1 = x1 from rfl)) (by decide) (by decide) ?_
          refine g_iload X18 hx 160 (hb hby at_158) rfl rfl ?_
          refine g_iconst X18 hx 161 (hb hby at_160) (1 : Int32) (by decide) rfl ?_
          refine g_icF X18 hx 164 (hb hby at_161) (by decide) rfl ?_
          refine g_aload X18 hx 166 (hb hby at_164) rfl rfl rfl ?_
          refine g_iconst X18 hx 167 (hb hby at_166) (1 : Int32) (by decide) rfl ?_
          refine g_iaload X18 hx hZ 168 e18 F_arr (hb hby at_167) (1) (by decide) (by decide) (.int x2) rfl rfl ?_
          refine g_iloadN X18 hx 169 (hb hby at_168) rfl rfl ?_
          refine g_icT X18 hx 175 (hb hby at_169) (Jvm.Free.XT.ii_eq_t (show x2 = x2 from rfl)) (by decide) (by decide) ?_
          refine g_iload X18 hx 177 (hb hby at_175) rfl rfl ?_
          refine g_iconst X18 hx 178 (hb hby at_177) (2 : Int32) (by decide) rfl ?_
          refine g_icF X18 hx 181 (hb hby at_178) (by decide) rfl ?_
          refine g_aload X18 hx 183 (hb hby at_181) rfl rfl rfl ?_
          refine g_iconst X18 hx 184 (hb hby at_183) (2 : Int32) (by decide) rfl ?_
          refine g_iaload X18 hx hZ 185 e18 F_arr (hb hby at_184) (2) (by decide) (by decide) (.int x3) rfl rfl ?_
          refine g_iloadN X18 hx 186 (hb hby at_185) rfl rfl ?_
          refine g_icT X18 hx 192 (hb hby at_186) (Jvm.Free.XT.ii_eq_t (show x3 = x3 from rfl)) (by decide) (by decide) ?_
          refine g_iload X18 hx 194 (hb hby at_192) rfl rfl ?_
          refine g_iload X18 hx 196 (hb hby at_194) rfl rfl ?_
          refine g_icF X18 hx 199 (hb hby at_196) (by decide) rfl ?_
          refine g_iload X18 hx 201 (hb hby at_199) rfl rfl ?_
          refine g_ifF X18 hx 204 (hb hby at_201) (by decide) rfl ?_
          refine g_iconst X18 hx 205 (hb hby at_204) (1 : Int32) (by decide) rfl ?_
          refine g_goto X18 hx 209 (hb hby at_205) (by decide) (by decide) ?_
          refine g_nret X18 hx (by simp) hret hlk (hb hby at_209) (by decide) (by decide) ?_
          exact ⟨rfl, N18⟩
        · refine g_icF X16 hx 111 (hb hby at_108) (Jvm.Free.XT.ii_eq_f c108) rfl ?_
          refine g_iload X16 hx 113 (hb hby at_111) rfl rfl ?_
          refine g_iconst X16 hx 114 (hb hby at_113) (2 : Int32) (by decide) rfl ?_
          refine g_icF X16 hx 117 (hb hby at_114) (by decide) rfl ?_
          refine g_iloadN X16 hx 118 (hb hby at_117) rfl rfl ?_
          refine g_iload X16 hx 120 (hb hby at_118) rfl rfl ?_
          by_cases c120 : x3 = t
          · refine g_icF X16 hx 123 (hb hby at_120) (Jvm.Free.XT.ii_ne_f c120) rfl ?_
            refine g_iconst X16 hx 124 (hb hby at_123) (1 : Int32) (by decide) rfl ?_
            refine g_goto X16 hx 128 (hb hby at_124) (by decide) (by decide) ?_
            refine g_istore X16 hx 130 (hb hby at_128) #[.val (.int x0), .val (.int x1), .val (.int x2), .val (.int x3), .val (.int x4), .val (.int (3 : Int32)), .val (.int pick), .val (.int t), .val (.ref arr), .val (.int (1 : Int32)), .unset, .unset] rfl rfl ?_
            refine g_iload X16 hx 132 (hb hby at_130) rfl rfl ?_
            refine g_aload X16 hx 134 (hb hby at_132) rfl rfl rfl ?_
            refine g_callS X16 hx hZ 137 [(.int t), (.ref arr)] [] 0 hown (hw _ (List.mem_of_getElem? (i := 1) rfl)) (hw _ (List.mem_of_getElem? (i := 2) rfl)) (hw _ (List.mem_of_getElem? (i := 3) rfl)) (hw _ (List.mem_of_getElem? (i := 4) rfl)) (by decide) e16 (rm1_3 l Z a0 hw [] x1 x2 x3 t arr _ T16.heap n0 M16 F_arr rfl rfl rfl) (by decide) (by decide) (by decide) (by decide) (by rw [hml]; rfl) rfl pd_0 rfl (Nat.le_of_eq rfl) (hb hby at_134) rfl ?_
            intro v19 T19 L19 X19 q19
            obtain ⟨rfl, Nq19, e19⟩ := q19
            have N19 := Fr.app N16 Nq19
            have M19 := M16
            rw [show fM [x1, x2, x3] t = 1 from by simp [fM, c96, c108, c120]]
            refine g_istore X19 hx 139 (hb hby at_137) #[.val (.int x0), .val (.int x1), .val (.int x2), .val (.int x3), .val (.int x4), .val (.int (3 : Int32)), .val (.int pick), .val (.int t), .val (.ref arr), .val (.int (1 : Int32)), .val (.int (1 : Int32)), .unset] rfl rfl ?_
            refine g_iconst X19 hx 140 (hb hby at_139) (1 : Int32) (by decide) rfl ?_
            refine g_istore X19 hx 142 (hb hby at_140) #[.val (.int x0), .val (.int x1), .val (.int x2), .val (.int x3), .val (.int x4), .val (.int (3 : Int32)), .val (.int pick), .val (.int t), .val (.ref arr), .val (.int (1 : Int32)), .val (.int (1 : Int32)), .val (.int (1 : Int32))] rfl rfl ?_
            refine g_iload X19 hx 144 (hb hby at_142) rfl rfl ?_
            refine g_ifF X19 hx 147 (hb hby at_144) (by decide) rfl ?_
            refine g_aload X19 hx 149 (hb hby at_147) rfl rfl rfl ?_
            refine g_iconst X19 hx 150 (hb hby at_149) (0 : Int32) (by decide) rfl ?_
            refine g_iaload X19 hx hZ 151 e19 F_arr (hb hby at_150) (0) (by decide) (by decide) (.int x1) rfl rfl ?_
            refine g_iloadN X19 hx 152 (hb hby at_151) rfl rfl ?_
            refine g_icT X19 hx 158 (hb hby at_152) (Jvm.Free.XT.ii_eq_t (show x1 = x1 from rfl)) (by decide) (by decide) ?_
            refine g_iload X19 hx 160 (hb hby at_158) rfl rfl ?_
            refine g_iconst X19 hx 161 (hb hby at_160) (1 : Int32) (by decide) rfl ?_
            refine g_icF X19 hx 164 (hb hby at_161) (by decide) rfl ?_
            refine g_aload X19 hx 166 (hb hby at_164) rfl rfl rfl ?_
            refine g_iconst X19 hx 167 (hb hby at_166) (1 : Int32) (by decide) rfl ?_
            refine g_iaload X19 hx hZ 168 e19 F_arr (hb hby at_167) (1) (by decide) (by decide) (.int x2) rfl rfl ?_
            refine g_iloadN X19 hx 169 (hb hby at_168) rfl rfl ?_
            refine g_icT X19 hx 175 (hb hby at_169) (Jvm.Free.XT.ii_eq_t (show x2 = x2 from rfl)) (by decide) (by decide) ?_
            refine g_iload X19 hx 177 (hb hby at_175) rfl rfl ?_
            refine g_iconst X19 hx 178 (hb hby at_177) (2 : Int32) (by decide) rfl ?_
            refine g_icF X19 hx 181 (hb hby at_178) (by decide) rfl ?_
            refine g_aload X19 hx 183 (hb hby at_181) rfl rfl rfl ?_
            refine g_iconst X19 hx 184 (hb hby at_183) (2 : Int32) (by decide) rfl ?_
            refine g_iaload X19 hx hZ 185 e19 F_arr (hb hby at_184) (2) (by decide) (by decide) (.int x3) rfl rfl ?_
            refine g_iloadN X19 hx 186 (hb hby at_185) rfl rfl ?_
            refine g_icT X19 hx 192 (hb hby at_186) (Jvm.Free.XT.ii_eq_t (show x3 = x3 from rfl)) (by decide) (by decide) ?_
            refine g_iload X19 hx 194 (hb hby at_192) rfl rfl ?_
            refine g_iload X19 hx 196 (hb hby at_194) rfl rfl ?_
            refine g_icF X19 hx 199 (hb hby at_196) (by decide) rfl ?_
            refine g_iload X19 hx 201 (hb hby at_199) rfl rfl ?_
            refine g_ifF X19 hx 204 (hb hby at_201) (by decide) rfl ?_
            refine g_iconst X19 hx 205 (hb hby at_204) (1 : Int32) (by decide) rfl ?_
            refine g_goto X19 hx 209 (hb hby at_205) (by decide) (by decide) ?_
            refine g_nret X19 hx (by simp) hret hlk (hb hby at_209) (by decide) (by decide) ?_
            exact ⟨rfl, N19⟩
          · refine g_icT X16 hx 127 (hb hby at_120) (Jvm.Free.XT.ii_ne_t c120) (by decide) (by decide) ?_
            refine g_iconst X16 hx 128 (hb hby at_127) (0 : Int32) (by decide) rfl ?_
            refine g_istore X16 hx 130 (hb hby at_128) #[.val (.int x0), .val (.int x1), .val (.int x2), .val (.int x3), .val (.int x4), .val (.int (3 : Int32)), .val (.int pick), .val (.int t), .val (.ref arr), .val (.int (0 : Int32)), .unset, .unset] rfl rfl ?_
            refine g_iload X16 hx 132 (hb hby at_130) rfl rfl ?_
            refine g_aload X16 hx 134 (hb hby at_132) rfl rfl rfl ?_
            refine g_callS X16 hx hZ 137 [(.int t), (.ref arr)] [] 0 hown (hw _ (List.mem_of_getElem? (i := 1) rfl)) (hw _ (List.mem_of_getElem? (i := 2) rfl)) (hw _ (List.mem_of_getElem? (i := 3) rfl)) (hw _ (List.mem_of_getElem? (i := 4) rfl)) (by decide) e16 (rm1_3 l Z a0 hw [] x1 x2 x3 t arr _ T16.heap n0 M16 F_arr rfl rfl rfl) (by decide) (by decide) (by decide) (by decide) (by rw [hml]; rfl) rfl pd_0 rfl (Nat.le_of_eq rfl) (hb hby at_134) rfl ?_
            intro v20 T20 L20 X20 q20
            obtain ⟨rfl, Nq20, e20⟩ := q20
            have N20 := Fr.app N16 Nq20
            have M20 := M16
            rw [show fM [x1, x2, x3] t = 0 from by simp [fM, c96, c108, c120]]
            refine g_istore X20 hx 139 (hb hby at_137) #[.val (.int x0), .val (.int x1), .val (.int x2), .val (.int x3), .val (.int x4), .val (.int (3 : Int32)), .val (.int pick), .val (.int t), .val (.ref arr), .val (.int (0 : Int32)), .val (.int (0 : Int32)), .unset] rfl rfl ?_
            refine g_iconst X20 hx 140 (hb hby at_139) (1 : Int32) (by decide) rfl ?_
            refine g_istore X20 hx 142 (hb hby at_140) #[.val (.int x0), .val (.int x1), .val (.int x2), .val (.int x3), .val (.int x4), .val (.int (3 : Int32)), .val (.int pick), .val (.int t), .val (.ref arr), .val (.int (0 : Int32)), .val (.int (0 : Int32)), .val (.int (1 : Int32))] rfl rfl ?_
            refine g_iload X20 hx 144 (hb hby at_142) rfl rfl ?_
            refine g_ifF X20 hx 147 (hb hby at_144) (by decide) rfl ?_
            refine g_aload X20 hx 149 (hb hby at_147) rfl rfl rfl ?_
            refine g_iconst X20 hx 150 (hb hby at_149) (0 : Int32) (by decide) rfl ?_
            refine g_iaload X20 hx hZ 151 e20 F_arr (hb hby at_150) (0) (by decide) (by decide) (.int x1) rfl rfl ?_
            refine g_iloadN X20 hx 152 (hb hby at_151) rfl rfl ?_
            refine g_icT X20 hx 158 (hb hby at_152) (Jvm.Free.XT.ii_eq_t (show x1 = x1 from rfl)) (by decide) (by decide) ?_
            refine g_iload X20 hx 160 (hb hby at_158) rfl rfl ?_
            refine g_iconst X20 hx 161 (hb hby at_160) (1 : Int32) (by decide) rfl ?_
            refine g_icF X20 hx 164 (hb hby at_161) (by decide) rfl ?_
            refine g_aload X20 hx 166 (hb hby at_164) rfl rfl rfl ?_
            refine g_iconst X20 hx 167 (hb hby at_166) (1 : Int32) (by decide) rfl ?_
            refine g_iaload X20 hx hZ 168 e20 F_arr (hb hby at_167) (1) (by decide) (by decide) (.int x2) rfl rfl ?_
            refine g_iloadN X20 hx 169 (hb hby at_168) rfl rfl ?_
            refine g_icT X20 hx 175 (hb hby at_169) (Jvm.Free.XT.ii_eq_t (show x2 = x2 from rfl)) (by decide) (by decide) ?_
            refine g_iload X20 hx 177 (hb hby at_175) rfl rfl ?_
            refine g_iconst X20 hx 178 (hb hby at_177) (2 : Int32) (by decide) rfl ?_
            refine g_icF X20 hx 181 (hb hby at_178) (by decide) rfl ?_
            refine g_aload X20 hx 183 (hb hby at_181) rfl rfl rfl ?_
            refine g_iconst X20 hx 184 (hb hby at_183) (2 : Int32) (by decide) rfl ?_
            refine g_iaload X20 hx hZ 185 e20 F_arr (hb hby at_184) (2) (by decide) (by decide) (.int x3) rfl rfl ?_
            refine g_iloadN X20 hx 186 (hb hby at_185) rfl rfl ?_
            refine g_icT X20 hx 192 (hb hby at_186) (Jvm.Free.XT.ii_eq_t (show x3 = x3 from rfl)) (by decide) (by decide) ?_
            refine g_iload X20 hx 194 (hb hby at_192) rfl rfl ?_
            refine g_iload X20 hx 196 (hb hby at_194) rfl rfl ?_
            refine g_icF X20 hx 199 (hb hby at_196) (by decide) rfl ?_
            refine g_iload X20 hx 201 (hb hby at_199) rfl rfl ?_
            refine g_ifF X20 hx 204 (hb hby at_201) (by decide) rfl ?_
            refine g_iconst X20 hx 205 (hb hby at_204) (1 : Int32) (by decide) rfl ?_
            refine g_goto X20 hx 209 (hb hby at_205) (by decide) (by decide) ?_
            refine g_nret X20 hx (by simp) hret hlk (hb hby at_209) (by decide) (by decide) ?_
            exact ⟨rfl, N20⟩
  refine g_iload X0 hx 19 (hb hby at_17) rfl rfl ?_
  refine g_iconst X0 hx 20 (hb hby at_19) (1 : Int32) (by decide) rfl ?_
  by_cases c20 : pick = (1 : Int32)
  · refine g_icF X0 hx 23 (hb hby at_20) (Jvm.Free.XT.ii_ne_f c20) rfl ?_
    refine g_iloadN X0 hx 24 (hb hby at_23) rfl rfl ?_
    refine g_istore X0 hx 26 (hb hby at_24) #[.val (.int x0), .val (.int x1), .val (.int x2), .val (.int x3), .val (.int x4), .val (.int n), .val (.int pick), .val (.int x1), .unset, .unset, .unset, .unset] rfl rfl ?_
    refine g_goto X0 hx 50 (hb hby at_26) (by decide) (by decide) ?_
    exact J50 x1
  · refine g_icT X0 hx 29 (hb hby at_20) (Jvm.Free.XT.ii_ne_t c20) (by decide) (by decide) ?_
    refine g_iload X0 hx 31 (hb hby at_29) rfl rfl ?_
    refine g_iconst X0 hx 32 (hb hby at_31) (2 : Int32) (by decide) rfl ?_
    by_cases c32 : pick = (2 : Int32)
    · refine g_icF X0 hx 35 (hb hby at_32) (Jvm.Free.XT.ii_ne_f c32) rfl ?_
      refine g_iloadN X0 hx 36 (hb hby at_35) rfl rfl ?_
      refine g_istore X0 hx 38 (hb hby at_36) #[.val (.int x0), .val (.int x1), .val (.int x2), .val (.int x3), .val (.int x4), .val (.int n), .val (.int pick), .val (.int x2), .unset, .unset, .unset, .unset] rfl rfl ?_
      refine g_goto X0 hx 50 (hb hby at_38) (by decide) (by decide) ?_
      exact J50 x2
    · refine g_icT X0 hx 41 (hb hby at_32) (Jvm.Free.XT.ii_ne_t c32) (by decide) (by decide) ?_
      refine g_iload X0 hx 43 (hb hby at_41) rfl rfl ?_
      refine g_iconst X0 hx 44 (hb hby at_43) (3 : Int32) (by decide) rfl ?_
      by_cases c44 : pick = (3 : Int32)
      · refine g_icF X0 hx 47 (hb hby at_44) (Jvm.Free.XT.ii_ne_f c44) rfl ?_
        refine g_iloadN X0 hx 48 (hb hby at_47) rfl rfl ?_
        refine g_istore X0 hx 50 (hb hby at_48) #[.val (.int x0), .val (.int x1), .val (.int x2), .val (.int x3), .val (.int x4), .val (.int n), .val (.int pick), .val (.int x3), .unset, .unset, .unset, .unset] rfl rfl ?_
        exact J50 x3
      · refine g_icT X0 hx 50 (hb hby at_44) (Jvm.Free.XT.ii_ne_t c44) (by decide) (by decide) ?_
        exact J50 x0
set_option maxRecDepth 65536 in
set_option maxHeartbeats 40000000 in
theorem comes_1 {Post : Tables → Env → Array Value → State → Outcome → State → Prop} (hpost : ∀ tb e args s v u, (limb_1_1.after args s (.returned v) u = true ∧ limb_1_2.after args s (.returned v) u = true ∧ True) → FrameEnd s (.returned v) u (Jvm.fieldLocs frame_1_writes args s ++ Jvm.arrayLocs frame_1_arrays args s ++ Jvm.staticLocs frame_1_statics s) 16 128 → Post tb e args s (.returned v) u) :
    ArmFor flags0 classFile x code maxLocals ret World_1 tables_1 room_1 Calls_1 rest_1 Pre_1 Post := by
  intro l hfl _ _ p e ha hc hk s m args below hf hA hF happ hP
  obtain ⟨hcalls, hrest, hpre⟩ := hP
  obtain ⟨-, -, -, hnamed, -, -, -, hat⟩ := (Spec.applies_iff hf).mp happ
  obtain ⟨hg, hn⟩ := and_e (Cond.before_iff.mp (show (Jvm.Cond.and given_1 narrow_1).before args s = true from hpre))
  obtain ⟨hcount, hg0⟩ := and_e hg
  obtain ⟨ha0, hg1⟩ := and_e hg0
  obtain ⟨ha1, hg2⟩ := and_e hg1
  obtain ⟨ha2, hg3⟩ := and_e hg2
  obtain ⟨ha3, hg4⟩ := and_e hg3
  obtain ⟨w0, w1, w2, w3, w4, rfl⟩ : ∃ w0 w1 w2 w3 w4 : Value, args = #[w0, w1, w2, w3, w4] := by
    have hs : args.size = 5 := by simpa [Cond.value, given_1] using hcount
    obtain ⟨L⟩ := args
    match L, hs with
    | [w0, w1, w2, w3, w4], _ => exact ⟨w0, w1, w2, w3, w4, rfl⟩
  have hw := fun d (hd : d ∈ tables_1) => atoms_spec (ws := Jvm.Cond.code x code maxLocals ret :: tables_1) hat d (List.mem_cons_of_mem _ hd)
  obtain ⟨i0, ei0⟩ := is_v ha0
  obtain rfl : w0 = (.int i0) := Option.some.inj ei0
  obtain ⟨i1, ei1⟩ := is_v ha1
  obtain rfl : w1 = (.int i1) := Option.some.inj ei1
  obtain ⟨i2, ei2⟩ := is_v ha2
  obtain rfl : w2 = (.int i2) := Option.some.inj ei2
  obtain ⟨i3, ei3⟩ := is_v ha3
  obtain rfl : w3 = (.int i3) := Option.some.inj ei3
  obtain ⟨i4, ei4⟩ := is_v hg4
  obtain rfl : w4 = (.int i4) := Option.some.inj ei4
  obtain ⟨n, o, h1, h2, h3, _, L, rfl, ⟨rfl, N⟩, hq⟩ := rm0 l s _ hw tables_1 i0 i1 i2 i3 i4 s.heap s.heap.size (Nat.le_refl _)  p e ha hc hk s m _ below hf ((Spec.applies_iff_loose hf).mp happ).1 ⟨rfl, State.Warmed39.refl s, rfl⟩ trivial
  refine ⟨n, _, h1, h2, h3, hpost _ _ _ _ _ _ ⟨Cond.after_iff.mpr rfl, Cond.after_iff.mpr (eq_i res_at (Term.int_eval (1)) rfl), trivial⟩ ⟨hq.1, hq.2.1, (hq.2.2.sift fun y hy => Or.inr (N y hy)).mono (by decide) (by decide)⟩⟩
theorem main_1_1 : Claimed_1_1 := comes_1 fun _ _ _ _ _ _ h hF => ⟨h.1, hF⟩
theorem main_1_2 : Claimed_1_2 := comes_1 fun _ _ _ _ _ _ h hF => ⟨h.2.1, hF⟩
end Jvm.Pilot.@@N@@
namespace Jvm.Pilot.@@N@@
open Jvm Jvm.ClassFile Sem Op Lib Jvm.Free Jvm.Stand Jvm.Pilot.@@N@@.Jvm.D
/-! MADE BY PROGRAM (witnessworld.py) out of the Statement's table words and the real class files: 9 classes; the members and pool entries that the words name. The judged class is class 1, her method 1. -/
namespace start1
open Jvm.ClassFile
def u (s : String) : CpInfo := .utf8 (stringToUtf16 s)
/-- a pool by its gaps: so many unusable entries, then the entry; so many at the end -/
def gap : Nat → List CpInfo → List CpInfo
  | 0, r => r
  | n + 1, r => .unusable :: gap n r
def poolList (es : List (Nat × CpInfo)) (last : Nat) : List CpInfo := es.foldr (fun e r => gap e.1 (e.2 :: r)) (gap last [])
def pool (es : List (Nat × CpInfo)) (last : Nat) : Array CpInfo := ⟨poolList es last⟩
def fileOf (pool : Array CpInfo) (this : Nat) (attrs : Array Attribute := #[]) (ms : Array MethodInfo := #[]) (fl : Nat := 33) (sup : Nat := 0) (ifs : Array Nat := #[]) (fds : Array FieldInfo := #[]) : ClassFile where
  minorVersion := 0
  majorVersion := 65
  constantPool := pool
  accessFlags := fl
  thisClass := this
  superClass := sup
  interfaces := ifs
  fields := fds
  methods := ms
  attributes := attrs
def plain (name : String) (sup : Option ClassId) : Class where
  name := name
  kind := .ordinary
  loader := none
  accessFlags := 33
  super := sup
  interfaces := #[]
  cf := none
  fields := #[]
  methods := #[]
  instanceTypes := #[]
  staticTypes := #[]
  resolved := #[]
  callSites := []
  init := .initialized
  statics := none
  mirror := none

def pool0 : Array CpInfo := pool [(5, u "<init>"), (0, u "()V"), (1, .class_ 10), (1, u "java/lang/Object")] 113

def k0m0 : Method := { name := "<init>", desc := "()V", sig := { parameters := [], returnType := none }, accessFlags := 1, code := none }
/-- java/lang/Object -/
def k0 : Class := { plain "java/lang/Object" none with
  accessFlags := 33
  interfaces := #[]
  cf := some (fileOf pool0 8 #[] #[{ accessFlags := 1, nameIndex := 5, descriptorIndex := 6, attributes := #[] }] 33 0 #[] #[])
  fields := #[]
  methods := #[k0m0]
  instanceTypes := #[]
  staticTypes := #[]
  resolved := Array.replicate 124 none
  statics := none }

def pool1 : Array CpInfo := pool [(2, .class_ 4), (1, u "java/lang/Object"), (0, u "<init>"), (0, u "()V"), (0, .methodref 8 9), (0, .class_ 10), (0, .nameAndType 11 12), (0, u "com/example/twigtrim/twigtrim/NodeTests$Numbering"), (0, u "matches"), (0, u "(I[I)Z"), (0, .class_ 14), (0, u "com/example/twigtrim/twigtrim/NumberingMatchesPinLaw"), (2, u "law"), (0, u "(IIIII)Z")] 9

def k1m0 : Method := { name := "<init>", desc := "()V", sig := { parameters := [], returnType := none }, accessFlags := 2, code := none }
def k1c1 : Code := { maxStack := 3, maxLocals := 12, code := code, exceptionTable := #[], attributes := #[] }
def k1m1 : Method := { name := "law", desc := "(IIIII)Z", sig := { parameters := [.int, .int, .int, .int, .int], returnType := some .boolean }, accessFlags := 9, code := some k1c1 }
/-- com/example/twigtrim/twigtrim/NumberingMatchesPinLaw -/
def k1 : Class := { plain "com/example/twigtrim/twigtrim/NumberingMatchesPinLaw" (some 0) with
  accessFlags := 49
  interfaces := #[]
  cf := some (fileOf pool1 13 #[] #[{ accessFlags := 2, nameIndex := 5, descriptorIndex := 6, attributes := #[] }, { accessFlags := 9, nameIndex := 17, descriptorIndex := 18, attributes := #[] }] 49 2 #[] #[])
  fields := #[]
  methods := #[k1m0, k1m1]
  instanceTypes := #[]
  staticTypes := #[]
  resolved := Array.replicate 28 none
  statics := none }

def pool2 : Array CpInfo := pool [(1, .class_ 2), (0, u "com/example/twigtrim/twigtrim/NodeTests"), (1, .class_ 6), (1, u "java/lang/Object"), (0, u "<init>"), (0, u "()V"), (4, .class_ 15), (1, u "com/example/twigtrim/twigtrim/NodeTests$Numbering"), (0, u "names"), (0, u "Ljava/util/Map;"), (2, u "parts"), (63, u "WILDCARD_ONLY"), (0, u "[I"), (49, u "WILDCARD_NUMBER"), (0, u "I"), (16, u "matches"), (0, u "(I[I)Z")] 6

def k2m0 : Method := { name := "<init>", desc := "()V", sig := { parameters := [], returnType := none }, accessFlags := 1, code := none }
def k2c1 : Code := { maxStack := 2, maxLocals := 6, code := prog_35_method_10_code, exceptionTable := #[], attributes := #[] }
def k2m1 : Method := { name := "matches", desc := "(I[I)Z", sig := { parameters := [.int, (.array .int)], returnType := some .boolean }, accessFlags := 9, code := some k2c1 }
/-- com/example/twigtrim/twigtrim/NodeTests$Numbering -/
def k2 : Class := { plain "com/example/twigtrim/twigtrim/NodeTests$Numbering" (some 0) with
  accessFlags := 49
  interfaces := #[]
  cf := some (fileOf pool2 13 #[.nestHost 1] #[{ accessFlags := 1, nameIndex := 7, descriptorIndex := 8, attributes := #[] }, { accessFlags := 9, nameIndex := 153, descriptorIndex := 154, attributes := #[] }] 49 4 #[] #[{ accessFlags := 26, nameIndex := 135, descriptorIndex := 136, attributes := #[] }, { accessFlags := 26, nameIndex := 84, descriptorIndex := 85, attributes := #[] }, { accessFlags := 18, nameIndex := 16, descriptorIndex := 17, attributes := #[] }, { accessFlags := 18, nameIndex := 20, descriptorIndex := 17, attributes := #[] }])
  fields := #[{ name := "WILDCARD_NUMBER", type := .int, accessFlags := 26, slot := 0, constantValue := 0 }, { name := "WILDCARD_ONLY", type := (.array .int), accessFlags := 26, slot := 1, constantValue := 0 }, { name := "names", type := (.object "java/util/Map"), accessFlags := 18, slot := 0, constantValue := 0 }, { name := "parts", type := (.object "java/util/Map"), accessFlags := 18, slot := 1, constantValue := 0 }]
  methods := #[k2m0, k2m1]
  instanceTypes := #[(.object "java/util/Map"), (.object "java/util/Map")]
  staticTypes := #[.int, (.array .int)]
  resolved := Array.replicate 161 none
  statics := none }

def pool3 : Array CpInfo := pool [(1, u "java/lang/Cloneable"), (0, .class_ 1), (0, u "java/lang/Object"), (0, .class_ 3)] 3

/-- java/lang/Cloneable -/
def k3 : Class := { plain "java/lang/Cloneable" (some 0) with
  accessFlags := 1537
  interfaces := #[]
  cf := some (fileOf pool3 2 #[] #[] 1537 4 #[] #[])
  fields := #[]
  methods := #[]
  instanceTypes := #[]
  staticTypes := #[]
  resolved := Array.replicate 8 none
  statics := none }

def pool4 : Array CpInfo := pool [(1, u "java/io/Serializable"), (0, .class_ 1), (0, u "java/lang/Object"), (0, .class_ 3)] 3

/-- java/io/Serializable -/
def k4 : Class := { plain "java/io/Serializable" (some 0) with
  accessFlags := 1537
  interfaces := #[]
  cf := some (fileOf pool4 2 #[] #[] 1537 4 #[] #[])
  fields := #[]
  methods := #[]
  instanceTypes := #[]
  staticTypes := #[]
  resolved := Array.replicate 8 none
  statics := none }

/-- the primitive byte -/
def k5 : Class := { plain "byte" none with kind := .primitive 'B', accessFlags := 0x411 }
/-- [B -/
def k6 : Class := { plain "[B" (some 0) with kind := .array 5 .byte, interfaces := #[3, 4], accessFlags := 1041 }

/-- the primitive int -/
def k7 : Class := { plain "int" none with kind := .primitive 'I', accessFlags := 0x411 }
/-- [I -/
def k8 : Class := { plain "[I" (some 0) with kind := .array 7 .int, interfaces := #[3, 4], accessFlags := 1041 }

def heap : Heap := #[]
def classes : Array Class := #[k0, k1, k2, k3, k4, k5, k6, k7, k8]
def interned : List (Array UInt16 × Addr) := []
def slotsUsed : Nat := 0
def theMethod : MethodId := ⟨1, 1⟩
def args0 : Array Value := #[.int 5, .int 7, .int 3, .int 4, .int 6]
def aboutOver (below : List Frame) : State where
  vm := { classes := classes, interned := interned.toArray }
  heap := heap
  slotsUsed := slotsUsed
  threads := #[{ frames := .invoking theMethod args0 :: below }]
def below0 : List Frame := [.native { method := ⟨0, 0⟩, args := #[] }]
def about1 : State := aboutOver below0
def p0 : Program := .bare "" "" ""
def e0 : Env := launch0.env 0 0 0
theorem w_frames : about1.frames = Frame.invoking theMethod args0 :: below0 := rfl
set_option maxRecDepth 65536 in
theorem w_args : argsFit about1.vm theMethod args0 = true := by decide +kernel
set_option maxRecDepth 65536 in
theorem w_heap : heapFits about1 = true := by decide +kernel
set_option maxRecDepth 65536 in
theorem w_runnable : about1.curStatus? = some .runnable := by decide +kernel
set_option maxRecDepth 65536 in
theorem w_alone : about1.alone = true := by decide +kernel
set_option maxRecDepth 65536 in
theorem w_named : about1.methodNamed? x = some theMethod := by decide +kernel
set_option maxRecDepth 65536 in
theorem w_hears : about1.hears theMethod below0 = true := by decide +kernel
set_option maxRecDepth 65536 in
theorem w_ripe : about1.ripe theMethod args0 below0 = true := by decide +kernel
theorem w_running : about1.status = .running := rfl
set_option maxRecDepth 65536 in
theorem w_room : about1.hasRoom e0.platform room_1 = true :=
  launch0.hasRoom_least _ room_1 (by decide +kernel) (by decide +kernel) (by decide +kernel) (by decide +kernel) (by decide +kernel) (by decide +kernel)
theorem allAtoms_all (ts : List Jvm.Cond) (a : Array Jvm.Value) (st : Jvm.State) : (allAtoms ts).before a st = ts.all (fun c => c.before a st) := by
  induction ts with
  | nil => rfl
  | cons c t ih =>
    show (Jvm.Cond.and c (allAtoms t)).before a st = _
    rw [Jvm.Cond.before_and, ih, List.all_cons]
def words1 : List Jvm.Cond := Jvm.Cond.code x code maxLocals ret :: tables_1
/-- a 'code' word, met by the world's own term for the bytes: nothing is compared byte by byte -/
theorem code_word {y : MethodName} {bytes : ByteArray} {mx : Nat} {rt : Option FieldType} {a : Array Value} {s : State} {m : MethodId} {meth : Method} {c : Code} (h1 : s.methodNamed? y = some m) (h2 : s.vm.method? m = some meth) (h3 : meth.code = some c) (h4 : c.code = bytes)
    (h5 : (c.maxLocals == mx && c.exceptionTable.isEmpty && decide (c.maxStack ≤ mostOperands) && decide (meth.sig.returnType = rt) && !meth.locks && decide (parseMethodDescriptor y.desc = some meth.sig)) = true) : (Jvm.Cond.code y bytes mx rt).before a s = true := by
  simp only [Bool.and_eq_true, beq_iff_eq, Bool.not_eq_true', decide_eq_true_eq] at h5
  obtain ⟨⟨⟨⟨⟨g1, g2⟩, g3⟩, g4⟩, g5⟩, g6⟩ := h5
  simp [Cond.before, Cond.holds, Cond.value, h1, h2, h3, h4, g1, g2, g3, g4, g5, g6]
def isCode : Jvm.Cond → Bool
  | .code _ _ _ _ => true
  | _ => false
theorem all_split {L : List Jvm.Cond} {P : Jvm.Cond → Bool} (h1 : L.all (fun c => isCode c || P c) = true) (h2 : ∀ c ∈ L.filter isCode, P c = true) : L.all P = true := by
  refine List.all_eq_true.mpr fun c hc => ?_
  have h := List.all_eq_true.mp h1 c hc
  rcases Bool.eq_false_or_eq_true (isCode c) with hi | hi
  · exact h2 c (List.mem_filter.mpr ⟨hc, hi⟩)
  · simpa [hi] using h
set_option maxRecDepth 65536 in
theorem w_c0 : (Jvm.Cond.code x code maxLocals ret).before args0 about1 = true := code_word (m := ⟨1, 1⟩) (meth := k1m1) (c := k1c1) (by decide +kernel) rfl rfl rfl (by decide +kernel)
set_option maxRecDepth 65536 in
theorem w_c1 : (Jvm.Cond.code ({ cls := "com/example/twigtrim/twigtrim/NodeTests$Numbering", name := "matches", desc := "(I[I)Z" } : Jvm.MethodName) prog_35_method_10_code (6 : Nat) (Option.some Jvm.ClassFile.FieldType.boolean)).before args0 about1 = true := code_word (m := ⟨2, 1⟩) (meth := k2m1) (c := k2c1) (by decide +kernel) rfl rfl rfl (by decide +kernel)
def codes1 : List Jvm.Cond := [Jvm.Cond.code x code maxLocals ret, Jvm.Cond.code ({ cls := "com/example/twigtrim/twigtrim/NodeTests$Numbering", name := "matches", desc := "(I[I)Z" } : Jvm.MethodName) prog_35_method_10_code (6 : Nat) (Option.some Jvm.ClassFile.FieldType.boolean)]
set_option maxRecDepth 65536 in
theorem codes_eq : words1.filter isCode = codes1 := rfl
theorem w_codes : ∀ c ∈ words1.filter isCode, c.before args0 about1 = true := by
  rw [codes_eq]
  intro c hc
  simp only [codes1, List.mem_cons, List.not_mem_nil, or_false] at hc
  rcases hc with rfl | rfl
  · exact w_c0
  · exact w_c1
set_option maxRecDepth 65536 in
theorem w_t1 : words1.all (fun c => isCode c || c.before args0 about1) = true := by decide +kernel
theorem w_tables : (allAtoms (Jvm.Cond.code x code maxLocals ret :: tables_1)).before args0 about1 = true := by
  rw [allAtoms_all]
  show words1.all (fun c => c.before args0 about1) = true
  refine all_split ?_ w_codes
  rw [w_t1]
set_option maxRecDepth 65536 in
theorem w_case : (Jvm.Cond.and given_1 narrow_1).before args0 about1 = true := by decide +kernel
theorem w_applies : (headSpec (Jvm.Cond.code x code maxLocals ret :: tables_1) room_1).applies x e0.platform about1 = true :=
  (Spec.applies_iff w_frames).mpr ⟨w_running, w_runnable, w_alone, w_named, w_hears, w_ripe, w_room, w_tables⟩
theorem atStart : AtStart classFile x code maxLocals ret World_1 tables_1 room_1 Calls_1 rest_1 Pre_1 launch0 p0 e0 about1 theMethod args0 below0 :=
  ⟨lists_1, trivial, launch0.admits_env _ _ _, launch0.least_env, fairChoices_fair.cas, fairChoices_fair.clock, w_frames, w_args, w_heap, w_applies, trivial, trivial, w_case⟩
end start1
theorem witness_1 : WitnessClaimed_1 := ⟨start1.p0, start1.e0, start1.about1, start1.theMethod, start1.args0, start1.below0, start1.atStart⟩
end Jvm.Pilot.@@N@@
