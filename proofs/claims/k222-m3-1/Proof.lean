import JvmDerived
import JvmDerived.Pilot.@@N@@Statement
import JvmDerived.Pilot.@@N@@Code
set_option linter.unusedVariables false
set_option linter.unusedSimpArgs false
namespace Jvm.RoadKit
open Sem ClassFile Op Lib Jvm.Stand Jvm.Free Jvm.LawKit
section New
variable {p : Program} {l : Launch} {e : Env} {R : Room} {s : State} {m : MethodId} {args : Array Value} {below : List Frame} {meth : Method} {c : Code} {T : State} {locs : List Loc} {cells slots : Nat}
theorem retI (X : Stand p l e R s m args below meth c T locs cells slots) (hx : p.tables.exec = Jvm.exec) {pc : Nat} {Ls : Array Slot} {z : Int32} {rest : List Value} (hret : meth.sig.returnType = some .int) (hd : decode c.code pc = .ok (.ireturn, 1)) {fs : List Frame}
    (hl : ∀ (f : JFrame) (acts : List Action), f.method = m → f.locked = none → f.entered = [] → (doReturn e (T.setTop f) acts (some (.int z))).1 = T.setFrames fs) : Steps p.tables e below (T.setTop (mkF m pc Ls (.int z :: rest))) (T.setFrames fs) := by
  have hm' : T.vm.method? m = some meth := X.method'
  have hn : narrow .int (.int z) = .int z := rfl
  show Steps p.tables e below (T.setTop { method := m, pc := pc, locals := Ls, stack := _ :: rest, locked := none }) _
  jvm_step X.here [X.here.top, hx, hd, hm', hret, hn]
  first | (intro acts; rw [hl _ acts rfl rfl rfl]) | rw [hl _ _ rfl rfl rfl]
  exact Steps.refl _
end New
end Jvm.RoadKit

namespace Jvm.Pilot.@@N@@
open Jvm Jvm.ClassFile Sem Op Lib Jvm.Free Jvm.Stand Jvm.LawKit Jvm.RoadKit Bundle Jvm.Pilot.@@N@@.Jvm.D
section OwnKit
variable {p : Program} {l : Launch} {e : Env} {R : Room} {s : State} {m : MethodId} {args : Array Value} {below : List Frame} {meth : Method} {c : Code} {T W : State} {locs : List Loc} {cells slots : Nat} {Z : State} {a0 : Array Value} {h : Heap} {pc : Nat} {L : Array Slot} {S : List Value}
def Go (p : Program) (e : Env) (below : List Frame) (m : MethodId) (W T : State) (pc : Nat) (L : Array Slot) (S : List Value) : Prop := ∀ t, Steps p.tables e below (T.setTop (mkF m pc L S)) t → Steps p.tables e below W t
theorem Go.iloadN {n : Fin 4} {v : Int32} (k : Go p e below m W T pc L S) (X : Stand p l e R s m args below meth c T locs cells slots) (hx : p.tables.exec = Jvm.exec) (hd : decode c.code pc = .ok (.iload_n n, 1)) (hl : L[n.val]? = some (.val (.int v))) : Go p e below m W T (pc + 1) L (.int v :: S) := fun t kt => k t (Jvm.Free.XS.iloadN X.here hx rfl hd hl kt)
theorem Go.iload {n : Nat} {v : Int32} (k : Go p e below m W T pc L S) (X : Stand p l e R s m args below meth c T locs cells slots) (hx : p.tables.exec = Jvm.exec) (hd : decode c.code pc = .ok (.iload n, 2)) (hl : L[n]? = some (.val (.int v))) : Go p e below m W T (pc + 2) L (.int v :: S) := fun t kt => k t (Jvm.Free.XS.iload X.here hx rfl hd hl kt)
theorem Go.lloadN {n : Fin 4} {v : Int64} (k : Go p e below m W T pc L S) (X : Stand p l e R s m args below meth c T locs cells slots) (hx : p.tables.exec = Jvm.exec) (hd : decode c.code pc = .ok (.lload_n n, 1)) (hl : L[n.val]? = some (.val (.long v))) : Go p e below m W T (pc + 1) L (.long v :: S) := fun t kt => k t (Jvm.Free.XT.lloadN X.here hx rfl hd hl kt)
theorem Go.lload {n : Nat} {v : Int64} (k : Go p e below m W T pc L S) (X : Stand p l e R s m args below meth c T locs cells slots) (hx : p.tables.exec = Jvm.exec) (hd : decode c.code pc = .ok (.lload n, 2)) (hl : L[n]? = some (.val (.long v))) : Go p e below m W T (pc + 2) L (.long v :: S) := fun t kt => k t (Jvm.Free.XT.lload X.here hx rfl hd hl kt)
theorem Go.aloadN {n : Fin 4} {v : Value} (k : Go p e below m W T pc L S) (X : Stand p l e R s m args below meth c T locs cells slots) (hx : p.tables.exec = Jvm.exec) (hd : decode c.code pc = .ok (.aload_n n, 1)) (hl : L[n.val]? = some (.val v)) (hv : v.isRef = true) : Go p e below m W T (pc + 1) L (v :: S) := fun t kt => k t (Jvm.Free.XS.aloadN X.here hx rfl hd hl hv kt)
theorem Go.aload {n : Nat} {v : Value} (k : Go p e below m W T pc L S) (X : Stand p l e R s m args below meth c T locs cells slots) (hx : p.tables.exec = Jvm.exec) (hd : decode c.code pc = .ok (.aload n, 2)) (hl : L[n]? = some (.val v)) (hv : v.isRef = true) : Go p e below m W T (pc + 2) L (v :: S) := fun t kt => k t (Jvm.Free.XS.aload X.here hx rfl hd hl hv kt)
theorem Go.iconst {i : Int} {v : Int32} (k : Go p e below m W T pc L S) (X : Stand p l e R s m args below meth c T locs cells slots) (hx : p.tables.exec = Jvm.exec) (hd : decode c.code pc = .ok (.iconst i, 1)) (hv : Int32.ofInt i = v) : Go p e below m W T (pc + 1) L (.int v :: S) := fun t kt => k t (Jvm.Free.XT.iconstV X.here hx rfl v hd hv kt)
theorem Go.bipush {i : Int} {v : Int32} (k : Go p e below m W T pc L S) (X : Stand p l e R s m args below meth c T locs cells slots) (hx : p.tables.exec = Jvm.exec) (hd : decode c.code pc = .ok (.bipush i, 2)) (hv : (Int8.ofInt i).toInt32 = v) : Go p e below m W T (pc + 2) L (.int v :: S) := fun t kt => k t (Jvm.Free.XT.bipushV X.here hx rfl v hd hv kt)
theorem Go.sipush {i : Int} {v : Int32} (k : Go p e below m W T pc L S) (X : Stand p l e R s m args below meth c T locs cells slots) (hx : p.tables.exec = Jvm.exec) (hd : decode c.code pc = .ok (.sipush i, 3)) (hv : (Int16.ofInt i).toInt32 = v) : Go p e below m W T (pc + 3) L (.int v :: S) := fun t kt => k t (Jvm.Free.XT.sipushV X.here hx rfl v hd hv kt)
theorem Go.lconst {i : Fin 2} {v : Int64} (k : Go p e below m W T pc L S) (X : Stand p l e R s m args below meth c T locs cells slots) (hx : p.tables.exec = Jvm.exec) (hd : decode c.code pc = .ok (.lconst i, 1)) (hv : Int64.ofNat i = v) : Go p e below m W T (pc + 1) L (.long v :: S) := fun t kt => k t (Jvm.Free.XT.lconstV X.here hx rfl v hd hv kt)
theorem Go.aconstNull  (k : Go p e below m W T pc L S) (X : Stand p l e R s m args below meth c T locs cells slots) (hx : p.tables.exec = Jvm.exec) (hd : decode c.code pc = .ok (.aconst_null, 1)) : Go p e below m W T (pc + 1) L (.null :: S) := fun t kt => k t (Jvm.Free.XS.aconstNull X.here hx rfl hd kt)
theorem Go.istoreN {n : Fin 4} {x : Int32} {L' : Array Slot} (k : Go p e below m W T pc L (.int x :: S)) (X : Stand p l e R s m args below meth c T locs cells slots) (hx : p.tables.exec = Jvm.exec) (hd : decode c.code pc = .ok (.istore_n n, 1)) (hl : storeLocals L n.val (.int x) = some L') : Go p e below m W T (pc + 1) L' S := fun t kt => k t (Jvm.Free.XS.istoreN X.here hx rfl hd rfl hl kt)
theorem Go.istore {n : Nat} {x : Int32} {L' : Array Slot} (k : Go p e below m W T pc L (.int x :: S)) (X : Stand p l e R s m args below meth c T locs cells slots) (hx : p.tables.exec = Jvm.exec) (hd : decode c.code pc = .ok (.istore n, 2)) (hl : storeLocals L n (.int x) = some L') : Go p e below m W T (pc + 2) L' S := fun t kt => k t (Jvm.Free.XS.istore X.here hx rfl hd rfl hl kt)
theorem Go.lstoreN {n : Fin 4} {x : Int64} {L' : Array Slot} (k : Go p e below m W T pc L (.long x :: S)) (X : Stand p l e R s m args below meth c T locs cells slots) (hx : p.tables.exec = Jvm.exec) (hd : decode c.code pc = .ok (.lstore_n n, 1)) (hl : storeLocals L n.val (.long x) = some L') : Go p e below m W T (pc + 1) L' S := fun t kt => k t (Jvm.Free.XT.lstoreN X.here hx rfl hd rfl hl kt)
theorem Go.lstore {n : Nat} {x : Int64} {L' : Array Slot} (k : Go p e below m W T pc L (.long x :: S)) (X : Stand p l e R s m args below meth c T locs cells slots) (hx : p.tables.exec = Jvm.exec) (hd : decode c.code pc = .ok (.lstore n, 2)) (hl : storeLocals L n (.long x) = some L') : Go p e below m W T (pc + 2) L' S := fun t kt => k t (Jvm.Free.XT.lstore X.here hx rfl hd rfl hl kt)
theorem Go.astoreN {n : Fin 4} {x : Value} {L' : Array Slot} (k : Go p e below m W T pc L (x :: S)) (X : Stand p l e R s m args below meth c T locs cells slots) (hx : p.tables.exec = Jvm.exec) (hd : decode c.code pc = .ok (.astore_n n, 1)) (hv : x.isRef = true) (hl : storeLocals L n.val x = some L') : Go p e below m W T (pc + 1) L' S := fun t kt => k t (Jvm.Free.XS.astoreN X.here hx rfl hd rfl hv hl kt)
theorem Go.astore {n : Nat} {x : Value} {L' : Array Slot} (k : Go p e below m W T pc L (x :: S)) (X : Stand p l e R s m args below meth c T locs cells slots) (hx : p.tables.exec = Jvm.exec) (hd : decode c.code pc = .ok (.astore n, 2)) (hv : x.isRef = true) (hl : storeLocals L n x = some L') : Go p e below m W T (pc + 2) L' S := fun t kt => k t (Jvm.Free.XS.astore X.here hx rfl hd rfl hv hl kt)
theorem Go.iinc {n : Nat} {i : Int} {x v : Int32} {L' : Array Slot} (k : Go p e below m W T pc L S) (X : Stand p l e R s m args below meth c T locs cells slots) (hx : p.tables.exec = Jvm.exec) (hd : decode c.code pc = .ok (.iinc n i, 3)) (hv : Int32.ofInt i = v) (hl : L[n]? = some (.val (.int x))) (hl' : storeLocals L n (.int (x + v)) = some L') : Go p e below m W T (pc + 3) L' S := fun t kt => k t (Jvm.Free.XT.iincV X.here hx rfl v hd hv hl hl' kt)
theorem Go.iadd {x y : Int32} (k : Go p e below m W T pc L (.int y :: .int x :: S)) (X : Stand p l e R s m args below meth c T locs cells slots) (hx : p.tables.exec = Jvm.exec) (hd : decode c.code pc = .ok (.iadd, 1)) : Go p e below m W T (pc + 1) L (.int (x + y) :: S) := fun t kt => k t (Jvm.Free.XS.iadd X.here hx rfl hd rfl kt)
theorem Go.isub {x y : Int32} (k : Go p e below m W T pc L (.int y :: .int x :: S)) (X : Stand p l e R s m args below meth c T locs cells slots) (hx : p.tables.exec = Jvm.exec) (hd : decode c.code pc = .ok (.isub, 1)) : Go p e below m W T (pc + 1) L (.int (x - y) :: S) := fun t kt => k t (Jvm.Free.XS.isub X.here hx rfl hd rfl kt)
theorem Go.iand {x y : Int32} (k : Go p e below m W T pc L (.int y :: .int x :: S)) (X : Stand p l e R s m args below meth c T locs cells slots) (hx : p.tables.exec = Jvm.exec) (hd : decode c.code pc = .ok (.iand, 1)) : Go p e below m W T (pc + 1) L (.int (x &&& y) :: S) := fun t kt => k t (Jvm.Free.XS.iand X.here hx rfl hd rfl kt)
theorem Go.imul {x y : Int32} (k : Go p e below m W T pc L (.int y :: .int x :: S)) (X : Stand p l e R s m args below meth c T locs cells slots) (hx : p.tables.exec = Jvm.exec) (hd : decode c.code pc = .ok (.imul, 1)) : Go p e below m W T (pc + 1) L (.int (x * y) :: S) := fun t kt => k t (Jvm.Free.XS.imul X.here hx rfl hd rfl kt)
theorem Go.ixor {x y : Int32} (k : Go p e below m W T pc L (.int y :: .int x :: S)) (X : Stand p l e R s m args below meth c T locs cells slots) (hx : p.tables.exec = Jvm.exec) (hd : decode c.code pc = .ok (.ixor, 1)) : Go p e below m W T (pc + 1) L (.int (x ^^^ y) :: S) := fun t kt => k t (Jvm.Free.XT.ixor X.here hx rfl hd rfl kt)
theorem Go.ior {x y : Int32} (k : Go p e below m W T pc L (.int y :: .int x :: S)) (X : Stand p l e R s m args below meth c T locs cells slots) (hx : p.tables.exec = Jvm.exec) (hd : decode c.code pc = .ok (.ior, 1)) : Go p e below m W T (pc + 1) L (.int (x ||| y) :: S) := fun t kt => k t (Jvm.Free.XT.ior X.here hx rfl hd rfl kt)
theorem Go.ishl {x y : Int32} (k : Go p e below m W T pc L (.int y :: .int x :: S)) (X : Stand p l e R s m args below meth c T locs cells slots) (hx : p.tables.exec = Jvm.exec) (hd : decode c.code pc = .ok (.ishl, 1)) : Go p e below m W T (pc + 1) L (.int (x <<< (y &&& 31)) :: S) := fun t kt => k t (Jvm.Free.XT.ishl X.here hx rfl hd rfl kt)
theorem Go.ishr {x y : Int32} (k : Go p e below m W T pc L (.int y :: .int x :: S)) (X : Stand p l e R s m args below meth c T locs cells slots) (hx : p.tables.exec = Jvm.exec) (hd : decode c.code pc = .ok (.ishr, 1)) : Go p e below m W T (pc + 1) L (.int (x >>> (y &&& 31)) :: S) := fun t kt => k t (Jvm.Free.XT.ishr X.here hx rfl hd rfl kt)
theorem Go.iushr {x y : Int32} (k : Go p e below m W T pc L (.int y :: .int x :: S)) (X : Stand p l e R s m args below meth c T locs cells slots) (hx : p.tables.exec = Jvm.exec) (hd : decode c.code pc = .ok (.iushr, 1)) : Go p e below m W T (pc + 1) L (.int (XT.ushr x y) :: S) := fun t kt => k t (Jvm.Free.XT.iushr X.here hx rfl hd rfl kt)
theorem Go.idiv {x y : Int32} (k : Go p e below m W T pc L (.int y :: .int x :: S)) (X : Stand p l e R s m args below meth c T locs cells slots) (hx : p.tables.exec = Jvm.exec) (hd : decode c.code pc = .ok (.idiv, 1)) (hy : y ≠ 0) : Go p e below m W T (pc + 1) L (.int (x / y) :: S) := fun t kt => k t (Jvm.Free.XS.idiv X.here hx rfl hd rfl hy kt)
theorem Go.irem {x y : Int32} (k : Go p e below m W T pc L (.int y :: .int x :: S)) (X : Stand p l e R s m args below meth c T locs cells slots) (hx : p.tables.exec = Jvm.exec) (hd : decode c.code pc = .ok (.irem, 1)) (hy : y ≠ 0) : Go p e below m W T (pc + 1) L (.int (x % y) :: S) := fun t kt => k t (Jvm.RoadKit.iremM X hx rfl hd rfl hy kt)
theorem Go.ineg {x : Int32} (k : Go p e below m W T pc L (.int x :: S)) (X : Stand p l e R s m args below meth c T locs cells slots) (hx : p.tables.exec = Jvm.exec) (hd : decode c.code pc = .ok (.ineg, 1)) : Go p e below m W T (pc + 1) L (.int (-x) :: S) := fun t kt => k t (Jvm.Free.XS.ineg X.here hx rfl hd rfl kt)
theorem Go.ladd {x y : Int64} (k : Go p e below m W T pc L (.long y :: .long x :: S)) (X : Stand p l e R s m args below meth c T locs cells slots) (hx : p.tables.exec = Jvm.exec) (hd : decode c.code pc = .ok (.ladd, 1)) : Go p e below m W T (pc + 1) L (.long (x + y) :: S) := fun t kt => k t (Jvm.Free.XT.ladd X.here hx rfl hd rfl kt)
theorem Go.lsub {x y : Int64} (k : Go p e below m W T pc L (.long y :: .long x :: S)) (X : Stand p l e R s m args below meth c T locs cells slots) (hx : p.tables.exec = Jvm.exec) (hd : decode c.code pc = .ok (.lsub, 1)) : Go p e below m W T (pc + 1) L (.long (x - y) :: S) := fun t kt => k t (Jvm.Free.XT.lsub X.here hx rfl hd rfl kt)
theorem Go.lmul {x y : Int64} (k : Go p e below m W T pc L (.long y :: .long x :: S)) (X : Stand p l e R s m args below meth c T locs cells slots) (hx : p.tables.exec = Jvm.exec) (hd : decode c.code pc = .ok (.lmul, 1)) : Go p e below m W T (pc + 1) L (.long (x * y) :: S) := fun t kt => k t (Jvm.Free.XT.lmul X.here hx rfl hd rfl kt)
theorem Go.land {x y : Int64} (k : Go p e below m W T pc L (.long y :: .long x :: S)) (X : Stand p l e R s m args below meth c T locs cells slots) (hx : p.tables.exec = Jvm.exec) (hd : decode c.code pc = .ok (.land, 1)) : Go p e below m W T (pc + 1) L (.long (x &&& y) :: S) := fun t kt => k t (Jvm.Free.XT.land X.here hx rfl hd rfl kt)
theorem Go.lor {x y : Int64} (k : Go p e below m W T pc L (.long y :: .long x :: S)) (X : Stand p l e R s m args below meth c T locs cells slots) (hx : p.tables.exec = Jvm.exec) (hd : decode c.code pc = .ok (.lor, 1)) : Go p e below m W T (pc + 1) L (.long (x ||| y) :: S) := fun t kt => k t (Jvm.Free.XT.lor X.here hx rfl hd rfl kt)
theorem Go.lxor {x y : Int64} (k : Go p e below m W T pc L (.long y :: .long x :: S)) (X : Stand p l e R s m args below meth c T locs cells slots) (hx : p.tables.exec = Jvm.exec) (hd : decode c.code pc = .ok (.lxor, 1)) : Go p e below m W T (pc + 1) L (.long (x ^^^ y) :: S) := fun t kt => k t (Jvm.Free.XT.lxor X.here hx rfl hd rfl kt)
theorem Go.lshl {x : Int64} {y : Int32} (k : Go p e below m W T pc L (.int y :: .long x :: S)) (X : Stand p l e R s m args below meth c T locs cells slots) (hx : p.tables.exec = Jvm.exec) (hd : decode c.code pc = .ok (.lshl, 1)) : Go p e below m W T (pc + 1) L (.long (x <<< (y.toInt64 &&& 63)) :: S) := fun t kt => k t (Jvm.Free.XT.lshl X.here hx rfl hd rfl kt)
theorem Go.lshr {x : Int64} {y : Int32} (k : Go p e below m W T pc L (.int y :: .long x :: S)) (X : Stand p l e R s m args below meth c T locs cells slots) (hx : p.tables.exec = Jvm.exec) (hd : decode c.code pc = .ok (.lshr, 1)) : Go p e below m W T (pc + 1) L (.long (x >>> (y.toInt64 &&& 63)) :: S) := fun t kt => k t (Jvm.Free.XT.lshr X.here hx rfl hd rfl kt)
theorem Go.lushr {x : Int64} {y : Int32} (k : Go p e below m W T pc L (.int y :: .long x :: S)) (X : Stand p l e R s m args below meth c T locs cells slots) (hx : p.tables.exec = Jvm.exec) (hd : decode c.code pc = .ok (.lushr, 1)) : Go p e below m W T (pc + 1) L (.long (XT.ushrL x y) :: S) := fun t kt => k t (Jvm.Free.XT.lushr X.here hx rfl hd rfl kt)
theorem Go.i2l {x : Int32} (k : Go p e below m W T pc L (.int x :: S)) (X : Stand p l e R s m args below meth c T locs cells slots) (hx : p.tables.exec = Jvm.exec) (hd : decode c.code pc = .ok (.i2l, 1)) : Go p e below m W T (pc + 1) L (.long x.toInt64 :: S) := fun t kt => k t (Jvm.Free.XT.i2l X.here hx rfl hd rfl kt)
theorem Go.l2i {x : Int64} (k : Go p e below m W T pc L (.long x :: S)) (X : Stand p l e R s m args below meth c T locs cells slots) (hx : p.tables.exec = Jvm.exec) (hd : decode c.code pc = .ok (.l2i, 1)) : Go p e below m W T (pc + 1) L (.int x.toInt32 :: S) := fun t kt => k t (Jvm.Free.XT.l2i X.here hx rfl hd rfl kt)
theorem Go.i2b {x : Int32} (k : Go p e below m W T pc L (.int x :: S)) (X : Stand p l e R s m args below meth c T locs cells slots) (hx : p.tables.exec = Jvm.exec) (hd : decode c.code pc = .ok (.i2b, 1)) : Go p e below m W T (pc + 1) L (.int x.toInt8.toInt32 :: S) := fun t kt => k t (Jvm.Free.XT.i2b X.here hx rfl hd rfl kt)
theorem Go.i2c {x : Int32} (k : Go p e below m W T pc L (.int x :: S)) (X : Stand p l e R s m args below meth c T locs cells slots) (hx : p.tables.exec = Jvm.exec) (hd : decode c.code pc = .ok (.i2c, 1)) : Go p e below m W T (pc + 1) L (.int x.toUInt32.toUInt16.toUInt32.toInt32 :: S) := fun t kt => k t (Jvm.Free.XT.i2c X.here hx rfl hd rfl kt)
theorem Go.lcmp {x y : Int64} (k : Go p e below m W T pc L (.long y :: .long x :: S)) (X : Stand p l e R s m args below meth c T locs cells slots) (hx : p.tables.exec = Jvm.exec) (hd : decode c.code pc = .ok (.lcmp, 1)) : Go p e below m W T (pc + 1) L (.int (XT.cmpL x y) :: S) := fun t kt => k t (Jvm.Free.XT.lcmp X.here hx rfl hd rfl kt)
theorem Go.dup {x : Value} (k : Go p e below m W T pc L (x :: S)) (X : Stand p l e R s m args below meth c T locs cells slots) (hx : p.tables.exec = Jvm.exec) (hd : decode c.code pc = .ok (.dup, 1)) (h1 : x.category = 1) : Go p e below m W T (pc + 1) L (x :: x :: S) := fun t kt => k t (Jvm.Free.XS.dup X.here hx rfl hd rfl h1 kt)
theorem Go.pop {x : Value} (k : Go p e below m W T pc L (x :: S)) (X : Stand p l e R s m args below meth c T locs cells slots) (hx : p.tables.exec = Jvm.exec) (hd : decode c.code pc = .ok (.pop, 1)) (h1 : x.category = 1) : Go p e below m W T (pc + 1) L S := fun t kt => k t (Jvm.Free.XT.pop X.here hx rfl hd rfl h1 kt)
theorem Go.dupX1 {x y : Value} (k : Go p e below m W T pc L (x :: y :: S)) (X : Stand p l e R s m args below meth c T locs cells slots) (hx : p.tables.exec = Jvm.exec) (hd : decode c.code pc = .ok (.dup_x1, 1)) (h1 : x.category = 1) (h2 : y.category = 1) : Go p e below m W T (pc + 1) L (x :: y :: x :: S) := fun t kt => k t (Jvm.Free.XT.dupX1 X.here hx rfl hd rfl h1 h2 kt)
theorem Go.dup2 {x y : Value} (k : Go p e below m W T pc L (x :: y :: S)) (X : Stand p l e R s m args below meth c T locs cells slots) (hx : p.tables.exec = Jvm.exec) (hd : decode c.code pc = .ok (.dup2, 1)) (h1 : x.category = 1) (h2 : y.category = 1) : Go p e below m W T (pc + 1) L (x :: y :: x :: y :: S) := fun t kt => k t (Jvm.Free.XT.dup2 X.here hx rfl hd rfl h1 h2 kt)
theorem Go.goto {o : Int} {pc' : Nat} (k : Go p e below m W T pc L S) (X : Stand p l e R s m args below meth c T locs cells slots) (hx : p.tables.exec = Jvm.exec) (hd : decode c.code pc = .ok (.goto o, 3)) (ho : 0 ≤ (pc : Int) + o) (hp : ((pc : Int) + o).toNat = pc') : Go p e below m W T pc' L S := fun t kt => k t (Jvm.Free.XS.goto X.here hx rfl rfl hd ho hp kt)
theorem Go.ifYes {cd : ClassFile.Cond} {o : Int} {pc' : Nat} {x : Int32} (k : Go p e below m W T pc L (.int x :: S)) (X : Stand p l e R s m args below meth c T locs cells slots) (hx : p.tables.exec = Jvm.exec) (hd : decode c.code pc = .ok (.ifCond cd o, 3)) (hc : ifCond.holds cd x = true) (ho : 0 ≤ (pc : Int) + o) (hp : ((pc : Int) + o).toNat = pc') : Go p e below m W T pc' L S := fun t kt => k t (Jvm.Free.XS.ifYes X.here hx rfl rfl hd rfl hc ho hp kt)
theorem Go.ifNo {cd : ClassFile.Cond} {o : Int} {x : Int32} (k : Go p e below m W T pc L (.int x :: S)) (X : Stand p l e R s m args below meth c T locs cells slots) (hx : p.tables.exec = Jvm.exec) (hd : decode c.code pc = .ok (.ifCond cd o, 3)) (hc : ifCond.holds cd x = false) : Go p e below m W T (pc + 3) L S := fun t kt => k t (Jvm.Free.XS.ifNo X.here hx rfl hd rfl hc kt)
theorem Go.icmpYes {cd : ClassFile.Cond} {o : Int} {pc' : Nat} {x y : Int32} (k : Go p e below m W T pc L (.int y :: .int x :: S)) (X : Stand p l e R s m args below meth c T locs cells slots) (hx : p.tables.exec = Jvm.exec) (hd : decode c.code pc = .ok (.if_icmp cd o, 3)) (hc : if_icmp.holds cd x y = true) (ho : 0 ≤ (pc : Int) + o) (hp : ((pc : Int) + o).toNat = pc') : Go p e below m W T pc' L S := fun t kt => k t (Jvm.Free.XS.icmpYes X.here hx rfl rfl hd rfl hc ho hp kt)
theorem Go.icmpNo {cd : ClassFile.Cond} {o : Int} {x y : Int32} (k : Go p e below m W T pc L (.int y :: .int x :: S)) (X : Stand p l e R s m args below meth c T locs cells slots) (hx : p.tables.exec = Jvm.exec) (hd : decode c.code pc = .ok (.if_icmp cd o, 3)) (hc : if_icmp.holds cd x y = false) : Go p e below m W T (pc + 3) L S := fun t kt => k t (Jvm.Free.XS.icmpNo X.here hx rfl hd rfl hc kt)
theorem Go.nullYes {o : Int} {pc' : Nat} {v : Value} (k : Go p e below m W T pc L (v :: S)) (X : Stand p l e R s m args below meth c T locs cells slots) (hx : p.tables.exec = Jvm.exec) (hd : decode c.code pc = .ok (.ifnull o, 3)) (hv : v = .null) (ho : 0 ≤ (pc : Int) + o) (hp : ((pc : Int) + o).toNat = pc') : Go p e below m W T pc' L S := fun t kt => k t (Jvm.Free.XT.nullYes X.here hx rfl rfl hd rfl hv ho hp kt)
theorem Go.nullNo {o : Int} {v : Value} (k : Go p e below m W T pc L (v :: S)) (X : Stand p l e R s m args below meth c T locs cells slots) (hx : p.tables.exec = Jvm.exec) (hd : decode c.code pc = .ok (.ifnull o, 3)) (hr : v.isRef = true) (hv : ¬ v = .null) : Go p e below m W T (pc + 3) L S := fun t kt => k t (Jvm.Free.XT.nullNo X.here hx rfl hd rfl hr hv kt)
theorem Go.nonnullYes {o : Int} {pc' : Nat} {v : Value} (k : Go p e below m W T pc L (v :: S)) (X : Stand p l e R s m args below meth c T locs cells slots) (hx : p.tables.exec = Jvm.exec) (hd : decode c.code pc = .ok (.ifnonnull o, 3)) (hr : v.isRef = true) (hv : ¬ v = .null) (ho : 0 ≤ (pc : Int) + o) (hp : ((pc : Int) + o).toNat = pc') : Go p e below m W T pc' L S := fun t kt => k t (Jvm.Free.XT.nonnullYes X.here hx rfl rfl hd rfl hr hv ho hp kt)
theorem Go.nonnullNo {o : Int} {v : Value} (k : Go p e below m W T pc L (v :: S)) (X : Stand p l e R s m args below meth c T locs cells slots) (hx : p.tables.exec = Jvm.exec) (hd : decode c.code pc = .ok (.ifnonnull o, 3)) (hv : v = .null) : Go p e below m W T (pc + 3) L S := fun t kt => k t (Jvm.Free.XT.nonnullNo X.here hx rfl hd rfl hv kt)
theorem Go.acmpYes {cd : ClassFile.ACond} {o : Int} {pc' : Nat} {x y : Value} (k : Go p e below m W T pc L (y :: x :: S)) (X : Stand p l e R s m args below meth c T locs cells slots) (hx : p.tables.exec = Jvm.exec) (hd : decode c.code pc = .ok (.if_acmp cd o, 3)) (h1 : x.isRef = true) (h2 : y.isRef = true) (hc : XT.acmp cd x y = true) (ho : 0 ≤ (pc : Int) + o) (hp : ((pc : Int) + o).toNat = pc') : Go p e below m W T pc' L S := fun t kt => k t (Jvm.Free.XT.acmpYes X.here hx rfl rfl hd rfl h1 h2 hc ho hp kt)
theorem Go.acmpNo {cd : ClassFile.ACond} {o : Int} {x y : Value} (k : Go p e below m W T pc L (y :: x :: S)) (X : Stand p l e R s m args below meth c T locs cells slots) (hx : p.tables.exec = Jvm.exec) (hd : decode c.code pc = .ok (.if_acmp cd o, 3)) (h1 : x.isRef = true) (h2 : y.isRef = true) (hc : XT.acmp cd x y = false) : Go p e below m W T (pc + 3) L S := fun t kt => k t (Jvm.Free.XT.acmpNo X.here hx rfl hd rfl h1 h2 hc kt)
theorem Go.tsw {dflt low high : Int} {offs : Array Int} {len : Nat} {o : Int} {pc' : Nat} {i : Int32} (k : Go p e below m W T pc L (.int i :: S)) (X : Stand p l e R s m args below meth c T locs cells slots) (hx : p.tables.exec = Jvm.exec) (hd : decode c.code pc = .ok (.tableswitch dflt low high offs, len)) (hin : ¬ (i.toInt < low ∨ i.toInt > high)) (hoff : offs[(i.toInt - low).toNat]? = some o) (ho : 0 ≤ (pc : Int) + o) (hp : ((pc : Int) + o).toNat = pc') : Go p e below m W T pc' L S := fun t kt => k t (Jvm.Free.XS.tswIn X.here hx rfl rfl hd rfl hin hoff ho hp kt)
theorem Go.ldcI {own : String} {index : Nat} {v : Int32} (k : Go p e below m W T pc L S) (X : Stand p l e R s m args below meth c T locs cells slots) (hx : p.tables.exec = Jvm.exec) (hZ : Z.Warmed39 s.vm) (hown : s.vm.findClass own = some m.cls) (w : (Cond.constant own index v).before a0 Z = true) (hd : decode c.code pc = .ok (.ldc index, 2)) : Go p e below m W T (pc + 2) L (.int v :: S) := fun t kt => k t (Jvm.Stand.ldcI X hx hown (mvT hZ w) rfl hd kt)
theorem Go.ldc2J {own : String} {index : Nat} {v : Int64} (k : Go p e below m W T pc L S) (X : Stand p l e R s m args below meth c T locs cells slots) (hx : p.tables.exec = Jvm.exec) (hZ : Z.Warmed39 s.vm) (hown : s.vm.findClass own = some m.cls) (w : (Cond.constantLong own index v).before a0 Z = true) (hd : decode c.code pc = .ok (.ldc2_w index, 3)) : Go p e below m W T (pc + 3) L (.long v :: S) := fun t kt => k t (Jvm.Stand.ldc2J X hx hown (mvT hZ w) rfl hd kt)
theorem Go.getF {own R0 O n d host : String} {index : Nat} {a : Addr} {v : Value} (k : Go p e below m W T pc L (.ref a :: S)) (X : Stand p l e R s m args below meth c T locs cells slots) (hx : p.tables.exec = Jvm.exec) (hZ : Z.Warmed39 s.vm) (hown : s.vm.findClass own = some m.cls) (w : (Cond.fieldLink own index R0 n d).before a0 Z = true ∨ (Cond.fieldLinkNest own index R0 n d host).before a0 Z = true) (via : Via Z R0 O n d) (eT : T.heap = h) (F : Fld Z h a O n d v) (hd : decode c.code pc = .ok (.getfield index, 3)) :
    ∃ T', Stand p l e R s m args below meth c T' locs cells slots ∧ T'.heap = h ∧ Go p e below m W T' (pc + 3) L (v :: S) := by
  obtain ⟨T', X', e', st⟩ := Jvm.RoadKit.getF X hx hZ hown w via eT F (g := mkF m pc L (.ref a :: S)) rfl rfl hd
  exact ⟨T', X', e', fun t kt => k t (st t kt)⟩
theorem Go.getS {own R0 O n d host : String} {index : Nat} {v : Value} (k : Go p e below m W T pc L S) (X : Stand p l e R s m args below meth c T locs cells slots) (hx : p.tables.exec = Jvm.exec) (hZ : Z.Warmed39 s.vm) (hown : s.vm.findClass own = some m.cls) (w : (Cond.fieldLink own index R0 n d).before a0 Z = true ∨ (Cond.fieldLinkNest own index R0 n d host).before a0 Z = true) (via : Via Z R0 O n d) (eT : T.heap = h) (F : Sta Z h O n d v) (hd : decode c.code pc = .ok (.getstatic index, 3)) :
    ∃ T', Stand p l e R s m args below meth c T' locs cells slots ∧ T'.heap = h ∧ Go p e below m W T' (pc + 3) L (v :: S) := by
  obtain ⟨T', X', e', st⟩ := Jvm.RoadKit.getS2 X hx hZ hown w via eT F (g := mkF m pc L S) rfl hd
  exact ⟨T', X', e', fun t kt => k t (st t kt)⟩
theorem Go.putF {own R0 O n d host C : String} {index kk : Nat} {ty : FieldType} {a : Addr} {v old : Value} (k : Go p e below m W T pc L (v :: .ref a :: S)) (X : Stand p l e R s m args below meth c T locs cells slots) (hx : p.tables.exec = Jvm.exec) (hZ : Z.Warmed39 s.vm) (hown : s.vm.findClass own = some m.cls) (w : (Cond.fieldLink own index R0 n d).before a0 Z = true ∨ (Cond.fieldLinkNest own index R0 n d host).before a0 Z = true) (via : Via Z R0 O n d) (eT : T.heap = h) (F : Fld Z h a O n d old) (E : Exa Z h a C)
    (Ly : (Cond.lays C O n d).before a0 Z = true ∨ ((Cond.laysFinal C O n d).before a0 Z = true ∧ own = O ∧ meth.name = "<init>")) (wi : (Cond.instantiable C kk).before a0 Z = true) (hty : parseFieldDescriptor d = some ty) (hn : narrow ty v = v) (hf : fits ty v = true) {n0 : Nat} (N : Fr n0 locs) (g0 : n0 ≤ a) (hd : decode c.code pc = .ok (.putfield index, 3)) :
    ∃ T' h' locs', Stand p l e R s m args below meth c T' locs' cells slots ∧ T'.heap = h' ∧ Wr h h' a (Jvm.RoadKit.slotOf Z O n d) v ∧ Fr n0 locs' ∧ Go p e below m W T' (pc + 3) L S := by
  obtain ⟨T', h', X', e', W', st⟩ := Jvm.RoadKit.putF X hx hZ hown w via eT F E Ly wi hty hn hf (g := mkF m pc L (v :: .ref a :: S)) rfl rfl hd
  exact ⟨T', h', _, X', e', W', Fr.snoc X' N g0, fun t kt => k t (st t kt)⟩
theorem Go.newO {own C : String} {index n cells' slots' : Nat} (k : Go p e below m W T pc L S) (X : Stand p l e R s m args below meth c T locs cells slots) (hx : p.tables.exec = Jvm.exec) (hZ : Z.Warmed39 s.vm) (hown : s.vm.findClass own = some m.cls) (w : (Cond.classLink own index C).before a0 Z = true) (wi : (Cond.instantiable C n).before a0 Z = true) (wz : (Cond.initialized C).before a0 Z = true) (eT : T.heap = h) (hd : decode c.code pc = .ok (.new index, 3)) (h1 : cells + 1 = cells') (h2 : slots + n = slots') (h3 : cells' ≤ R.cells) (h4 : slots' ≤ R.slots) :
    ∃ T' h' b, Stand p l e R s m args below meth c T' locs cells' slots' ∧ T'.heap = h' ∧ b = h.size ∧ Ext h h' ∧ Exa Z h' b C ∧ (∀ {O nm d : String} {ty : FieldType}, Laid Z a0 C O nm d → parseFieldDescriptor d = some ty → Fld Z h' b O nm d (defaultValue ty)) ∧ Go p e below m W T' (pc + 3) L (.ref b :: S) := by
  subst h1 h2
  obtain ⟨T', h', X', e', E', A', D', -, st⟩ := Jvm.RoadKit.newO X hx hZ hown w wi wz eT (g := mkF m pc L S) rfl hd h3 h4
  exact ⟨T', h', _, X', e', rfl, E', A', D', fun t kt => k t (st t kt)⟩
theorem Go.initO {own : String} {idx Wd : Nat} {a : Addr} (k : Go p e below m W T pc L (.ref a :: S)) (X : Stand p l e R s m args below meth c T locs cells slots) (hx : p.tables.exec = Jvm.exec) (hZ : Z.Warmed39 s.vm) (hown : s.vm.findClass own = some m.cls) (hsz : L.size = c.maxLocals) (w1 : (Cond.methodLink own idx Lib.objectInit).before a0 Z = true) (w2 : (Cond.instanceMethod Lib.objectInit).before a0 Z = true)
    (w3 : (Cond.code Lib.objectInit ⟨#[0xb1]⟩ 1 none).before a0 Z = true) (eT : T.heap = h) (hd : decode c.code pc = .ok (.invokespecial idx, 3)) (hW : (S.map fun v => v.category).sum ≤ Wd) (hf : 1 ≤ R.frames) (hl : Wd + 12 ≤ R.locals) :
    ∃ T', Stand p l e R s m args below meth c T' locs cells slots ∧ T'.heap = h ∧ Go p e below m W T' (pc + 3) L S := by
  obtain ⟨T', X', e', st⟩ := Jvm.RoadKit.initO X hx hZ hown w1 w2 w3 eT (g := mkF m pc L (.ref a :: S)) rfl hsz rfl hd hf (W := Wd) (by show 2 * 0 + _ ≤ _; rw [Nat.mul_zero, Nat.zero_add]; exact hW) hl
  exact ⟨T', X', e', fun t kt => k t (st t kt)⟩
theorem Go.virtB {own C : String} {index : Nat} {y z : MethodName} {Wd cells' slots' : Nat} {b : Addr} {argsL rest : List Value} {Q : Option Value → Heap → List Loc → Prop} {as' : Array Value} {ps : List FieldType} {r : Option FieldType} {rc rs : Nat}
    (k : Go p e below m W T pc L S) (X : Stand p l e R s m args below meth c T locs cells slots) (hx : p.tables.exec = Jvm.exec) (hZ : Z.Warmed39 s.vm) (hown : s.vm.findClass own = some m.cls) (hsz : L.size = c.maxLocals)
    (w1 : (Cond.methodLink own index y).before a0 Z = true) (w2 : (Cond.declares y).before a0 Z = true) (hnf : NotFace s y) (w3 : (Cond.selects C y z).before a0 Z = true) (w4 : (Cond.instanceMethod z).before a0 Z = true) (hd : decode c.code pc = .ok (.invokevirtual index, 3)) (hy : y.cls ≠ "java/lang/invoke/MethodHandle" ∧ y.cls ≠ "java/lang/invoke/VarHandle")
    (hK : Back l R p e below s args z 3 Wd (fun A a => a = as' ∧ A.U.heap = h ∧ A.cells + rc ≤ R.cells ∧ A.slots + rs ≤ R.slots) (fun A _ v B => ∃ L, Q v B.U.heap L ∧ B.locs = A.locs ++ L ∧ B.cells = A.cells + rc ∧ B.slots = A.slots + rs))
    (eT : T.heap = h) (E : Exa Z h b C) (hs : S = argsL.reverse ++ .ref b :: rest) (ha : (.ref b :: argsL).toArray = as') (hp : parseMethodDescriptor y.desc = some ⟨ps, r⟩) (hlen : argsL.length = ps.length) (hW : (rest.map fun v => v.category).sum ≤ Wd) (h1 : cells + rc = cells') (h2 : slots + rs = slots') (h3 : cells' ≤ R.cells) (h4 : slots' ≤ R.slots) :
    ∃ T' v L', Stand p l e R s m args below meth c T' (locs ++ L') cells' slots' ∧ Q v T'.heap L' ∧ Go p e below m W T' (pc + 3) L (v.toList ++ rest) := by
  subst hs h1 h2
  obtain ⟨cq, kq, qa, qb, qc⟩ := isOf hZ eT E
  obtain ⟨v, _, ⟨T', L', k', n'⟩, -, X', ⟨Lc, hQ, l1, y1, z1⟩, st⟩ := X.virtualBack hx (y := y) (z := z) hown (mvT hZ w1) (mvT hZ w2) hnf (mvT hZ w3) (mvT hZ w4) hy hK qa qc (g := mkF m pc L (argsL.reverse ++ .ref b :: rest)) rfl hsz (Steps.refl _) (argsL := argsL) (rest := rest) (lenOf hp hlen) rfl (by show 2 * 0 + _ ≤ _; rw [Nat.mul_zero, Nat.zero_add]; exact hW) hd (fun _ _ => ⟨ha, eT, h3, h4⟩)
  dsimp only [Pt.U, Pt.locs, Pt.cells, Pt.slots] at X' l1 y1 z1 st hQ
  subst l1 y1 z1
  exact ⟨T', v, Lc, X', hQ, fun t kt => k t (st.trans kt)⟩
theorem Go.virt {own C : String} {index : Nat} {y z : MethodName} {Wd cells' slots' : Nat} {b : Addr} {argsL rest : List Value} {Q : Option Value → Heap → List Loc → Prop} {as' : Array Value} {ps : List FieldType} {r : Option FieldType} {bytes : ByteArray} {maxL : Nat} {ret : Option FieldType} {rm : Room}
    (k : Go p e below m W T pc L S) (X : Stand p l e R s m args below meth c T locs cells slots) (hx : p.tables.exec = Jvm.exec) (hZ : Z.Warmed39 s.vm) (hown : s.vm.findClass own = some m.cls) (hsz : L.size = c.maxLocals)
    (w1 : (Cond.methodLink own index y).before a0 Z = true) (w2 : (Cond.declares y).before a0 Z = true) (hnf : NotFace s y) (w3 : (Cond.selects C y z).before a0 Z = true) (w4 : (Cond.instanceMethod z).before a0 Z = true) (wc : (Cond.code z bytes maxL ret).before a0 Z = true) (wz : (Cond.initialized z.cls).before a0 Z = true) (hd : decode c.code pc = .ok (.invokevirtual index, 3)) (hy : y.cls ≠ "java/lang/invoke/MethodHandle" ∧ y.cls ≠ "java/lang/invoke/VarHandle")
    (hM : MetFree l z (head1 [Cond.code z bytes maxL ret] rm) (fun a U => a = as' ∧ Z.Warmed39 U.vm ∧ U.heap = h) (fun _ _ _ _ _ => True) (fun _ U o U' => ∃ v L, o = .returned v ∧ Q v U'.heap L ∧ FrameEnd U o U' L rm.cells rm.slots))
    (eT : T.heap = h) (E : Exa Z h b C) (hs : S = argsL.reverse ++ .ref b :: rest) (ha : (.ref b :: argsL).toArray = as') (hp : parseMethodDescriptor y.desc = some ⟨ps, r⟩) (hlen : argsL.length = ps.length) (hW : (rest.map fun v => v.category).sum ≤ Wd) (hf : rm.frames + 1 ≤ R.frames) (hl : Wd + (maxL + 11) + rm.locals ≤ R.locals) (h1 : cells + rm.cells = cells') (h2 : slots + rm.slots = slots') (h3 : cells' ≤ R.cells) (h4 : slots' ≤ R.slots) :
    ∃ T' v L', Stand p l e R s m args below meth c T' (locs ++ L') cells' slots' ∧ Q v T'.heap L' ∧ Go p e below m W T' (pc + 3) L (v.toList ++ rest) :=
  Go.virtB (Wd := Wd) k X hx hZ hown hsz w1 w2 hnf w3 w4 hd hy (backOf (W := Wd) hM hZ wc wz hf hl) eT E hs ha hp hlen hW h1 h2 h3 h4
theorem Go.virtUpB {own C owner : String} {index : Nat} {y z : MethodName} {Wd cells' slots' : Nat} {b : Addr} {argsL rest : List Value} {Q : Option Value → Heap → List Loc → Prop} {as' : Array Value} {ps : List FieldType} {r : Option FieldType} {rc rs : Nat}
    (k : Go p e below m W T pc L S) (X : Stand p l e R s m args below meth c T locs cells slots) (hx : p.tables.exec = Jvm.exec) (hZ : Z.Warmed39 s.vm) (hown : s.vm.findClass own = some m.cls) (hsz : L.size = c.maxLocals)
    (w1 : (Cond.methodLink own index y).before a0 Z = true) (w2 : (Cond.sameMethod y.cls owner y.name y.desc).before a0 Z = true) (w5 : (Cond.declares ⟨owner, y.name, y.desc⟩).before a0 Z = true) (w3 : (Cond.selects C y z).before a0 Z = true) (w4 : (Cond.instanceMethod z).before a0 Z = true) (hd : decode c.code pc = .ok (.invokevirtual index, 3)) (hy : owner ≠ "java/lang/invoke/MethodHandle" ∧ owner ≠ "java/lang/invoke/VarHandle")
    (hK : Back l R p e below s args z 3 Wd (fun A a => a = as' ∧ A.U.heap = h ∧ A.cells + rc ≤ R.cells ∧ A.slots + rs ≤ R.slots) (fun A _ v B => ∃ L, Q v B.U.heap L ∧ B.locs = A.locs ++ L ∧ B.cells = A.cells + rc ∧ B.slots = A.slots + rs))
    (eT : T.heap = h) (E : Exa Z h b C) (hs : S = argsL.reverse ++ .ref b :: rest) (ha : (.ref b :: argsL).toArray = as') (hp : parseMethodDescriptor y.desc = some ⟨ps, r⟩) (hlen : argsL.length = ps.length) (hW : (rest.map fun v => v.category).sum ≤ Wd) (h1 : cells + rc = cells') (h2 : slots + rs = slots') (h3 : cells' ≤ R.cells) (h4 : slots' ≤ R.slots) :
    ∃ T' v L', Stand p l e R s m args below meth c T' (locs ++ L') cells' slots' ∧ Q v T'.heap L' ∧ Go p e below m W T' (pc + 3) L (v.toList ++ rest) := by
  subst hs h1 h2
  obtain ⟨cq, kq, qa, qb, qc⟩ := isOf hZ eT E
  obtain ⟨v, _, ⟨T', L', k', n'⟩, -, X', ⟨Lc, hQ, l1, y1, z1⟩, st⟩ := X.virtualBackUp hx (x := y) (y := z) (owner := owner) hown (mvT hZ w1) (mvT hZ w2) (mvT hZ w5) hy (mvT hZ w3) (mvT hZ w4) hK qa qc (g := mkF m pc L (argsL.reverse ++ .ref b :: rest)) rfl hsz (Steps.refl _) (argsL := argsL) (rest := rest) (lenOf hp hlen) rfl (by show 2 * 0 + _ ≤ _; rw [Nat.mul_zero, Nat.zero_add]; exact hW) hd (fun _ _ => ⟨ha, eT, h3, h4⟩)
  dsimp only [Pt.U, Pt.locs, Pt.cells, Pt.slots] at X' l1 y1 z1 st hQ
  subst l1 y1 z1
  exact ⟨T', v, Lc, X', hQ, fun t kt => k t (st.trans kt)⟩
theorem Go.virtUp {own C owner : String} {index : Nat} {y z : MethodName} {Wd cells' slots' : Nat} {b : Addr} {argsL rest : List Value} {Q : Option Value → Heap → List Loc → Prop} {as' : Array Value} {ps : List FieldType} {r : Option FieldType} {bytes : ByteArray} {maxL : Nat} {ret : Option FieldType} {rm : Room}
    (k : Go p e below m W T pc L S) (X : Stand p l e R s m args below meth c T locs cells slots) (hx : p.tables.exec = Jvm.exec) (hZ : Z.Warmed39 s.vm) (hown : s.vm.findClass own = some m.cls) (hsz : L.size = c.maxLocals)
    (w1 : (Cond.methodLink own index y).before a0 Z = true) (w2 : (Cond.sameMethod y.cls owner y.name y.desc).before a0 Z = true) (w5 : (Cond.declares ⟨owner, y.name, y.desc⟩).before a0 Z = true) (w3 : (Cond.selects C y z).before a0 Z = true) (w4 : (Cond.instanceMethod z).before a0 Z = true) (wc : (Cond.code z bytes maxL ret).before a0 Z = true) (wz : (Cond.initialized z.cls).before a0 Z = true) (hd : decode c.code pc = .ok (.invokevirtual index, 3)) (hy : owner ≠ "java/lang/invoke/MethodHandle" ∧ owner ≠ "java/lang/invoke/VarHandle")
    (hM : MetFree l z (head1 [Cond.code z bytes maxL ret] rm) (fun a U => a = as' ∧ Z.Warmed39 U.vm ∧ U.heap = h) (fun _ _ _ _ _ => True) (fun _ U o U' => ∃ v L, o = .returned v ∧ Q v U'.heap L ∧ FrameEnd U o U' L rm.cells rm.slots))
    (eT : T.heap = h) (E : Exa Z h b C) (hs : S = argsL.reverse ++ .ref b :: rest) (ha : (.ref b :: argsL).toArray = as') (hp : parseMethodDescriptor y.desc = some ⟨ps, r⟩) (hlen : argsL.length = ps.length) (hW : (rest.map fun v => v.category).sum ≤ Wd) (hf : rm.frames + 1 ≤ R.frames) (hl : Wd + (maxL + 11) + rm.locals ≤ R.locals) (h1 : cells + rm.cells = cells') (h2 : slots + rm.slots = slots') (h3 : cells' ≤ R.cells) (h4 : slots' ≤ R.slots) :
    ∃ T' v L', Stand p l e R s m args below meth c T' (locs ++ L') cells' slots' ∧ Q v T'.heap L' ∧ Go p e below m W T' (pc + 3) L (v.toList ++ rest) :=
  Go.virtUpB (Wd := Wd) (owner := owner) k X hx hZ hown hsz w1 w2 w5 w3 w4 hd hy (backOf (W := Wd) hM hZ wc wz hf hl) eT E hs ha hp hlen hW h1 h2 h3 h4
theorem Go.ifaceB {own C : String} {index count : Nat} {y z : MethodName} {Wd cells' slots' : Nat} {b : Addr} {argsL rest : List Value} {Q : Option Value → Heap → List Loc → Prop} {as' : Array Value} {ps : List FieldType} {r : Option FieldType} {rc rs : Nat}
    (k : Go p e below m W T pc L S) (X : Stand p l e R s m args below meth c T locs cells slots) (hx : p.tables.exec = Jvm.exec) (hZ : Z.Warmed39 s.vm) (hown : s.vm.findClass own = some m.cls) (hsz : L.size = c.maxLocals)
    (w1 : (Cond.methodLink own index y).before a0 Z = true) (w2 : (Cond.declares y).before a0 Z = true) (w5 : (Cond.interfaceMethod y.cls y.cls y.name y.desc).before args s = true) (w3 : (Cond.selects C y z).before a0 Z = true) (w4 : (Cond.instanceMethod z).before a0 Z = true) (w6 : (Cond.publicMethod z).before a0 Z = true) (w7 : (Cond.unhidden C y.name y.desc).before a0 Z = true) (w8 : (Cond.castable C y.cls).before a0 Z = true) (hd : decode c.code pc = .ok (.invokeinterface index count, 5)) (hy : y.cls ≠ "java/lang/invoke/MethodHandle" ∧ y.cls ≠ "java/lang/invoke/VarHandle")
    (hK : Back l R p e below s args z 5 Wd (fun A a => a = as' ∧ A.U.heap = h ∧ A.cells + rc ≤ R.cells ∧ A.slots + rs ≤ R.slots) (fun A _ v B => ∃ L, Q v B.U.heap L ∧ B.locs = A.locs ++ L ∧ B.cells = A.cells + rc ∧ B.slots = A.slots + rs))
    (eT : T.heap = h) (E : Exa Z h b C) (hs : S = argsL.reverse ++ .ref b :: rest) (ha : (.ref b :: argsL).toArray = as') (hp : parseMethodDescriptor y.desc = some ⟨ps, r⟩) (hlen : argsL.length = ps.length) (hW : (rest.map fun v => v.category).sum ≤ Wd) (h1 : cells + rc = cells') (h2 : slots + rs = slots') (h3 : cells' ≤ R.cells) (h4 : slots' ≤ R.slots) :
    ∃ T' v L', Stand p l e R s m args below meth c T' (locs ++ L') cells' slots' ∧ Q v T'.heap L' ∧ Go p e below m W T' (pc + 5) L (v.toList ++ rest) := by
  subst hs h1 h2
  obtain ⟨cq, kq, qa, qb, qc⟩ := isOf hZ eT E
  obtain ⟨v, _, ⟨T', L', k', n'⟩, -, X', ⟨Lc, hQ, l1, y1, z1⟩, st⟩ := X.interfaceBack hx (xi := y) (y := z) (count := count) hown (mvT hZ w1) (mvT hZ w2) w5 (mvT hZ w3) (mvT hZ w4) (mvT hZ w6) (mvT hZ w7) (mvT hZ w8) hy hK qa qb qc (g := mkF m pc L (argsL.reverse ++ .ref b :: rest)) rfl hsz (Steps.refl _) (argsL := argsL) (rest := rest) (lenOf hp hlen) rfl (by show 2 * 0 + _ ≤ _; rw [Nat.mul_zero, Nat.zero_add]; exact hW) hd (fun _ _ => ⟨ha, eT, h3, h4⟩)
  dsimp only [Pt.U, Pt.locs, Pt.cells, Pt.slots] at X' l1 y1 z1 st hQ
  subst l1 y1 z1
  exact ⟨T', v, Lc, X', hQ, fun t kt => k t (st.trans kt)⟩
theorem Go.iface {own C : String} {index count : Nat} {y z : MethodName} {Wd cells' slots' : Nat} {b : Addr} {argsL rest : List Value} {Q : Option Value → Heap → List Loc → Prop} {as' : Array Value} {ps : List FieldType} {r : Option FieldType} {bytes : ByteArray} {maxL : Nat} {ret : Option FieldType} {rm : Room}
    (k : Go p e below m W T pc L S) (X : Stand p l e R s m args below meth c T locs cells slots) (hx : p.tables.exec = Jvm.exec) (hZ : Z.Warmed39 s.vm) (hown : s.vm.findClass own = some m.cls) (hsz : L.size = c.maxLocals)
    (w1 : (Cond.methodLink own index y).before a0 Z = true) (w2 : (Cond.declares y).before a0 Z = true) (w5 : (Cond.interfaceMethod y.cls y.cls y.name y.desc).before args s = true) (w3 : (Cond.selects C y z).before a0 Z = true) (w4 : (Cond.instanceMethod z).before a0 Z = true) (w6 : (Cond.publicMethod z).before a0 Z = true) (w7 : (Cond.unhidden C y.name y.desc).before a0 Z = true) (w8 : (Cond.castable C y.cls).before a0 Z = true) (wc : (Cond.code z bytes maxL ret).before a0 Z = true) (wz : (Cond.initialized z.cls).before a0 Z = true) (hd : decode c.code pc = .ok (.invokeinterface index count, 5)) (hy : y.cls ≠ "java/lang/invoke/MethodHandle" ∧ y.cls ≠ "java/lang/invoke/VarHandle")
    (hM : MetFree l z (head1 [Cond.code z bytes maxL ret] rm) (fun a U => a = as' ∧ Z.Warmed39 U.vm ∧ U.heap = h) (fun _ _ _ _ _ => True) (fun _ U o U' => ∃ v L, o = .returned v ∧ Q v U'.heap L ∧ FrameEnd U o U' L rm.cells rm.slots))
    (eT : T.heap = h) (E : Exa Z h b C) (hs : S = argsL.reverse ++ .ref b :: rest) (ha : (.ref b :: argsL).toArray = as') (hp : parseMethodDescriptor y.desc = some ⟨ps, r⟩) (hlen : argsL.length = ps.length) (hW : (rest.map fun v => v.category).sum ≤ Wd) (hf : rm.frames + 1 ≤ R.frames) (hl : Wd + (maxL + 11) + rm.locals ≤ R.locals) (h1 : cells + rm.cells = cells') (h2 : slots + rm.slots = slots') (h3 : cells' ≤ R.cells) (h4 : slots' ≤ R.slots) :
    ∃ T' v L', Stand p l e R s m args below meth c T' (locs ++ L') cells' slots' ∧ Q v T'.heap L' ∧ Go p e below m W T' (pc + 5) L (v.toList ++ rest) :=
  Go.ifaceB (Wd := Wd) k X hx hZ hown hsz w1 w2 w5 w3 w4 w6 w7 w8 hd hy (backOf (W := Wd) hM hZ wc wz hf hl) eT E hs ha hp hlen hW h1 h2 h3 h4
theorem Go.specB {own : String} {index : Nat} {y : MethodName} {bytes : ByteArray} {maxL : Nat} {Wd cells' slots' : Nat} {b : Addr} {argsL rest : List Value} {Q : Option Value → Heap → List Loc → Prop} {as' : Array Value} {ps : List FieldType} {r : Option FieldType} {rc rs : Nat}
    (k : Go p e below m W T pc L S) (X : Stand p l e R s m args below meth c T locs cells slots) (hx : p.tables.exec = Jvm.exec) (hZ : Z.Warmed39 s.vm) (hown : s.vm.findClass own = some m.cls) (hsz : L.size = c.maxLocals)
    (hy1 : y.name = "<init>") (w1 : (Cond.methodLink own index y).before a0 Z = true) (w2 : (Cond.instanceMethod y).before a0 Z = true) (wc : (Cond.code y bytes maxL none).before a0 Z = true) (hd : decode c.code pc = .ok (.invokespecial index, 3)) (hy : y.cls ≠ "java/lang/invoke/MethodHandle" ∧ y.cls ≠ "java/lang/invoke/VarHandle")
    (hK : Back l R p e below s args y 3 Wd (fun A a => a = as' ∧ A.U.heap = h ∧ A.cells + rc ≤ R.cells ∧ A.slots + rs ≤ R.slots) (fun A _ v B => ∃ L, Q v B.U.heap L ∧ B.locs = A.locs ++ L ∧ B.cells = A.cells + rc ∧ B.slots = A.slots + rs))
    (eT : T.heap = h) (hs : S = argsL.reverse ++ .ref b :: rest) (ha : (.ref b :: argsL).toArray = as') (hp : parseMethodDescriptor y.desc = some ⟨ps, r⟩) (hlen : argsL.length = ps.length) (hW : (rest.map fun v => v.category).sum ≤ Wd) (h1 : cells + rc = cells') (h2 : slots + rs = slots') (h3 : cells' ≤ R.cells) (h4 : slots' ≤ R.slots) :
    ∃ T' v L', Stand p l e R s m args below meth c T' (locs ++ L') cells' slots' ∧ Q v T'.heap L' ∧ Go p e below m W T' (pc + 3) L (v.toList ++ rest) := by
  subst hs h1 h2
  obtain ⟨v, _, ⟨T', L', k', n'⟩, -, X', ⟨Lc, hQ, l1, y1, z1⟩, st⟩ := X.specialBack hx (y := y) hy1 hown (mvT hZ w1) (mvT hZ w2) (mvT hZ wc) hy hK (g := mkF m pc L (argsL.reverse ++ .ref b :: rest)) rfl hsz (Steps.refl _) (a := b) (argsL := argsL) (rest := rest) (lenOf hp hlen) rfl (by show 2 * 0 + _ ≤ _; rw [Nat.mul_zero, Nat.zero_add]; exact hW) hd (fun _ _ => ⟨ha, eT, h3, h4⟩)
  dsimp only [Pt.U, Pt.locs, Pt.cells, Pt.slots] at X' l1 y1 z1 st hQ
  subst l1 y1 z1
  exact ⟨T', v, Lc, X', hQ, fun t kt => k t (st.trans kt)⟩
theorem Go.spec {own : String} {index : Nat} {y : MethodName} {bytes : ByteArray} {maxL : Nat} {Wd cells' slots' : Nat} {b : Addr} {argsL rest : List Value} {Q : Option Value → Heap → List Loc → Prop} {as' : Array Value} {ps : List FieldType} {r : Option FieldType} {rm : Room}
    (k : Go p e below m W T pc L S) (X : Stand p l e R s m args below meth c T locs cells slots) (hx : p.tables.exec = Jvm.exec) (hZ : Z.Warmed39 s.vm) (hown : s.vm.findClass own = some m.cls) (hsz : L.size = c.maxLocals)
    (hy1 : y.name = "<init>") (w1 : (Cond.methodLink own index y).before a0 Z = true) (w2 : (Cond.instanceMethod y).before a0 Z = true)  (wc : (Cond.code y bytes maxL none).before a0 Z = true) (wz : (Cond.initialized y.cls).before a0 Z = true) (hd : decode c.code pc = .ok (.invokespecial index, 3)) (hy : y.cls ≠ "java/lang/invoke/MethodHandle" ∧ y.cls ≠ "java/lang/invoke/VarHandle")
    (hM : MetFree l y (head1 [Cond.code y bytes maxL none] rm) (fun a U => a = as' ∧ Z.Warmed39 U.vm ∧ U.heap = h) (fun _ _ _ _ _ => True) (fun _ U o U' => ∃ v L, o = .returned v ∧ Q v U'.heap L ∧ FrameEnd U o U' L rm.cells rm.slots))
    (eT : T.heap = h) (hs : S = argsL.reverse ++ .ref b :: rest) (ha : (.ref b :: argsL).toArray = as') (hp : parseMethodDescriptor y.desc = some ⟨ps, r⟩) (hlen : argsL.length = ps.length) (hW : (rest.map fun v => v.category).sum ≤ Wd) (hf : rm.frames + 1 ≤ R.frames) (hl : Wd + (maxL + 11) + rm.locals ≤ R.locals) (h1 : cells + rm.cells = cells') (h2 : slots + rm.slots = slots') (h3 : cells' ≤ R.cells) (h4 : slots' ≤ R.slots) :
    ∃ T' v L', Stand p l e R s m args below meth c T' (locs ++ L') cells' slots' ∧ Q v T'.heap L' ∧ Go p e below m W T' (pc + 3) L (v.toList ++ rest) :=
  Go.specB (Wd := Wd) k X hx hZ hown hsz hy1 w1 w2 wc hd hy (backOf (W := Wd) hM hZ wc wz hf hl) eT hs ha hp hlen hW h1 h2 h3 h4
theorem Go.statB {own : String} {index : Nat} {y : MethodName} {bytes : ByteArray} {maxL : Nat} {ret : Option FieldType} {Wd cells' slots' : Nat} {argsL rest : List Value} {Q : Option Value → Heap → List Loc → Prop} {as' : Array Value} {ps : List FieldType} {r : Option FieldType} {rc rs : Nat}
    (k : Go p e below m W T pc L S) (X : Stand p l e R s m args below meth c T locs cells slots) (hx : p.tables.exec = Jvm.exec) (hZ : Z.Warmed39 s.vm) (hown : s.vm.findClass own = some m.cls) (hsz : L.size = c.maxLocals)
    (w1 : (Cond.methodLink own index y).before a0 Z = true) (w2 : (Cond.static y).before a0 Z = true) (wc : (Cond.code y bytes maxL ret).before a0 Z = true) (wz : (Cond.initialized y.cls).before a0 Z = true) (hd : decode c.code pc = .ok (.invokestatic index, 3)) (hy : y.cls ≠ "java/lang/invoke/MethodHandle" ∧ y.cls ≠ "java/lang/invoke/VarHandle")
    (hK : Back l R p e below s args y 3 Wd (fun A a => a = as' ∧ A.U.heap = h ∧ A.cells + rc ≤ R.cells ∧ A.slots + rs ≤ R.slots) (fun A _ v B => ∃ L, Q v B.U.heap L ∧ B.locs = A.locs ++ L ∧ B.cells = A.cells + rc ∧ B.slots = A.slots + rs))
    (eT : T.heap = h) (hs : S = argsL.reverse ++ rest) (ha : argsL.toArray = as') (hp : parseMethodDescriptor y.desc = some ⟨ps, r⟩) (hlen : argsL.length = ps.length) (hW : (rest.map fun v => v.category).sum ≤ Wd) (h1 : cells + rc = cells') (h2 : slots + rs = slots') (h3 : cells' ≤ R.cells) (h4 : slots' ≤ R.slots) :
    ∃ T' v L', Stand p l e R s m args below meth c T' (locs ++ L') cells' slots' ∧ Q v T'.heap L' ∧ Go p e below m W T' (pc + 3) L (v.toList ++ rest) := by
  subst hs h1 h2
  obtain ⟨v, _, ⟨T', L', k', n'⟩, -, X', ⟨Lc, hQ, l1, y1, z1⟩, st⟩ := Jvm.LawKit.callS X hx (y := y) hown (mvT hZ w1) (mvT hZ w2) (mvT hZ wz) (mvT hZ wc) hy hK (g := mkF m pc L (argsL.reverse ++ rest)) rfl hsz (argsL := argsL) (rest := rest) (lenOf hp hlen) rfl (by show 2 * 0 + _ ≤ _; rw [Nat.mul_zero, Nat.zero_add]; exact hW) hd (fun _ _ => ⟨ha, eT, h3, h4⟩)
  dsimp only [Pt.U, Pt.locs, Pt.cells, Pt.slots] at X' l1 y1 z1 st hQ
  subst l1 y1 z1
  exact ⟨T', v, Lc, X', hQ, fun t kt => k t (st t kt)⟩
theorem Go.stat {own : String} {index : Nat} {y : MethodName} {bytes : ByteArray} {maxL : Nat} {ret : Option FieldType} {Wd cells' slots' : Nat} {argsL rest : List Value} {Q : Option Value → Heap → List Loc → Prop} {as' : Array Value} {ps : List FieldType} {r : Option FieldType} {rm : Room}
    (k : Go p e below m W T pc L S) (X : Stand p l e R s m args below meth c T locs cells slots) (hx : p.tables.exec = Jvm.exec) (hZ : Z.Warmed39 s.vm) (hown : s.vm.findClass own = some m.cls) (hsz : L.size = c.maxLocals)
    (w1 : (Cond.methodLink own index y).before a0 Z = true) (w2 : (Cond.static y).before a0 Z = true)  (wc : (Cond.code y bytes maxL ret).before a0 Z = true) (wz : (Cond.initialized y.cls).before a0 Z = true) (hd : decode c.code pc = .ok (.invokestatic index, 3)) (hy : y.cls ≠ "java/lang/invoke/MethodHandle" ∧ y.cls ≠ "java/lang/invoke/VarHandle")
    (hM : MetFree l y (head1 [Cond.code y bytes maxL ret] rm) (fun a U => a = as' ∧ Z.Warmed39 U.vm ∧ U.heap = h) (fun _ _ _ _ _ => True) (fun _ U o U' => ∃ v L, o = .returned v ∧ Q v U'.heap L ∧ FrameEnd U o U' L rm.cells rm.slots))
    (eT : T.heap = h) (hs : S = argsL.reverse ++ rest) (ha : argsL.toArray = as') (hp : parseMethodDescriptor y.desc = some ⟨ps, r⟩) (hlen : argsL.length = ps.length) (hW : (rest.map fun v => v.category).sum ≤ Wd) (hf : rm.frames + 1 ≤ R.frames) (hl : Wd + (maxL + 11) + rm.locals ≤ R.locals) (h1 : cells + rm.cells = cells') (h2 : slots + rm.slots = slots') (h3 : cells' ≤ R.cells) (h4 : slots' ≤ R.slots) :
    ∃ T' v L', Stand p l e R s m args below meth c T' (locs ++ L') cells' slots' ∧ Q v T'.heap L' ∧ Go p e below m W T' (pc + 3) L (v.toList ++ rest) :=
  Go.statB (Wd := Wd) k X hx hZ hown hsz w1 w2 wc wz hd hy (backOf (W := Wd) hM hZ wc wz hf hl) eT hs ha hp hlen hW h1 h2 h3 h4
theorem Go.privB {own C : String} {index : Nat} {y : MethodName} {bytes : ByteArray} {maxL : Nat} {ret : Option FieldType} {Wd cells' slots' : Nat} {b : Addr} {argsL rest : List Value} {Q : Option Value → Heap → List Loc → Prop} {as' : Array Value} {ps : List FieldType} {r : Option FieldType} {rc rs : Nat}
    (k : Go p e below m W T pc L S) (X : Stand p l e R s m args below meth c T locs cells slots) (hx : p.tables.exec = Jvm.exec) (hZ : Z.Warmed39 s.vm) (hown : s.vm.findClass own = some m.cls) (hsz : L.size = c.maxLocals)
    (w1 : (Cond.methodLink own index y).before a0 Z = true) (w2 : (Cond.instanceMethod y).before a0 Z = true) (w3 : (Cond.selects y.cls y y).before a0 Z = true) (w4 : (Cond.privateMethod y).before a0 Z = true) (wc : (Cond.code y bytes maxL ret).before a0 Z = true)
    (hd : decode c.code pc = .ok (.invokevirtual index, 3)) (hy : y.cls ≠ "java/lang/invoke/MethodHandle" ∧ y.cls ≠ "java/lang/invoke/VarHandle")
    (hK : Back l R p e below s args y 3 Wd (fun A a => a = as' ∧ A.U.heap = h ∧ A.cells + rc ≤ R.cells ∧ A.slots + rs ≤ R.slots) (fun A _ v B => ∃ L, Q v B.U.heap L ∧ B.locs = A.locs ++ L ∧ B.cells = A.cells + rc ∧ B.slots = A.slots + rs))
    (eT : T.heap = h) (E : Exa Z h b C) (hs : S = argsL.reverse ++ .ref b :: rest) (ha : (.ref b :: argsL).toArray = as') (hp : parseMethodDescriptor y.desc = some ⟨ps, r⟩) (hlen : argsL.length = ps.length) (hW : (rest.map fun v => v.category).sum ≤ Wd) (h1 : cells + rc = cells') (h2 : slots + rs = slots') (h3 : cells' ≤ R.cells) (h4 : slots' ≤ R.slots) :
    ∃ T' v L', Stand p l e R s m args below meth c T' (locs ++ L') cells' slots' ∧ Q v T'.heap L' ∧ Go p e below m W T' (pc + 3) L (v.toList ++ rest) := by
  subst hs h1 h2
  obtain ⟨cq, q1, q2⟩ := E.cell
  obtain ⟨v, _, ⟨T', L', k', n'⟩, -, X', ⟨Lc, hQ, l1, y1, z1⟩, st⟩ := X.privateBack hx (y := y) hown (mvT hZ w1) (mvT hZ w2) (mvT hZ w3) (Cond.privateMethod_at (mvP hZ w4 (args := #[]))) (mvT hZ wc) hy hK (g := mkF m pc L (argsL.reverse ++ .ref b :: rest)) rfl hsz (Steps.refl _) (a := b) (by rw [eT]; exact q1) q2 (argsL := argsL) (rest := rest) (lenOf hp hlen) rfl (by show 2 * 0 + _ ≤ _; rw [Nat.mul_zero, Nat.zero_add]; exact hW) hd (fun _ _ => ⟨ha, eT, h3, h4⟩)
  dsimp only [Pt.U, Pt.locs, Pt.cells, Pt.slots] at X' l1 y1 z1 st hQ
  subst l1 y1 z1
  exact ⟨T', v, Lc, X', hQ, fun t kt => k t (st.trans kt)⟩
theorem Go.priv {own C : String} {index : Nat} {y : MethodName} {bytes : ByteArray} {maxL : Nat} {ret : Option FieldType} {Wd cells' slots' : Nat} {b : Addr} {argsL rest : List Value} {Q : Option Value → Heap → List Loc → Prop} {as' : Array Value} {ps : List FieldType} {r : Option FieldType} {rm : Room}
    (k : Go p e below m W T pc L S) (X : Stand p l e R s m args below meth c T locs cells slots) (hx : p.tables.exec = Jvm.exec) (hZ : Z.Warmed39 s.vm) (hown : s.vm.findClass own = some m.cls) (hsz : L.size = c.maxLocals)
    (w1 : (Cond.methodLink own index y).before a0 Z = true) (w2 : (Cond.instanceMethod y).before a0 Z = true) (w3 : (Cond.selects y.cls y y).before a0 Z = true) (w4 : (Cond.privateMethod y).before a0 Z = true) (wc : (Cond.code y bytes maxL ret).before a0 Z = true) (wz : (Cond.initialized y.cls).before a0 Z = true)
    (hd : decode c.code pc = .ok (.invokevirtual index, 3)) (hy : y.cls ≠ "java/lang/invoke/MethodHandle" ∧ y.cls ≠ "java/lang/invoke/VarHandle")
    (hM : MetFree l y (head1 [Cond.code y bytes maxL ret] rm) (fun a U => a = as' ∧ Z.Warmed39 U.vm ∧ U.heap = h) (fun _ _ _ _ _ => True) (fun _ U o U' => ∃ v L, o = .returned v ∧ Q v U'.heap L ∧ FrameEnd U o U' L rm.cells rm.slots))
    (eT : T.heap = h) (E : Exa Z h b C) (hs : S = argsL.reverse ++ .ref b :: rest) (ha : (.ref b :: argsL).toArray = as') (hp : parseMethodDescriptor y.desc = some ⟨ps, r⟩) (hlen : argsL.length = ps.length) (hW : (rest.map fun v => v.category).sum ≤ Wd) (hf : rm.frames + 1 ≤ R.frames) (hl : Wd + (maxL + 11) + rm.locals ≤ R.locals) (h1 : cells + rm.cells = cells') (h2 : slots + rm.slots = slots') (h3 : cells' ≤ R.cells) (h4 : slots' ≤ R.slots) :
    ∃ T' v L', Stand p l e R s m args below meth c T' (locs ++ L') cells' slots' ∧ Q v T'.heap L' ∧ Go p e below m W T' (pc + 3) L (v.toList ++ rest) :=
  Go.privB (Wd := Wd) k X hx hZ hown hsz w1 w2 w3 w4 wc hd hy (backOf (W := Wd) hM hZ wc wz hf hl) eT E hs ha hp hlen hW h1 h2 h3 h4
theorem Go.castY {own K : String} {index : Nat} {a : Addr} (k : Go p e below m W T pc L (.ref a :: S)) (X : Stand p l e R s m args below meth c T locs cells slots) (hx : p.tables.exec = Jvm.exec) (hZ : Z.Warmed39 s.vm) (hown : s.vm.findClass own = some m.cls) (w : (Cond.classLink own index K).before a0 Z = true) (eT : T.heap = h) (F : Ins Z h a K true) (hd : decode c.code pc = .ok (.checkcast index, 3)) :
    ∃ T', Stand p l e R s m args below meth c T' locs cells slots ∧ T'.heap = h ∧ Go p e below m W T' (pc + 3) L (.ref a :: S) := by
  obtain ⟨T', X', e', st⟩ := Jvm.RoadKit.castY X hx hZ hown w eT F (g := mkF m pc L (.ref a :: S)) rfl rfl hd
  exact ⟨T', X', e', fun t kt => k t (st t kt)⟩
theorem Go.instY {own K : String} {index : Nat} {a : Addr} (k : Go p e below m W T pc L (.ref a :: S)) (X : Stand p l e R s m args below meth c T locs cells slots) (hx : p.tables.exec = Jvm.exec) (hZ : Z.Warmed39 s.vm) (hown : s.vm.findClass own = some m.cls) (w : (Cond.classLink own index K).before a0 Z = true) (eT : T.heap = h) (F : Ins Z h a K true) (hd : decode c.code pc = .ok (.instanceof index, 3)) :
    ∃ T', Stand p l e R s m args below meth c T' locs cells slots ∧ T'.heap = h ∧ Go p e below m W T' (pc + 3) L (.int 1 :: S) := by
  obtain ⟨T', X', e', st⟩ := Jvm.RoadKit.instY X hx hZ hown w eT F (g := mkF m pc L (.ref a :: S)) rfl rfl hd
  exact ⟨T', X', e', fun t kt => k t (st t kt)⟩
theorem Go.instNull {index : Nat} (k : Go p e below m W T pc L (.null :: S)) (X : Stand p l e R s m args below meth c T locs cells slots) (hx : p.tables.exec = Jvm.exec) (hd : decode c.code pc = .ok (.instanceof index, 3)) : Go p e below m W T (pc + 3) L (.int 0 :: S) := fun t kt => k t (X.instanceofNull hx (g := mkF m pc L (.null :: S)) rfl rfl hd t kt)
theorem Go.castNull {index : Nat} (k : Go p e below m W T pc L (.null :: S)) (X : Stand p l e R s m args below meth c T locs cells slots) (hx : p.tables.exec = Jvm.exec) (hd : decode c.code pc = .ok (.checkcast index, 3)) : Go p e below m W T (pc + 3) L (.null :: S) := fun t kt => k t (X.checkcastNull hx (g := mkF m pc L (.null :: S)) rfl rfl hd t kt)
theorem Go.cast {x y : Int32} (k : Go p e below m W T pc L (.int x :: S)) (q : x = y) : Go p e below m W T pc L (.int y :: S) := q ▸ k
theorem Go.castJ {x y : Int64} (k : Go p e below m W T pc L (.long x :: S)) (q : x = y) : Go p e below m W T pc L (.long y :: S) := q ▸ k
/-! the ways out of a body -/
abbrev Done (p : Program) (e : Env) (below : List Frame) (s W : State) (Q : Option Value → Heap → List Loc → Prop) (rc rs : Nat) : Prop :=
  ∃ s₂ o, Steps p.tables e below W s₂ ∧ s₂.status = .running ∧ Ended s₂ below o ∧ ∃ v L, o = .returned v ∧ Q v s₂.heap L ∧ FrameEnd s o s₂ L rc rs
theorem Go.ireturnN {t : FieldType} {x : Int32} {Q : Option Value → Heap → List Loc → Prop} {rc rs : Nat} (k : Go p e below m W T pc L (.int x :: S)) (X : Stand p l e R s m args below meth c T locs cells slots) (hx : p.tables.exec = Jvm.exec) (hret : meth.sig.returnType = some t) (ht : t = .boolean ∨ t = .byte ∨ t = .char ∨ t = .short) (hn : nar t x = x) (hd : decode c.code pc = .ok (.ireturn, 1)) (hlk : meth.locks = false) (hq : Q (some (.int x)) T.heap locs) (h1 : cells ≤ rc) (h2 : slots ≤ rs) : Done p e below s W Q rc rs := by
  obtain ⟨fs, hr, hrun, hended, hW, hsame⟩ := X.leave (v := some (.int x)) (fun q => by rw [hret] at q; cases q) hlk
  refine ⟨_, _, k _ (retN X hx hret ht hd (by rw [hn]; exact hr)), hrun, hended, _, _, rfl, hq, ⟨_, rfl⟩, hW, hsame.mono h1 h2⟩
theorem Go.ireturnI {x : Int32} {Q : Option Value → Heap → List Loc → Prop} {rc rs : Nat} (k : Go p e below m W T pc L (.int x :: S)) (X : Stand p l e R s m args below meth c T locs cells slots) (hx : p.tables.exec = Jvm.exec) (hret : meth.sig.returnType = some .int) (hd : decode c.code pc = .ok (.ireturn, 1)) (hlk : meth.locks = false) (hq : Q (some (.int x)) T.heap locs) (h1 : cells ≤ rc) (h2 : slots ≤ rs) : Done p e below s W Q rc rs := by
  obtain ⟨fs, hr, hrun, hended, hW, hsame⟩ := X.leave (v := some (.int x)) (fun q => by rw [hret] at q; cases q) hlk
  refine ⟨_, _, k _ (retI X hx hret hd hr), hrun, hended, _, _, rfl, hq, ⟨_, rfl⟩, hW, hsame.mono h1 h2⟩
theorem Go.return_ {Q : Option Value → Heap → List Loc → Prop} {rc rs : Nat} (k : Go p e below m W T pc L []) (X : Stand p l e R s m args below meth c T locs cells slots) (hx : p.tables.exec = Jvm.exec) (hret : meth.sig.returnType = none) (hd : decode c.code pc = .ok (.return_, 1)) (hlk : meth.locks = false) (hq : Q none T.heap locs) (h1 : cells ≤ rc) (h2 : slots ≤ rs) : Done p e below s W Q rc rs := by
  obtain ⟨fs, hr, hrun, hended, hW, hsame⟩ := X.leave (v := none) (fun _ => rfl) hlk
  refine ⟨_, _, k _ (X.returnOut hx hret hd hr), hrun, hended, _, _, rfl, hq, ⟨_, rfl⟩, hW, hsame.mono h1 h2⟩
theorem Go.areturn {t : FieldType} {v : Value} {Q : Option Value → Heap → List Loc → Prop} {rc rs : Nat} (k : Go p e below m W T pc L (v :: S)) (X : Stand p l e R s m args below meth c T locs cells slots) (hx : p.tables.exec = Jvm.exec) (hret : meth.sig.returnType = some t) (ht : t.isReference = true) (hv : v.isRef = true) (hd : decode c.code pc = .ok (.areturn, 1)) (hlk : meth.locks = false) (hq : Q (some v) T.heap locs) (h1 : cells ≤ rc) (h2 : slots ≤ rs) : Done p e below s W Q rc rs := by
  obtain ⟨fs, hr, hrun, hended, hW, hsame⟩ := X.leave (v := some v) (fun q => by rw [hret] at q; cases q) hlk
  refine ⟨_, _, k _ ?_, hrun, hended, _, _, rfl, hq, ⟨_, rfl⟩, hW, hsame.mono h1 h2⟩
  jvm_step X.here [X.here.top, hx, hd, X.method', hret, hv, ht]
  first | (intro acts; rw [hr _ acts rfl rfl rfl]) | rw [hr _ _ rfl rfl rfl]
  exact Steps.refl _

theorem own_in {cl : Cell} {z j : Int32} {i n : Nat} (S1 : cl.slots.size = z.toNatClampNeg) (hz : z.toNatClampNeg = n) (hj : j.toNatClampNeg = i) (hj0 : ¬ j < 0) (hi : i < n) : ¬ (j < 0 ∨ cl.slots.size ≤ j.toNatClampNeg) := by
  intro q
  rcases q with q | q
  · exact hj0 q
  · rw [S1, hz, hj] at q; omega

theorem Go.iastore {a : Addr} {kc : ClassId} {z j : Int32} {vs : List Value} {d : Value} {i : Nat} {n0 : Nat} {x : Int32} (k : Go p e below m W T pc L (.int x :: .int j :: .ref a :: S)) (X : Stand p l e R s m args below meth c T locs cells slots) (hx : p.tables.exec = Jvm.exec) (hZ : Z.Warmed39 s.vm) (eT : T.heap = h) (Va : Arv Z h a kc .int z vs d) (hz : z.toNatClampNeg = vs.length) (hj : j.toNatClampNeg = i) (hj0 : ¬ j < 0) (hi : i < vs.length) (N : Fr n0 locs) (g0 : n0 ≤ a) (hd : decode c.code pc = .ok (.iastore, 1)) :
    ∃ T' h' locs', Stand p l e R s m args below meth c T' locs' cells slots ∧ T'.heap = h' ∧ Wr h h' a j.toNatClampNeg (.int x) ∧ Arv Z h' a kc .int z (vs.set i (.int x)) d ∧ Fr n0 locs' ∧ Go p e below m W T' (pc + 1) L S := by
  obtain ⟨cl, A, q1, S1, q3, H, G⟩ := Va
  have hin := own_in S1 hz hj hj0 hi
  obtain ⟨T', h', X', e', W', st⟩ := Jvm.RoadKit.stI X hx hZ eT A hin (g := mkF m pc L (.int x :: .int j :: .ref a :: S)) rfl rfl hd
  exact ⟨T', h', _, X', e', W', Arv.set A q1 S1 q3 H G rfl W' i hj hi, Fr.snoc X' N g0, fun t kt => k t (st t kt)⟩

theorem Go.lastore {a : Addr} {kc : ClassId} {z j : Int32} {vs : List Value} {d : Value} {i : Nat} {n0 : Nat} {x : Int64} (k : Go p e below m W T pc L (.long x :: .int j :: .ref a :: S)) (X : Stand p l e R s m args below meth c T locs cells slots) (hx : p.tables.exec = Jvm.exec) (hZ : Z.Warmed39 s.vm) (eT : T.heap = h) (Va : Arv Z h a kc .long z vs d) (hz : z.toNatClampNeg = vs.length) (hj : j.toNatClampNeg = i) (hj0 : ¬ j < 0) (hi : i < vs.length) (N : Fr n0 locs) (g0 : n0 ≤ a) (hd : decode c.code pc = .ok (.lastore, 1)) :
    ∃ T' h' locs', Stand p l e R s m args below meth c T' locs' cells slots ∧ T'.heap = h' ∧ Wr h h' a j.toNatClampNeg (.long x) ∧ Arv Z h' a kc .long z (vs.set i (.long x)) d ∧ Fr n0 locs' ∧ Go p e below m W T' (pc + 1) L S := by
  obtain ⟨cl, A, q1, S1, q3, H, G⟩ := Va
  have hin := own_in S1 hz hj hj0 hi
  obtain ⟨T', h', X', e', W', st⟩ := Jvm.RoadKit.stJ X hx hZ eT A hin (g := mkF m pc L (.long x :: .int j :: .ref a :: S)) rfl rfl hd
  exact ⟨T', h', _, X', e', W', Arv.set A q1 S1 q3 H G rfl W' i hj hi, Fr.snoc X' N g0, fun t kt => k t (st t kt)⟩

theorem Go.castore {a : Addr} {kc : ClassId} {z j : Int32} {vs : List Value} {d : Value} {i : Nat} {n0 : Nat} {x : Int32} (k : Go p e below m W T pc L (.int x :: .int j :: .ref a :: S)) (X : Stand p l e R s m args below meth c T locs cells slots) (hx : p.tables.exec = Jvm.exec) (hZ : Z.Warmed39 s.vm) (eT : T.heap = h) (Va : Arv Z h a kc .char z vs d) (hz : z.toNatClampNeg = vs.length) (hj : j.toNatClampNeg = i) (hj0 : ¬ j < 0) (hi : i < vs.length) (N : Fr n0 locs) (g0 : n0 ≤ a) (hd : decode c.code pc = .ok (.castore, 1)) :
    ∃ T' h' locs', Stand p l e R s m args below meth c T' locs' cells slots ∧ T'.heap = h' ∧ Wr h h' a j.toNatClampNeg (.int (nar .char x)) ∧ Arv Z h' a kc .char z (vs.set i (.int (nar .char x))) d ∧ Fr n0 locs' ∧ Go p e below m W T' (pc + 1) L S := by
  obtain ⟨cl, A, q1, S1, q3, H, G⟩ := Va
  have hin := own_in S1 hz hj hj0 hi
  obtain ⟨T', h', X', e', W', st⟩ := Jvm.RoadKit.stC X hx hZ eT A hin (g := mkF m pc L (.int x :: .int j :: .ref a :: S)) rfl rfl hd
  exact ⟨T', h', _, X', e', W', Arv.set A q1 S1 q3 H G (fits_nar_char x) W' i hj hi, Fr.snoc X' N g0, fun t kt => k t (st t kt)⟩

theorem Go.bastore {a : Addr} {kc : ClassId} {z j : Int32} {vs : List Value} {d : Value} {i : Nat} {n0 : Nat} {x : Int32} (k : Go p e below m W T pc L (.int x :: .int j :: .ref a :: S)) (X : Stand p l e R s m args below meth c T locs cells slots) (hx : p.tables.exec = Jvm.exec) (hZ : Z.Warmed39 s.vm) (eT : T.heap = h) (Va : Arv Z h a kc .byte z vs d) (hz : z.toNatClampNeg = vs.length) (hj : j.toNatClampNeg = i) (hj0 : ¬ j < 0) (hi : i < vs.length) (N : Fr n0 locs) (g0 : n0 ≤ a) (hd : decode c.code pc = .ok (.bastore, 1)) :
    ∃ T' h' locs', Stand p l e R s m args below meth c T' locs' cells slots ∧ T'.heap = h' ∧ Wr h h' a j.toNatClampNeg (.int (nar .byte x)) ∧ Arv Z h' a kc .byte z (vs.set i (.int (nar .byte x))) d ∧ Fr n0 locs' ∧ Go p e below m W T' (pc + 1) L S := by
  obtain ⟨cl, A, q1, S1, q3, H, G⟩ := Va
  have hin := own_in S1 hz hj hj0 hi
  obtain ⟨T', h', X', e', W', st⟩ := Jvm.RoadKit.stB X hx hZ eT A hin (g := mkF m pc L (.int x :: .int j :: .ref a :: S)) rfl rfl hd
  exact ⟨T', h', _, X', e', W', Arv.set A q1 S1 q3 H G (fits_nar_byte x) W' i hj hi, Fr.snoc X' N g0, fun t kt => k t (st t kt)⟩

theorem Go.aastore {a : Addr} {kc : ClassId} {C : String} {z j : Int32} {vs : List Value} {d v : Value} {i : Nat} {n0 : Nat} (k : Go p e below m W T pc L (v :: .int j :: .ref a :: S)) (X : Stand p l e R s m args below meth c T locs cells slots) (hx : p.tables.exec = Jvm.exec) (hZ : Z.Warmed39 s.vm) (eT : T.heap = h) (Va : Arv Z h a kc (.object C) z vs d) (O : Ovr Z kc C) (hv : v = .null ∨ ∃ y, v = .ref y ∧ Ins Z h y C true) (hz : z.toNatClampNeg = vs.length) (hj : j.toNatClampNeg = i) (hj0 : ¬ j < 0) (hi : i < vs.length) (N : Fr n0 locs) (g0 : n0 ≤ a) (hd : decode c.code pc = .ok (.aastore, 1)) :
    ∃ T' h' locs', Stand p l e R s m args below meth c T' locs' cells slots ∧ T'.heap = h' ∧ Wr h h' a j.toNatClampNeg v ∧ Arv Z h' a kc (.object C) z (vs.set i v) d ∧ Fr n0 locs' ∧ Go p e below m W T' (pc + 1) L S := by
  obtain ⟨cl, A, q1, S1, q3, H, G⟩ := Va
  have hin := own_in S1 hz hj hj0 hi
  have F : Sto Z h a v := by
    rcases hv with rfl | ⟨y, rfl, I⟩
    · exact Or.inl rfl
    · exact Sto.of A (q1 ▸ O) I
  have hf : fits (.object C) v = true := by rcases hv with rfl | ⟨y, rfl, I⟩ <;> rfl
  obtain ⟨T', h', X', e', W', st⟩ := Jvm.RoadKit.stR X hx hZ eT A hin rfl F (g := mkF m pc L (v :: .int j :: .ref a :: S)) rfl rfl hd
  exact ⟨T', h', _, X', e', W', Arv.set A q1 S1 q3 H G hf W' i hj hi, Fr.snoc X' N g0, fun t kt => k t (st t kt)⟩
theorem Go.newP {aty : ArrayType} {n : Int32} {cap cells' slots' : Nat} (k : Go p e below m W T pc L (.int n :: S)) (X : Stand p l e R s m args below meth c T locs cells slots) (hx : p.tables.exec = Jvm.exec) (hZ : Z.Warmed39 s.vm) (w : (Cond.arrayClass (newarray.typeOf aty)).before a0 Z = true) (eT : T.heap = h) (hd : decode c.code pc = .ok (.newarray aty, 2)) (hn : ¬ n < 0) (hcap : n.toNatClampNeg ≤ cap) (hb : cap * 8 ≤ 536870912) (h1 : cells + 1 = cells') (h2 : slots + cap = slots') (h3 : cells' ≤ R.cells) (h4 : slots' ≤ R.slots) :
    ∃ T' h' b kc, Stand p l e R s m args below meth c T' locs cells' slots' ∧ T'.heap = h' ∧ b = h.size ∧ Ext h h' ∧ (∀ len, Arv Z h' b kc (newarray.typeOf aty) n (List.replicate len (defaultValue (newarray.typeOf aty))) (defaultValue (newarray.typeOf aty))) ∧ Go p e below m W T' (pc + 2) L (.ref b :: S) := by
  subst h1 h2
  obtain ⟨T', h', kc, X', e', E', A', st⟩ := Jvm.RoadKit.newP X hx hZ w eT (g := mkF m pc L (.int n :: S)) rfl hd rfl hn hcap hb h3 h4
  exact ⟨T', h', _, kc, X', e', rfl, E', fun len => (Arv.new A' hn).pad (pad_rep [] _ len), fun t kt => k t (st t kt)⟩
theorem Go.newR {own C : String} {index : Nat} {n : Int32} {cap cells' slots' : Nat} (k : Go p e below m W T pc L (.int n :: S)) (X : Stand p l e R s m args below meth c T locs cells slots) (hx : p.tables.exec = Jvm.exec) (hZ : Z.Warmed39 s.vm) (hown : s.vm.findClass own = some m.cls) (w1 : (Cond.classLink own index C).before a0 Z = true) (w2 : (Cond.arrayOver (.object C)).before a0 Z = true) (eT : T.heap = h) (hd : decode c.code pc = .ok (.anewarray index, 3)) (hn : ¬ n < 0) (hcap : n.toNatClampNeg ≤ cap) (hb : cap * 8 ≤ 536870912) (h1 : cells + 1 = cells') (h2 : slots + cap = slots') (h3 : cells' ≤ R.cells) (h4 : slots' ≤ R.slots) :
    ∃ T' h' b kc, Stand p l e R s m args below meth c T' locs cells' slots' ∧ T'.heap = h' ∧ b = h.size ∧ Ext h h' ∧ (∀ len, Arv Z h' b kc (.object C) n (List.replicate len .null) .null) ∧ Ovr Z kc C ∧ Go p e below m W T' (pc + 3) L (.ref b :: S) := by
  subst h1 h2
  obtain ⟨T', h', kc, X', e', E', A', O', st⟩ := Jvm.RoadKit.newR X hx hZ hown w1 w2 eT (g := mkF m pc L (.int n :: S)) rfl hd rfl hn hcap hb h3 h4
  exact ⟨T', h', _, kc, X', e', rfl, E', fun len => (Arv.new A' hn).pad (pad_rep [] _ len), O', fun t kt => k t (st t kt)⟩
theorem Go.arraylength {a : Addr} {kc : ClassId} {ty : FieldType} {z : Int32} {vs : List Value} {d : Value} (k : Go p e below m W T pc L (.ref a :: S)) (X : Stand p l e R s m args below meth c T locs cells slots) (hx : p.tables.exec = Jvm.exec) (hZ : Z.Warmed39 s.vm) (eT : T.heap = h) (Va : Arv Z h a kc ty z vs d) (hd : decode c.code pc = .ok (.arraylength, 1)) : Go p e below m W T (pc + 1) L (.int z :: S) := by
  obtain ⟨cl, A, q1, S1, q3, H, G⟩ := Va
  intro t kt
  refine k t (X.arraylength hx (cell := cl) (by rw [eT]; exact A.1) (State.isArrayOf_alike hZ.alike A.2.1) (g := mkF m pc L (.ref a :: S)) rfl (rest := S) rfl hd t ?_)
  rw [len_of S1 q3]
  exact kt

theorem Go.iaload {a : Addr} {kc : ClassId} {z j : Int32} {vs : List Value} {d v : Value} {i n : Nat}  (k : Go p e below m W T pc L (.int j :: .ref a :: S)) (X : Stand p l e R s m args below meth c T locs cells slots) (hx : p.tables.exec = Jvm.exec) (hZ : Z.Warmed39 s.vm) (eT : T.heap = h) (Va : Arv Z h a kc .int z vs d) (hz : z.toNatClampNeg = n) (hj : j.toNatClampNeg = i) (hj0 : ¬ j < 0) (hi : i < n) (hv : vs.getD i d = v) (hd : decode c.code pc = .ok (.iaload, 1)) : Go p e below m W T (pc + 1) L (v :: S) := by
  obtain ⟨cl, A, q1, S1, q3, H, G⟩ := Va
  have hin := own_in S1 hz hj hj0 hi
  subst hj
  exact fun t kt => k t (X.iaload hx (j := j) (v := v) (by rw [eT]; exact A.1) (State.isArrayOf_alike hZ.alike A.2.1) A.2.2 hin (Has.at H hin hv) (g := mkF m pc L (.int j :: .ref a :: S)) rfl rfl hd t kt)

theorem Go.laload {a : Addr} {kc : ClassId} {z j : Int32} {vs : List Value} {d v : Value} {i n : Nat}  (k : Go p e below m W T pc L (.int j :: .ref a :: S)) (X : Stand p l e R s m args below meth c T locs cells slots) (hx : p.tables.exec = Jvm.exec) (hZ : Z.Warmed39 s.vm) (eT : T.heap = h) (Va : Arv Z h a kc .long z vs d) (hz : z.toNatClampNeg = n) (hj : j.toNatClampNeg = i) (hj0 : ¬ j < 0) (hi : i < n) (hv : vs.getD i d = v) (hd : decode c.code pc = .ok (.laload, 1)) : Go p e below m W T (pc + 1) L (v :: S) := by
  obtain ⟨cl, A, q1, S1, q3, H, G⟩ := Va
  have hin := own_in S1 hz hj hj0 hi
  subst hj
  exact fun t kt => k t (X.laload hx (j := j) (v := v) (by rw [eT]; exact A.1) (State.isArrayOf_alike hZ.alike A.2.1) A.2.2 hin (Has.at H hin hv) (g := mkF m pc L (.int j :: .ref a :: S)) rfl rfl hd t kt)

theorem Go.caload {a : Addr} {kc : ClassId} {z j : Int32} {vs : List Value} {d v : Value} {i n : Nat}  (k : Go p e below m W T pc L (.int j :: .ref a :: S)) (X : Stand p l e R s m args below meth c T locs cells slots) (hx : p.tables.exec = Jvm.exec) (hZ : Z.Warmed39 s.vm) (eT : T.heap = h) (Va : Arv Z h a kc .char z vs d) (hz : z.toNatClampNeg = n) (hj : j.toNatClampNeg = i) (hj0 : ¬ j < 0) (hi : i < n) (hv : vs.getD i d = v) (hd : decode c.code pc = .ok (.caload, 1)) : Go p e below m W T (pc + 1) L (v :: S) := by
  obtain ⟨cl, A, q1, S1, q3, H, G⟩ := Va
  have hin := own_in S1 hz hj hj0 hi
  subst hj
  exact fun t kt => k t (X.caload hx (j := j) (v := v) (by rw [eT]; exact A.1) (State.isArrayOf_alike hZ.alike A.2.1) A.2.2 hin (Has.at H hin hv) (g := mkF m pc L (.int j :: .ref a :: S)) rfl rfl hd t kt)

theorem Go.aaload {a : Addr} {kc : ClassId} {z j : Int32} {vs : List Value} {d v : Value} {i n : Nat} {ty : FieldType} (k : Go p e below m W T pc L (.int j :: .ref a :: S)) (X : Stand p l e R s m args below meth c T locs cells slots) (hx : p.tables.exec = Jvm.exec) (hZ : Z.Warmed39 s.vm) (eT : T.heap = h) (Va : Arv Z h a kc ty z vs d) (hz : z.toNatClampNeg = n) (hj : j.toNatClampNeg = i) (hj0 : ¬ j < 0) (hi : i < n) (hv : vs.getD i d = v) (hty : ty.isReference = true) (hd : decode c.code pc = .ok (.aaload, 1)) : Go p e below m W T (pc + 1) L (v :: S) := by
  obtain ⟨cl, A, q1, S1, q3, H, G⟩ := Va
  have hin := own_in S1 hz hj hj0 hi
  subst hj
  exact fun t kt => k t (X.aaload hx (j := j) (v := v) (by rw [eT]; exact A.1) (State.isArrayOf_alike hZ.alike A.2.1) hty A.2.2 hin (Has.at H hin hv) (g := mkF m pc L (.int j :: .ref a :: S)) rfl rfl hd t kt)

theorem Go.baload {a : Addr} {kc : ClassId} {z j : Int32} {vs : List Value} {d v : Value} {i n : Nat}  (k : Go p e below m W T pc L (.int j :: .ref a :: S)) (X : Stand p l e R s m args below meth c T locs cells slots) (hx : p.tables.exec = Jvm.exec) (hZ : Z.Warmed39 s.vm) (eT : T.heap = h) (Va : Arv Z h a kc .byte z vs d) (hz : z.toNatClampNeg = n) (hj : j.toNatClampNeg = i) (hj0 : ¬ j < 0) (hi : i < n) (hv : vs.getD i d = v) (hd : decode c.code pc = .ok (.baload, 1)) : Go p e below m W T (pc + 1) L (v :: S) := by
  obtain ⟨cl, A, q1, S1, q3, H, G⟩ := Va
  have hin := own_in S1 hz hj hj0 hi
  subst hj
  exact fun t kt => k t (X.baloadBytes hx (j := j) (v := v) (by rw [eT]; exact A.1) (State.isArrayOf_alike hZ.alike A.2.1) A.2.2 hin (Has.at H hin hv) (g := mkF m pc L (.int j :: .ref a :: S)) rfl rfl hd t kt)

theorem Go.newPE {aty : ArrayType} {n : Int32} {cap cells' slots' : Nat} {ad : String} (k : Go p e below m W T pc L (.int n :: S)) (X : Stand p l e R s m args below meth c T locs cells slots) (hx : p.tables.exec = Jvm.exec) (hZ : Z.Warmed39 s.vm) (w : (Cond.arrayClass (newarray.typeOf aty)).before a0 Z = true) (eT : T.heap = h) (hd : decode c.code pc = .ok (.newarray aty, 2)) (hn : ¬ n < 0) (hcap : n.toNatClampNeg ≤ cap) (hb : cap * 8 ≤ 536870912) (h1 : cells + 1 = cells') (h2 : slots + cap = slots') (h3 : cells' ≤ R.cells) (h4 : slots' ≤ R.slots) (had : "[" ++ (newarray.typeOf aty).toString = ad) :
    ∃ T' h' b kc, Stand p l e R s m args below meth c T' locs cells' slots' ∧ T'.heap = h' ∧ b = h.size ∧ Ext h h' ∧ (∀ len, Arv Z h' b kc (newarray.typeOf aty) n (List.replicate len (defaultValue (newarray.typeOf aty))) (defaultValue (newarray.typeOf aty))) ∧ Exa Z h' b ad ∧ Go p e below m W T' (pc + 2) L (.ref b :: S) := by
  subst h1 h2
  obtain ⟨T', h', kc, X', e', E', A', Ex, st⟩ := Jvm.RoadKit.newPE X hx hZ w eT (g := mkF m pc L (.int n :: S)) rfl hd rfl hn hcap hb h3 h4 had
  exact ⟨T', h', _, kc, X', e', rfl, E', fun len => (Arv.new A' hn).pad (pad_rep [] _ len), Ex, fun t kt => k t (st t kt)⟩
theorem Go.newRE {own C : String} {index : Nat} {n : Int32} {cap cells' slots' : Nat} {ad : String} (k : Go p e below m W T pc L (.int n :: S)) (X : Stand p l e R s m args below meth c T locs cells slots) (hx : p.tables.exec = Jvm.exec) (hZ : Z.Warmed39 s.vm) (hown : s.vm.findClass own = some m.cls) (w1 : (Cond.classLink own index C).before a0 Z = true) (w2 : (Cond.arrayOver (.object C)).before a0 Z = true) (eT : T.heap = h) (hd : decode c.code pc = .ok (.anewarray index, 3)) (hn : ¬ n < 0) (hcap : n.toNatClampNeg ≤ cap) (hb : cap * 8 ≤ 536870912) (h1 : cells + 1 = cells') (h2 : slots + cap = slots') (h3 : cells' ≤ R.cells) (h4 : slots' ≤ R.slots) (had : "[" ++ (FieldType.object C).toString = ad) :
    ∃ T' h' b kc, Stand p l e R s m args below meth c T' locs cells' slots' ∧ T'.heap = h' ∧ b = h.size ∧ Ext h h' ∧ (∀ len, Arv Z h' b kc (.object C) n (List.replicate len .null) .null) ∧ Ovr Z kc C ∧ Exa Z h' b ad ∧ Go p e below m W T' (pc + 3) L (.ref b :: S) := by
  subst h1 h2
  obtain ⟨T', h', kc, X', e', E', A', Ex, O', st⟩ := Jvm.RoadKit.newRE X hx hZ hown w1 w2 eT (g := mkF m pc L (.int n :: S)) rfl hd rfl hn hcap hb h3 h4 had
  exact ⟨T', h', _, kc, X', e', rfl, E', fun len => (Arv.new A' hn).pad (pad_rep [] _ len), O', Ex, fun t kt => k t (st t kt)⟩
theorem Go.newRA {own C : String} {ty : FieldType} {index : Nat} {n : Int32} {cap cells' slots' : Nat} {ad : String} (k : Go p e below m W T pc L (.int n :: S)) (X : Stand p l e R s m args below meth c T locs cells slots) (hx : p.tables.exec = Jvm.exec) (hZ : Z.Warmed39 s.vm) (hown : s.vm.findClass own = some m.cls) (hC : (FieldType.array ty).toString = C) (w1 : (Cond.classLink own index C).before a0 Z = true) (w2 : (Cond.arrayOver (.array ty)).before a0 Z = true) (eT : T.heap = h) (hd : decode c.code pc = .ok (.anewarray index, 3)) (hn : ¬ n < 0) (hcap : n.toNatClampNeg ≤ cap) (hb : cap * 8 ≤ 536870912) (h1 : cells + 1 = cells') (h2 : slots + cap = slots') (h3 : cells' ≤ R.cells) (h4 : slots' ≤ R.slots) (had : "[" ++ C = ad) :
    ∃ T' h' b kc, Stand p l e R s m args below meth c T' locs cells' slots' ∧ T'.heap = h' ∧ b = h.size ∧ Ext h h' ∧ (∀ len, Arv Z h' b kc (.array ty) n (List.replicate len .null) .null) ∧ OvrA Z kc ty C ∧ Exa Z h' b ad ∧ Go p e below m W T' (pc + 3) L (.ref b :: S) := by
  subst h1 h2
  obtain ⟨T', h', kc, X', e', E', A', Ex, O', st⟩ := Jvm.RoadKit.newRA X hx hZ hown hC w1 w2 eT (g := mkF m pc L (.int n :: S)) rfl hd rfl hn hcap hb h3 h4 had
  exact ⟨T', h', _, kc, X', e', rfl, E', fun len => (Arv.new A' hn).pad (pad_rep [] _ len), O', Ex, fun t kt => k t (st t kt)⟩
theorem Go.aastoreA {a : Addr} {kc : ClassId} {C : String} {ty : FieldType} {z j : Int32} {vs : List Value} {d v : Value} {i : Nat} {n0 : Nat} (k : Go p e below m W T pc L (v :: .int j :: .ref a :: S)) (X : Stand p l e R s m args below meth c T locs cells slots) (hx : p.tables.exec = Jvm.exec) (hZ : Z.Warmed39 s.vm) (eT : T.heap = h) (Va : Arv Z h a kc (.array ty) z vs d) (O : OvrA Z kc ty C) (hv : v = .null ∨ ∃ y, v = .ref y ∧ Ins Z h y C true) (hz : z.toNatClampNeg = vs.length) (hj : j.toNatClampNeg = i) (hj0 : ¬ j < 0) (hi : i < vs.length) (N : Fr n0 locs) (g0 : n0 ≤ a) (hd : decode c.code pc = .ok (.aastore, 1)) :
    ∃ T' h' locs', Stand p l e R s m args below meth c T' locs' cells slots ∧ T'.heap = h' ∧ Wr h h' a j.toNatClampNeg v ∧ Arv Z h' a kc (.array ty) z (vs.set i v) d ∧ Fr n0 locs' ∧ Go p e below m W T' (pc + 1) L S := by
  obtain ⟨cl, A, q1, S1, q3, H, G⟩ := Va
  have hin := own_in S1 hz hj hj0 hi
  have F : Sto Z h a v := by
    rcases hv with rfl | ⟨y, rfl, I⟩
    · exact Or.inl rfl
    · exact Sto.ofVA A q1 O I
  have hf : fits (.array ty) v = true := by rcases hv with rfl | ⟨y, rfl, I⟩ <;> rfl
  obtain ⟨T', h', X', e', W', st⟩ := Jvm.RoadKit.stR X hx hZ eT A hin rfl F (g := mkF m pc L (v :: .int j :: .ref a :: S)) rfl rfl hd
  exact ⟨T', h', _, X', e', W', Arv.set A q1 S1 q3 H G hf W' i hj hi, Fr.snoc X' N g0, fun t kt => k t (st t kt)⟩

/-- backOfSH with addresses that are safe besides -/
theorem own_backS {EL : List (String × Nat)} {vm0 : Vm} {xs : List Addr} {y : MethodName} {bytes : ByteArray} {maxL : Nat} {ret : Option FieldType} {rm : Room} {len W : Nat} {as' : Array Value} {Q : Option Value → Heap → List Loc → Prop}
    (hM : MetFree l y (head1 [Cond.code y bytes maxL ret] rm) (fun a U => a = as' ∧ Z.Warmed39 U.vm ∧ U.heap = h ∧ CHv Z EL U.vm h ∧ ∀ x ∈ xs, Safe Z EL U.vm h x) (fun _ _ _ _ _ => True) (fun _ U o U' => ∃ v L, o = .returned v ∧ Q v U'.heap L ∧ CHr Z EL U.vm U.heap U'.vm U'.heap ∧ ReturnedEndW U o U' L rm.cells rm.slots))
    (hZ : Z.Warmed39 vm0) (wc : (Cond.code y bytes maxL ret).before a0 Z = true) (wz : (Cond.initialized y.cls).before a0 Z = true) (hf : rm.frames + 1 ≤ R.frames) (hl : W + (maxL + 11) + rm.locals ≤ R.locals) (hEL : EW Z a0 EL) (H : CHv Z EL vm0 h) (hsf : ∀ x ∈ xs, Safe Z EL vm0 h x) :
    BackS l R p e below (s.setVm vm0) args y len W (fun A a => a = as' ∧ A.U.heap = h ∧ A.cells + rm.cells ≤ R.cells ∧ A.slots + rm.slots ≤ R.slots)
      (fun A _ v B => ∃ L, Q v B.U.heap L ∧ B.locs = A.locs ++ L ∧ B.cells = A.cells + rm.cells ∧ B.slots = A.slots + rm.slots ∧ CHr Z EL vm0 h B.U.vm B.U.heap) := by
  refine BackS.of_freeW (bytes := bytes) (maxL := maxL) (ret := ret) (E := fun _ first o t L k n => k = rm.cells ∧ n = rm.slots ∧ (∃ v, o = .returned v ∧ Q v t.heap L) ∧ CHr Z EL first.vm first.heap t.vm t.heap) hM hf hl ?_ ?_ ?_ ?_ ?_
  · intro m meth c A a Y hp
    have hU : Z.Warmed39 A.U.vm := wtrans (s := s.setVm vm0) hZ Y.warmed
    exact ⟨by show (Cond.and _ .tt).before a A.U = true; rw [Cond.before_and, mv hU wc]; rfl, mv hU wc, mv hU wz, hp.2.2.1, hp.2.2.2⟩
  · intro m meth c A a g mk Y hp
    refine ⟨hp.1, wtrans (s := s.setVm vm0) hZ Y.warmed, hp.2.1, (CHv.at Y hZ hEL H).1, fun x hx B => ?_⟩
    rcases (CHv.at Y hZ hEL H).2.2 x B with q | q
    · exact hsf x hx q
    · obtain ⟨cell, hc⟩ := B.there
      exact absurd (Array.getElem?_eq_some_iff.mp hc).1 (Nat.not_lt.mpr q)
  · exact fun _ _ _ _ _ _ _ _ _ => trivial
  · exact fun _ _ _ _ ⟨v, L, h1, h2, h3, h4⟩ => ⟨L, _, _, h4, rfl, rfl, ⟨v, h1, h2⟩, h3⟩
  · intro m meth c A a g mk v t L k n Y hp _ _ hq
    obtain ⟨e1, e2, ⟨v', e3, e4⟩, e5⟩ := hq
    cases e3
    subst e1 e2
    refine ⟨L, e4, rfl, rfl, rfl, (CHv.at Y hZ hEL H).trans ?_⟩
    rw [← hp.2.1]
    exact e5
theorem Go.specS {own : String} {index : Nat} {y : MethodName} {bytes : ByteArray} {maxL : Nat} {rm : Room} {Wd cells' slots' : Nat} {b : Addr} {argsL rest : List Value} {Q : Option Value → Heap → List Loc → Prop} {as' : Array Value} {ps : List FieldType} {r : Option FieldType} {EL : List (String × Nat)} {vm0 : Vm} {k0 : Nat} {xs : List Addr}
    (k : Go p e below m W T pc L S) (X : Stand p l e R (s.setVm vm0) m args below meth c T locs cells slots) (hx : p.tables.exec = Jvm.exec) (hZ : Z.Warmed39 vm0) (hown : vm0.findClass own = some m.cls) (hsz : L.size = c.maxLocals)
    (hy1 : y.name = "<init>") (w1 : (Cond.methodLink own index y).before a0 Z = true) (w2 : (Cond.instanceMethod y).before a0 Z = true) (wc : (Cond.code y bytes maxL none).before a0 Z = true) (wz : (Cond.initialized y.cls).before a0 Z = true) (hd : decode c.code pc = .ok (.invokespecial index, 3)) (hy : y.cls ≠ "java/lang/invoke/MethodHandle" ∧ y.cls ≠ "java/lang/invoke/VarHandle")
    (hS : s.Since vm0 k0) (hk : k0 ≤ h.size) (hEL : EW Z a0 EL) (H : CHv Z EL vm0 h) (hsf : ∀ x ∈ xs, Safe Z EL vm0 h x) (hM : MetFree l y (head1 [Cond.code y bytes maxL none] rm) (fun a U => a = as' ∧ Z.Warmed39 U.vm ∧ U.heap = h ∧ CHv Z EL U.vm h ∧ ∀ x ∈ xs, Safe Z EL U.vm h x) (fun _ _ _ _ _ => True) (fun _ U o U' => ∃ v L, o = .returned v ∧ Q v U'.heap L ∧ CHr Z EL U.vm U.heap U'.vm U'.heap ∧ ReturnedEndW U o U' L rm.cells rm.slots))
    (eT : T.heap = h) (hs : S = argsL.reverse ++ .ref b :: rest) (ha : (.ref b :: argsL).toArray = as') (hp : parseMethodDescriptor y.desc = some ⟨ps, r⟩) (hlen : argsL.length = ps.length) (hW : (rest.map fun v => v.category).sum ≤ Wd) (hf : rm.frames + 1 ≤ R.frames) (hl : Wd + (maxL + 11) + rm.locals ≤ R.locals) (h1 : cells + rm.cells = cells') (h2 : slots + rm.slots = slots') (h3 : cells' ≤ R.cells) (h4 : slots' ≤ R.slots) :
    ∃ T' v L', Stand p l e R (s.setVm T'.vm) m args below meth c T' (locs ++ L') cells' slots' ∧ Q v T'.heap L' ∧ CHr Z EL vm0 h T'.vm T'.heap ∧ s.Since T'.vm T'.heap.size ∧ Z.Warmed39 T'.vm ∧ T'.vm.findClass own = some m.cls ∧ Go p e below m W T' (pc + 3) L (v.toList ++ rest) := by
  subst hs h1 h2
  obtain ⟨v, _, ⟨T', L', k', n'⟩, -, X', hSn, hgr, ⟨Lc, hQ, l1, y1, z1, hC⟩, st⟩ := X.specialBackS hx (y := y) hy1 hown (mvT hZ w1) (mvT hZ w2) (mvT hZ wc) hy (own_backS (W := Wd) (s := s) hM hZ wc wz hf hl hEL H hsf) (g := mkF m pc L (argsL.reverse ++ .ref b :: rest)) rfl hsz (Steps.refl _) (a := b) (argsL := argsL) (rest := rest) (lenOf hp hlen) rfl (by show 2 * 0 + _ ≤ _; rw [Nat.mul_zero, Nat.zero_add]; exact hW) hd (fun _ _ => ⟨ha, eT, h3, h4⟩)
  dsimp only [Pt.U, Pt.locs, Pt.cells, Pt.slots] at X' l1 y1 z1 st hQ hSn hgr hC
  subst l1 y1 z1
  have hg : h.size ≤ T'.heap.size := by rw [← eT]; exact hgr
  exact ⟨T', v, Lc, X', hQ, hC, hS.trans hSn (Nat.le_trans hk hg), State.Warmed39.trans hZ hSn.1, by rw [hSn.1.alike.findClass]; exact hown, fun t kt => k t (st.trans kt)⟩
theorem Go.virtS {own C : String} {index : Nat} {y z : MethodName} {bytes : ByteArray} {maxL : Nat} {ret : Option FieldType} {rm : Room} {Wd cells' slots' : Nat} {b : Addr} {argsL rest : List Value} {Q : Option Value → Heap → List Loc → Prop} {as' : Array Value} {ps : List FieldType} {r : Option FieldType} {EL : List (String × Nat)} {vm0 : Vm} {k0 : Nat} {xs : List Addr}
    (k : Go p e below m W T pc L S) (X : Stand p l e R (s.setVm vm0) m args below meth c T locs cells slots) (hx : p.tables.exec = Jvm.exec) (hZ : Z.Warmed39 vm0) (hown : vm0.findClass own = some m.cls) (hsz : L.size = c.maxLocals)
    (w1 : (Cond.methodLink own index y).before a0 Z = true) (w2 : (Cond.declares y).before a0 Z = true) (hnf : NotFace (s.setVm vm0) y) (w3 : (Cond.selects C y z).before a0 Z = true) (w4 : (Cond.instanceMethod z).before a0 Z = true) (wc : (Cond.code z bytes maxL ret).before a0 Z = true) (wz : (Cond.initialized z.cls).before a0 Z = true) (hd : decode c.code pc = .ok (.invokevirtual index, 3)) (hy : y.cls ≠ "java/lang/invoke/MethodHandle" ∧ y.cls ≠ "java/lang/invoke/VarHandle")
    (hS : s.Since vm0 k0) (hk : k0 ≤ h.size) (hEL : EW Z a0 EL) (H : CHv Z EL vm0 h) (hsf : ∀ x ∈ xs, Safe Z EL vm0 h x) (hM : MetFree l z (head1 [Cond.code z bytes maxL ret] rm) (fun a U => a = as' ∧ Z.Warmed39 U.vm ∧ U.heap = h ∧ CHv Z EL U.vm h ∧ ∀ x ∈ xs, Safe Z EL U.vm h x) (fun _ _ _ _ _ => True) (fun _ U o U' => ∃ v L, o = .returned v ∧ Q v U'.heap L ∧ CHr Z EL U.vm U.heap U'.vm U'.heap ∧ ReturnedEndW U o U' L rm.cells rm.slots))
    (eT : T.heap = h) (E : Exa Z h b C) (hs : S = argsL.reverse ++ .ref b :: rest) (ha : (.ref b :: argsL).toArray = as') (hp : parseMethodDescriptor y.desc = some ⟨ps, r⟩) (hlen : argsL.length = ps.length) (hW : (rest.map fun v => v.category).sum ≤ Wd) (hf : rm.frames + 1 ≤ R.frames) (hl : Wd + (maxL + 11) + rm.locals ≤ R.locals) (h1 : cells + rm.cells = cells') (h2 : slots + rm.slots = slots') (h3 : cells' ≤ R.cells) (h4 : slots' ≤ R.slots) :
    ∃ T' v L', Stand p l e R (s.setVm T'.vm) m args below meth c T' (locs ++ L') cells' slots' ∧ Q v T'.heap L' ∧ CHr Z EL vm0 h T'.vm T'.heap ∧ s.Since T'.vm T'.heap.size ∧ Z.Warmed39 T'.vm ∧ T'.vm.findClass own = some m.cls ∧ Go p e below m W T' (pc + 3) L (v.toList ++ rest) := by
  subst hs h1 h2
  obtain ⟨cq, kq, qa, qb, qc⟩ := isOf (s := s.setVm vm0) hZ eT E
  obtain ⟨v, _, ⟨T', L', k', n'⟩, -, X', hSn, hgr, ⟨Lc, hQ, l1, y1, z1, hC⟩, st⟩ := X.virtualBackS hx (y := y) (z := z) hown (mvT hZ w1) (mvT hZ w2) hnf (mvT hZ w3) (mvT hZ w4) hy (own_backS (W := Wd) (s := s) hM hZ wc wz hf hl hEL H hsf) qa qc (g := mkF m pc L (argsL.reverse ++ .ref b :: rest)) rfl hsz (Steps.refl _) (argsL := argsL) (rest := rest) (lenOf hp hlen) rfl (by show 2 * 0 + _ ≤ _; rw [Nat.mul_zero, Nat.zero_add]; exact hW) hd (fun _ _ => ⟨ha, eT, h3, h4⟩)
  dsimp only [Pt.U, Pt.locs, Pt.cells, Pt.slots] at X' l1 y1 z1 st hQ hSn hgr hC
  subst l1 y1 z1
  have hg : h.size ≤ T'.heap.size := by rw [← eT]; exact hgr
  exact ⟨T', v, Lc, X', hQ, hC, hS.trans hSn (Nat.le_trans hk hg), State.Warmed39.trans hZ hSn.1, by rw [hSn.1.alike.findClass]; exact hown, fun t kt => k t (st.trans kt)⟩
theorem Go.statS {own : String} {index : Nat} {y : MethodName} {bytes : ByteArray} {maxL : Nat} {ret : Option FieldType} {rm : Room} {Wd cells' slots' : Nat} {argsL rest : List Value} {Q : Option Value → Heap → List Loc → Prop} {as' : Array Value} {ps : List FieldType} {r : Option FieldType} {EL : List (String × Nat)} {vm0 : Vm} {k0 : Nat} {xs : List Addr}
    (k : Go p e below m W T pc L S) (X : Stand p l e R (s.setVm vm0) m args below meth c T locs cells slots) (hx : p.tables.exec = Jvm.exec) (hZ : Z.Warmed39 vm0) (hown : vm0.findClass own = some m.cls) (hsz : L.size = c.maxLocals)
    (w1 : (Cond.methodLink own index y).before a0 Z = true) (w2 : (Cond.static y).before a0 Z = true) (wc : (Cond.code y bytes maxL ret).before a0 Z = true) (wz : (Cond.initialized y.cls).before a0 Z = true) (hd : decode c.code pc = .ok (.invokestatic index, 3)) (hy : y.cls ≠ "java/lang/invoke/MethodHandle" ∧ y.cls ≠ "java/lang/invoke/VarHandle")
    (hS : s.Since vm0 k0) (hk : k0 ≤ h.size) (hEL : EW Z a0 EL) (H : CHv Z EL vm0 h) (hsf : ∀ x ∈ xs, Safe Z EL vm0 h x) (hM : MetFree l y (head1 [Cond.code y bytes maxL ret] rm) (fun a U => a = as' ∧ Z.Warmed39 U.vm ∧ U.heap = h ∧ CHv Z EL U.vm h ∧ ∀ x ∈ xs, Safe Z EL U.vm h x) (fun _ _ _ _ _ => True) (fun _ U o U' => ∃ v L, o = .returned v ∧ Q v U'.heap L ∧ CHr Z EL U.vm U.heap U'.vm U'.heap ∧ ReturnedEndW U o U' L rm.cells rm.slots))
    (eT : T.heap = h) (hs : S = argsL.reverse ++ rest) (ha : argsL.toArray = as') (hp : parseMethodDescriptor y.desc = some ⟨ps, r⟩) (hlen : argsL.length = ps.length) (hW : (rest.map fun v => v.category).sum ≤ Wd) (hf : rm.frames + 1 ≤ R.frames) (hl : Wd + (maxL + 11) + rm.locals ≤ R.locals) (h1 : cells + rm.cells = cells') (h2 : slots + rm.slots = slots') (h3 : cells' ≤ R.cells) (h4 : slots' ≤ R.slots) :
    ∃ T' v L', Stand p l e R (s.setVm T'.vm) m args below meth c T' (locs ++ L') cells' slots' ∧ Q v T'.heap L' ∧ CHr Z EL vm0 h T'.vm T'.heap ∧ s.Since T'.vm T'.heap.size ∧ Z.Warmed39 T'.vm ∧ T'.vm.findClass own = some m.cls ∧ Go p e below m W T' (pc + 3) L (v.toList ++ rest) := by
  subst hs h1 h2
  obtain ⟨v, _, ⟨T', L', k', n'⟩, -, X', hSn, hgr, ⟨Lc, hQ, l1, y1, z1, hC⟩, st⟩ := callSS X hx (y := y) hown (mvT hZ w1) (mvT hZ w2) (mvT hZ wz) (mvT hZ wc) hy (own_backS (W := Wd) (s := s) hM hZ wc wz hf hl hEL H hsf) (g := mkF m pc L (argsL.reverse ++ rest)) rfl hsz (argsL := argsL) (rest := rest) (lenOf hp hlen) rfl (by show 2 * 0 + _ ≤ _; rw [Nat.mul_zero, Nat.zero_add]; exact hW) hd (fun _ _ => ⟨ha, eT, h3, h4⟩)
  dsimp only [Pt.U, Pt.locs, Pt.cells, Pt.slots] at X' l1 y1 z1 st hQ hSn hgr hC
  subst l1 y1 z1
  have hg : h.size ≤ T'.heap.size := by rw [← eT]; exact hgr
  exact ⟨T', v, Lc, X', hQ, hC, hS.trans hSn (Nat.le_trans hk hg), State.Warmed39.trans hZ hSn.1, by rw [hSn.1.alike.findClass]; exact hown, fun t kt => k t (st.trans kt)⟩

theorem Go.ldcS {own text : String} {index : Nat} {EL : List (String × Nat)} {vm0 : Vm} {k0 : Nat} {vs : List Value} {z : Int32} {cells' slots' n : Nat}
    (k : Go p e below m W T pc L S) (X : Stand p l e R (s.setVm vm0) m args below meth c T locs cells slots) (hx : p.tables.exec = Jvm.exec) (hZ : Z.Warmed39 vm0) (hown : vm0.findClass own = some m.cls) (w : (Cond.stringLink own index text).before a0 Z = true) (wS : ∀ a ∈ Bundle.stringAtoms, a.before a0 Z = true) (eT : T.heap = h) (hS : s.Since vm0 k0) (hk : k0 ≤ h.size) (hEL : EW Z a0 EL) (hmem : (own, index) ∈ EL) (H : CHv Z EL vm0 h)
    (ht : (∀ c ∈ text.toList, c.toNat < 256) ∧ text.toList.map (fun c => Value.int (Jvm.Lit.byteI c.toNat.toUInt16)) = vs) (hz : ¬ z < 0) (hl : z.toNatClampNeg = vs.length) (hd : decode c.code pc = .ok (.ldc index, 2)) (hn : 4 * text.toList.length ≤ n) (hbig : n ≤ 536870912) (h1 : cells + 2 = cells') (h2 : slots + (n + 4) = slots') (h3 : cells' ≤ R.cells) (h4 : slots' ≤ R.slots) :
    ∃ T' h' a k1 b kb, Stand p l e R (s.setVm T'.vm) m args below meth c T' locs cells' slots' ∧ T'.heap = h' ∧ Ext h h' ∧ s.Since T'.vm k1 ∧ k1 ≤ h'.size ∧ Z.Warmed39 T'.vm ∧ T'.vm.findClass own = some m.cls ∧ Exa Z h' a "java/lang/String" ∧ Fld Z h' a "java/lang/String" "coder" "B" (.int (0 : Int32)) ∧ Fld Z h' a "java/lang/String" "value" "[B" (.ref b) ∧ Arv Z h' b kb .byte z vs (.int (0 : Int32)) ∧ CHr Z EL vm0 h T'.vm h' ∧ (∀ x, Safe Z EL T'.vm h' x → x ≠ a ∧ x ≠ b) ∧ Go p e below m W T' (pc + 2) L (.ref a :: S) := by
  subst h1 h2
  obtain ⟨a, T', h', k1, b, kb, X', e', E', s1, s2, s3, s4, f1, f2, f3, f4, -, -, hC, -, hne, st⟩ := ldcCH X hx hZ hown w wS eT hS hk hEL hmem H ht hz hl (g := mkF m pc L S) rfl hd hn hbig h3 h4
  exact ⟨T', h', a, k1, b, kb, X', e', E', s1, s2, s3, s4, f1, f2, f3, f4, hC, hne, fun t kt => k t (st t kt)⟩
abbrev DoneS (p : Program) (e : Env) (below : List Frame) (Z : State) (EL : List (String × Nat)) (s W : State) (Q : Option Value → Heap → List Loc → Prop) (rc rs : Nat) : Prop :=
  ∃ s₂ o, Steps p.tables e below W s₂ ∧ s₂.status = .running ∧ Ended s₂ below o ∧ ∃ v L, o = .returned v ∧ Q v s₂.heap L ∧ CHr Z EL s.vm s.heap s₂.vm s₂.heap ∧ ReturnedEndW s o s₂ L rc rs
theorem own_moreW {t : State} {o : Outcome} {Lc : List Loc} {k n k' n' : Nat} (q : ReturnedEndW s o t Lc k n) (h1 : k ≤ k') (h2 : n ≤ n') : ReturnedEndW s o t Lc k' n' := ⟨q.1, q.2.1, q.2.2.1, q.2.2.2.mono h1 h2⟩
theorem Go.ireturnNS {EL : List (String × Nat)} {vm0 : Vm} {k0 : Nat} {Q : Option Value → Heap → List Loc → Prop} {rc rs : Nat} {t : FieldType} {x : Int32} (k : Go p e below m W T pc L (.int x :: S)) (X : Stand p l e R (s.setVm vm0) m args below meth c T locs cells slots) (hx : p.tables.exec = Jvm.exec) (hZ : Z.Warmed39 vm0) (hEL : EW Z a0 EL) (hS : s.Since vm0 k0) (hk : k0 ≤ h.size) (eT : T.heap = h) (hC : CHr Z EL s.vm s.heap vm0 h) (hret : meth.sig.returnType = some t) (ht : t = .boolean ∨ t = .byte ∨ t = .char ∨ t = .short) (hn : nar t x = x) (hd : decode c.code pc = .ok (.ireturn, 1)) (hlk : meth.locks = false) (hq : Q (some (.int x)) T.heap locs) (h1 : cells ≤ rc) (h2 : slots ≤ rs) : DoneS p e below Z EL s W Q rc rs := by
  obtain ⟨fs, hr, hrun, hended, hW⟩ := X.leaveW hS (by rw [eT]; exact hk) (v := (some (.int x))) (fun q => by rw [hret] at q; cases q) hlk
  refine ⟨_, _, k _ ?_, hrun, hended, _, _, rfl, hq, ?_, own_moreW hW h1 h2⟩
  · exact retN X hx hret ht hd (by rw [hn]; exact hr)
  · have q := CHv.at X hZ hEL hC.1
    have q2 := hC.trans q
    rw [← eT] at q2
    exact q2
theorem Go.returnS {EL : List (String × Nat)} {vm0 : Vm} {k0 : Nat} {Q : Option Value → Heap → List Loc → Prop} {rc rs : Nat}  (k : Go p e below m W T pc L []) (X : Stand p l e R (s.setVm vm0) m args below meth c T locs cells slots) (hx : p.tables.exec = Jvm.exec) (hZ : Z.Warmed39 vm0) (hEL : EW Z a0 EL) (hS : s.Since vm0 k0) (hk : k0 ≤ h.size) (eT : T.heap = h) (hC : CHr Z EL s.vm s.heap vm0 h) (hret : meth.sig.returnType = none) (hd : decode c.code pc = .ok (.return_, 1)) (hlk : meth.locks = false) (hq : Q none T.heap locs) (h1 : cells ≤ rc) (h2 : slots ≤ rs) : DoneS p e below Z EL s W Q rc rs := by
  obtain ⟨fs, hr, hrun, hended, hW⟩ := X.leaveW hS (by rw [eT]; exact hk) (v := none) (fun _ => rfl) hlk
  refine ⟨_, _, k _ ?_, hrun, hended, _, _, rfl, hq, ?_, own_moreW hW h1 h2⟩
  · exact X.returnOut hx hret hd hr
  · have q := CHv.at X hZ hEL hC.1
    have q2 := hC.trans q
    rw [← eT] at q2
    exact q2
theorem Go.areturnS {EL : List (String × Nat)} {vm0 : Vm} {k0 : Nat} {Q : Option Value → Heap → List Loc → Prop} {rc rs : Nat} {t : FieldType} {v : Value} (k : Go p e below m W T pc L (v :: S)) (X : Stand p l e R (s.setVm vm0) m args below meth c T locs cells slots) (hx : p.tables.exec = Jvm.exec) (hZ : Z.Warmed39 vm0) (hEL : EW Z a0 EL) (hS : s.Since vm0 k0) (hk : k0 ≤ h.size) (eT : T.heap = h) (hC : CHr Z EL s.vm s.heap vm0 h) (hret : meth.sig.returnType = some t) (ht : t.isReference = true) (hv : v.isRef = true) (hd : decode c.code pc = .ok (.areturn, 1)) (hlk : meth.locks = false) (hq : Q (some v) T.heap locs) (h1 : cells ≤ rc) (h2 : slots ≤ rs) : DoneS p e below Z EL s W Q rc rs := by
  obtain ⟨fs, hr, hrun, hended, hW⟩ := X.leaveW hS (by rw [eT]; exact hk) (v := (some v)) (fun q => by rw [hret] at q; cases q) hlk
  refine ⟨_, _, k _ ?_, hrun, hended, _, _, rfl, hq, ?_, own_moreW hW h1 h2⟩
  · jvm_step X.here [X.here.top, hx, hd, X.method', hret, hv, ht]
    first | (intro acts; rw [hr _ acts rfl rfl rfl]) | rw [hr _ _ rfl rfl rfl]
    exact Steps.refl _
  · have q := CHv.at X hZ hEL hC.1
    have q2 := hC.trans q
    rw [← eT] at q2
    exact q2
end OwnKit

theorem own_eqi {args : Array Value} {first s : State} {o : Option Outcome} {idx : List Nat} {a : Term} {n : Int32} (h : (Cond.eq a (Term.int n)).value args first o s idx = some true) : a.eval args first o idx s = some (.int n) := by
  obtain ⟨x, y, h1, h2, -, -⟩ := cmp_v (Or.inl h)
  have e2 : (Term.int n).eval args first o idx s = some (.int n) := Term.int_eval n
  cases h2.symm.trans e2
  cases x <;> simp [Cond.value, h1, e2] at h
  rw [h1, h]
theorem own_eqr {args : Array Value} {first s : State} {o : Option Outcome} {idx : List Nat} {a b : Term} {y : Addr} (h : (Cond.eq a b).value args first o s idx = some true) (hb : b.eval args first o idx s = some (.ref y)) : a.eval args first o idx s = some (.ref y) := by
  obtain ⟨x, z, h1, h2, -, -⟩ := cmp_v (Or.inl h)
  cases h2.symm.trans hb
  cases x <;> simp [Cond.value, h1, hb] at h
  rw [h1, h]
theorem own_ne {Z : State} {h : Heap} {a b : Addr} {C n d : String} {v w : Value} (F : Fld Z h a C n d v) (G : Fld Z h b C n d w) (q : v ≠ w) : a ≠ b := by
  intro e
  subst e
  obtain ⟨c1, cf1, k1, i1, f1, h1, h2, -, -, -, -, h7⟩ := F
  obtain ⟨c2, cf2, k2, i2, f2, g1, g2, -, -, -, -, g7⟩ := G
  cases h1.symm.trans g1
  cases h2.symm.trans g2
  exact q (Option.some.inj (h7.symm.trans g7))
theorem own_nz {x : Int32} (h : x = 0 ∨ x = 1) : narrow .boolean (.int x) = .int x ∧ fits .boolean (.int x) = true ∧ nar .boolean x = x := by rcases h with rfl | rfl <;> exact ⟨rfl, rfl, rfl⟩
theorem own_nref {v : Value} {C : String} (h : v.isRef = true) : narrow (.object C) v = v := by cases v <;> first | rfl | simp [Value.isRef] at h
theorem own_fref {v : Value} {C : String} (h : v.isRef = true) : fits (.object C) v = true := by cases v <;> first | rfl | simp [Value.isRef] at h
theorem own_01 {x : Int32} {P : Prop} (h : (P ∧ x = (0 : Int32)) ∨ (¬ P ∧ x = (1 : Int32))) : x = 0 ∨ x = 1 := h.imp And.right And.right
theorem own_10 {x : Int32} {P : Prop} (h : (P ∧ x = (1 : Int32)) ∨ (¬ P ∧ x = (0 : Int32))) : x = 0 ∨ x = 1 := h.symm.imp And.right And.right

theorem own_mask (x : Int32) : 0 ≤ (x &&& (2147483647 : Int32)).toInt := (c_andS x 2147483647).2.2 (by decide)
theorem own_rem {x y : Int32} (hx : 0 ≤ x.toInt) (hy : 0 < y.toInt) : 0 ≤ (x % y).toInt ∧ (x % y).toInt < y.toInt := ⟨((c_iremV x y).1 hx hy).1, ((c_iremV x y).1 hx hy).2.1⟩
theorem own_i {x : Int32} {n : Int} (y : Int32) (h : x.toInt = n) (hy : y.toInt = n) : x = y := Int32.toInt_inj.mp (h.trans hy.symm)

def own_L : List (String × Nat) := [("java/lang/String", 7)]
theorem own_EL0 {Z : State} {a0 : Array Value} (hw : ∀ d ∈ tables_1, d.before a0 Z = true) : EW Z a0 own_L := (EW.cons (hw _ (List.mem_of_getElem? (i := 30) rfl)) (by decide) EW.nil)
theorem own_sa0 {Z : State} {a0 : Array Value} (hw : ∀ d ∈ tables_1, d.before a0 Z = true) : ∀ a ∈ Bundle.stringAtoms, a.before a0 Z = true := fun d hd => hw d ((by decide +kernel : ∀ d ∈ Bundle.stringAtoms, d ∈ tables_1) d hd)
theorem own_t0 : (∀ c ∈ ("" : String).toList, c.toNat < 256) ∧ ("" : String).toList.map (fun c => Value.int (Jvm.Lit.byteI c.toNat.toUInt16)) = [] := by decide

def own_b0 (c : Int32) : Int32 := ((c >>> ((0 : Int32) &&& 31))).toInt8.toInt32
def own_b1 (c : Int32) : Int32 := ((c >>> ((8 : Int32) &&& 31))).toInt8.toInt32
def own_pk (a b : Int32) : Int32 := ((((a &&& (255 : Int32)) <<< ((0 : Int32) &&& 31)) ||| ((b &&& (255 : Int32)) <<< ((8 : Int32) &&& 31)))).toUInt32.toUInt16.toUInt32.toInt32
def own_rk (c : Int32) : Prop := ¬ c < 0 ∧ ¬ (65535 : Int32) < c
theorem own_bv {c : Int32} (h : own_rk c) : c.toBitVec.toNat < 65536 := by
  have h1 := h.1; have h2 := h.2
  rw [Int32.lt_iff_toInt_lt] at h1 h2
  have z0 : (0 : Int32).toInt = 0 := rfl
  have z1 : (65535 : Int32).toInt = 65535 := rfl
  have e : c.toInt = c.toBitVec.toInt := rfl
  rw [BitVec.toInt_eq_toNat_cond] at e
  split at e <;> omega
theorem own_255 (i : Nat) : (255#32).getLsbD i = decide (i < 8) := by
  have : (255#32) = (255#8).setWidth 32 := rfl
  rw [this, BitVec.getLsbD_setWidth]
  have h8 : (255#8) = BitVec.allOnes 8 := rfl
  rw [h8, BitVec.getLsbD_allOnes]
  by_cases h : i < 8 <;> simp [h] <;> omega
theorem own_se (v : BitVec 32) : (BitVec.signExtend 32 (BitVec.signExtend 8 v)) &&& 255#32 = v &&& 255#32 := by
  apply BitVec.eq_of_getLsbD_eq
  intro i hi
  rw [BitVec.getLsbD_and, BitVec.getLsbD_and, own_255]
  by_cases h : i < 8
  · rw [BitVec.getLsbD_signExtend, BitVec.getLsbD_signExtend, if_pos h, if_pos hi]; simp [h, hi]
  · simp [h]
theorem own_pkv (v : BitVec 32) (h : v.toNat < 65536) : ((v &&& 255#32) ||| ((v.sshiftRight 8) &&& 255#32) <<< 8) = v := by
  apply BitVec.eq_of_getLsbD_eq
  intro i hi
  have z : 16 ≤ i → v.getLsbD i = false := by
    intro q
    apply Nat.testBit_lt_two_pow
    exact Nat.lt_of_lt_of_le h (by show 2^16 ≤ 2^i; exact Nat.pow_le_pow_right (by decide) q)
  rw [BitVec.getLsbD_or, BitVec.getLsbD_and, BitVec.getLsbD_shiftLeft, BitVec.getLsbD_and, own_255, own_255, BitVec.getLsbD_sshiftRight]
  by_cases h1 : i < 8
  · simp [h1]
  · by_cases h2 : i < 16
    · have e : 8 + (i - 8) = i := by omega
      have e2 : i - 8 < 8 := by omega
      have e3 : i < 32 := hi
      have e4 : ¬ (32 ≤ i - 8) := by omega
      simp [h1, e, e2, e3, e4]
    · have e2 : ¬ (i - 8 < 8) := by omega
      simp [h1, e2, z (by omega)]
theorem own_chr {c : Int32} (h : own_rk c) : own_pk (own_b0 c) (own_b1 c) = c := by
  have hb := own_bv h
  apply Int32.toBitVec_inj.mp
  have e : (((own_b0 c &&& (255 : Int32)) <<< ((0 : Int32) &&& 31)) ||| ((own_b1 c &&& (255 : Int32)) <<< ((8 : Int32) &&& 31))) = c := by
    apply Int32.toBitVec_inj.mp
    simp [own_b0, own_b1, own_se]
    exact own_pkv _ hb
  unfold own_pk
  rw [e]
  apply BitVec.eq_of_toNat_eq
  simp
  omega
theorem own_addI {x y : Int32} (h1 : -2147483648 ≤ x.toInt + y.toInt) (h2 : x.toInt + y.toInt < 2147483648) : (x + y).toInt = x.toInt + y.toInt := by
  rw [Int32.toInt_add]
  exact Int.bmod_eq_of_le (by omega) (by omega)
theorem own_subI {x y : Int32} (h1 : -2147483648 ≤ x.toInt - y.toInt) (h2 : x.toInt - y.toInt < 2147483648) : (x - y).toInt = x.toInt - y.toInt := by
  rw [Int32.toInt_sub]
  exact Int.bmod_eq_of_le (by omega) (by omega)
theorem own_ti {x : Int32} (h : 0 ≤ x.toInt) : x.toInt = (x.toBitVec.toNat : Int) := by
  have e : x.toInt = x.toBitVec.toInt := rfl
  rw [BitVec.toInt_eq_toNat_cond] at e
  split at e <;> omega
def own_c16 (x : Int32) : Int32 := x.toUInt32.toUInt16.toUInt32.toInt32
theorem own_rki (x : Int32) : own_rk (x.toUInt32.toUInt16.toUInt32.toInt32) := by
  have e : (x.toUInt32.toUInt16.toUInt32.toInt32).toBitVec.toNat < 65536 := by
    simp only [UInt32.toBitVec_toInt32, UInt16.toBitVec_toUInt32, UInt32.toBitVec_toUInt16]
    rw [BitVec.toNat_setWidth]
    have := (BitVec.setWidth 16 x.toUInt32.toBitVec).isLt
    omega
  have e2 : (x.toUInt32.toUInt16.toUInt32.toInt32).toInt = ((x.toUInt32.toUInt16.toUInt32.toInt32).toBitVec.toNat : Int) := by
    show (x.toUInt32.toUInt16.toUInt32.toInt32).toBitVec.toInt = _
    rw [BitVec.toInt_eq_toNat_cond, if_pos (by omega)]
  have z0 : (0 : Int32).toInt = 0 := rfl
  have z1 : (65535 : Int32).toInt = 65535 := rfl
  constructor
  · intro q; have q := Int32.lt_iff_toInt_lt.mp q; omega
  · intro q; have q := Int32.lt_iff_toInt_lt.mp q; omega
theorem own_i2c {x : Int32} (h : own_rk x) : x.toUInt32.toUInt16.toUInt32.toInt32 = x := by
  have hb := own_bv h
  apply Int32.toBitVec_inj.mp
  apply BitVec.eq_of_toNat_eq
  simp
  omega
def own_min (x y : Int32) : Int32 := if y < x then y else x
def own_icmp (x y : Int32) : Int32 := if x < y then (-1 : Int32) else if x = y then (0 : Int32) else (1 : Int32)
def own_rank (c : Int32) : Int32 := if c < (55296 : Int32) then c else if c < (57344 : Int32) then c + (65536 : Int32) else c
def own_sgn (r : Int32) : Int32 := if r < (0 : Int32) then (-1 : Int32) else if (0 : Int32) < r then (1 : Int32) else (0 : Int32)
def own_cp (r : Int32) : Int32 := if r < (55296 : Int32) then r else r + (2048 : Int32)
def own_hi (c : Int32) : Int32 := ((55296 : Int32) + ((c - (65536 : Int32)) >>> ((10 : Int32) &&& 31))).toUInt32.toUInt16.toUInt32.toInt32
def own_lo (c : Int32) : Int32 := ((56320 : Int32) + ((c - (65536 : Int32)) &&& (1023 : Int32))).toUInt32.toUInt16.toUInt32.toInt32
def own_put (c : Int32) : List Int32 := if c < (65536 : Int32) then [c.toUInt32.toUInt16.toUInt32.toInt32] else [own_hi c, own_lo c]
theorem own_put_s {c : Int32} (h : c < (65536 : Int32)) : own_put c = [c.toUInt32.toUInt16.toUInt32.toInt32] := if_pos h
theorem own_put_b {c : Int32} (h : ¬ (c < (65536 : Int32))) : own_put c = [((55296 : Int32) + ((c - (65536 : Int32)) >>> ((10 : Int32) &&& 31))).toUInt32.toUInt16.toUInt32.toInt32, ((56320 : Int32) + ((c - (65536 : Int32)) &&& (1023 : Int32))).toUInt32.toUInt16.toUInt32.toInt32] := if_neg h
def own_enc (c1 c2 n : Int32) : List Int32 := if n < (1 : Int32) then [] else if n < (2 : Int32) then own_put c1 else own_put c1 ++ own_put c2
def own_cmpL : List Int32 → List Int32 → Int32
  | [], [] => (0 : Int32)
  | [], _ :: _ => (-1 : Int32)
  | _ :: _, [] => (1 : Int32)
  | c :: cs, d :: ds => if c = d then own_cmpL cs ds else own_icmp (own_rank c) (own_rank d)
def own_rg (r : Int32) : Prop := 0 ≤ r.toInt ∧ r.toInt < 1112064
def own_cpr (c : Int32) : Prop := 0 ≤ c.toInt ∧ c.toInt ≤ 1114111 ∧ (c.toInt < 55296 ∨ 57344 ≤ c.toInt)
theorem own_LT (x y : Int32) : x < y ↔ x.toInt < y.toInt := Int32.lt_iff_toInt_lt
theorem own_EQ (x y : Int32) : x = y ↔ x.toInt = y.toInt := Int32.toInt_inj.symm
theorem own_cpok {r : Int32} (h : own_rg r) : own_cpr (own_cp r) := by
  obtain ⟨h1, h2⟩ := h
  have z1 : (55296 : Int32).toInt = 55296 := rfl
  have z2 : (2048 : Int32).toInt = 2048 := rfl
  unfold own_cp own_cpr
  split
  · rename_i q; rw [own_LT] at q; omega
  · rename_i q; rw [own_LT] at q
    rw [own_addI (by omega) (by omega)]; omega
theorem own_rkI (x : Int32) : own_rk x ↔ 0 ≤ x.toInt ∧ x.toInt ≤ 65535 := by
  have z0 : (0 : Int32).toInt = 0 := rfl
  have z1 : (65535 : Int32).toInt = 65535 := rfl
  unfold own_rk
  rw [own_LT, own_LT]; omega
theorem own_and1023 (x : Int32) (h : 0 ≤ x.toInt) : (x &&& (1023 : Int32)).toInt = x.toInt % 1024 := by
  have e1 : (x &&& (1023 : Int32)).toBitVec.toNat = x.toBitVec.toNat % 1024 := by
    rw [Int32.toBitVec_and, BitVec.toNat_and]
    exact Nat.and_two_pow_sub_one_eq_mod x.toBitVec.toNat 10
  have e2 : (x &&& (1023 : Int32)).toInt = ((x &&& (1023 : Int32)).toBitVec.toNat : Int) := by
    show (x &&& (1023 : Int32)).toBitVec.toInt = _
    rw [BitVec.toInt_eq_toNat_cond, if_pos (by omega)]
  rw [e2, e1, own_ti h]; omega
theorem own_shr10 (x : Int32) : (x >>> ((10 : Int32) &&& 31)).toInt = x.toInt / 1024 := by
  have e : (x >>> ((10 : Int32) &&& 31)).toBitVec = x.toBitVec.sshiftRight 10 := by simp
  show (x >>> ((10 : Int32) &&& 31)).toBitVec.toInt = _
  rw [e, BitVec.toInt_sshiftRight, Int.shiftRight_eq_div_pow]
  rfl
theorem own_hl {c : Int32} (h1 : 65536 ≤ c.toInt) (h2 : c.toInt ≤ 1114111) : (own_hi c).toInt = 55296 + (c.toInt - 65536) / 1024 ∧ (own_lo c).toInt = 56320 + (c.toInt - 65536) % 1024 := by
  have z1 : (55296 : Int32).toInt = 55296 := rfl
  have z2 : (56320 : Int32).toInt = 56320 := rfl
  have z3 : (65536 : Int32).toInt = 65536 := rfl
  have d : (c - (65536 : Int32)).toInt = c.toInt - 65536 := by rw [own_subI (by omega) (by omega), z3]
  have s := own_shr10 (c - (65536 : Int32))
  have a := own_and1023 (c - (65536 : Int32)) (by omega)
  rw [d] at s a
  have s2 : ((55296 : Int32) + ((c - (65536 : Int32)) >>> ((10 : Int32) &&& 31))).toInt = 55296 + (c.toInt - 65536) / 1024 := by rw [own_addI (by omega) (by omega), s, z1]
  have a2 : ((56320 : Int32) + ((c - (65536 : Int32)) &&& (1023 : Int32))).toInt = 56320 + (c.toInt - 65536) % 1024 := by rw [own_addI (by omega) (by omega), a, z2]
  unfold own_hi own_lo
  rw [own_i2c ((own_rkI _).mpr (by omega)), own_i2c ((own_rkI _).mpr (by omega))]
  exact ⟨s2, a2⟩
theorem own_rkr {c : Int32} (h1 : 0 ≤ c.toInt) (h2 : c.toInt ≤ 65535) : (own_rank c).toInt = if 55296 ≤ c.toInt ∧ c.toInt < 57344 then c.toInt + 65536 else c.toInt := by
  have z1 : (55296 : Int32).toInt = 55296 := rfl
  have z2 : (57344 : Int32).toInt = 57344 := rfl
  have z3 : (65536 : Int32).toInt = 65536 := rfl
  unfold own_rank
  split
  · rename_i q; rw [own_LT] at q; rw [if_neg (by omega)]
  · rename_i q; rw [own_LT] at q
    split
    · rename_i q2; rw [own_LT] at q2; rw [if_pos (by omega), own_addI (by omega) (by omega), z3]
    · rename_i q2; rw [own_LT] at q2; rw [if_neg (by omega)]
theorem own_rkN {c : Int32} (h1 : 0 ≤ c.toInt) (h2 : c.toInt ≤ 65535) (h3 : c.toInt < 55296 ∨ 57344 ≤ c.toInt) : (own_rank c).toInt = c.toInt := by rw [own_rkr h1 h2, if_neg (by omega)]
theorem own_rkY {c : Int32} (h1 : 55296 ≤ c.toInt) (h2 : c.toInt < 57344) : (own_rank c).toInt = c.toInt + 65536 := by rw [own_rkr (by omega) (by omega), if_pos (by omega)]
theorem own_icI (x y : Int32) : own_icmp x y = if x.toInt < y.toInt then (-1 : Int32) else if x.toInt = y.toInt then (0 : Int32) else (1 : Int32) := by
  unfold own_icmp
  simp only [own_LT, own_EQ]
theorem own_putS {c : Int32} (h : own_cpr c) (q : c < (65536 : Int32)) : own_put c = [c] := by
  have z : (65536 : Int32).toInt = 65536 := rfl
  rw [own_put_s q]; rw [own_LT] at q
  obtain ⟨h1, h2, h3⟩ := h
  rw [own_i2c ((own_rkI _).mpr (by omega))]
theorem own_step {a b : Int32} (ha : own_cpr a) (hb : own_cpr b) (X Y : List Int32) : own_cmpL (own_put a ++ X) (own_put b ++ Y) = if a = b then own_cmpL X Y else if a < b then (-1 : Int32) else (1 : Int32) := by
  have z : (65536 : Int32).toInt = 65536 := rfl
  by_cases q1 : a < (65536 : Int32) <;> by_cases q2 : b < (65536 : Int32)
  · rw [own_putS ha q1, own_putS hb q2]
    rw [own_LT] at q1 q2
    obtain ⟨a1, a2, a3⟩ := ha
    obtain ⟨b1, b2, b3⟩ := hb
    show (if a = b then own_cmpL X Y else own_icmp (own_rank a) (own_rank b)) = _
    by_cases e : a = b
    · rw [if_pos e, if_pos e]
    · rw [if_neg e, if_neg e, own_icI, own_rkN (by omega) (by omega) (by omega), own_rkN (by omega) (by omega) (by omega)]
      rw [own_EQ] at e
      simp only [own_LT]
      rw [if_neg e]
  · rw [own_putS ha q1, show own_put b = [own_hi b, own_lo b] from if_neg q2]
    rw [own_LT] at q1 q2
    obtain ⟨a1, a2, a3⟩ := ha
    obtain ⟨b1, b2, b3⟩ := hb
    obtain ⟨h1, h2⟩ := own_hl (c := b) (by omega) (by omega)
    show (if a = own_hi b then own_cmpL X (own_lo b :: Y) else own_icmp (own_rank a) (own_rank (own_hi b))) = _
    have e : ¬ a = own_hi b := by rw [own_EQ]; omega
    have e2 : ¬ a = b := by rw [own_EQ]; omega
    have e3 : a < b := by rw [own_LT]; omega
    rw [if_neg e, if_neg e2, if_pos e3, own_icI, own_rkN (by omega) (by omega) (by omega), own_rkY (by omega) (by omega), if_pos (by omega)]
  · rw [own_putS hb q2, show own_put a = [own_hi a, own_lo a] from if_neg q1]
    rw [own_LT] at q1 q2
    obtain ⟨a1, a2, a3⟩ := ha
    obtain ⟨b1, b2, b3⟩ := hb
    obtain ⟨h1, h2⟩ := own_hl (c := a) (by omega) (by omega)
    show (if own_hi a = b then own_cmpL (own_lo a :: X) Y else own_icmp (own_rank (own_hi a)) (own_rank b)) = _
    have e : ¬ own_hi a = b := by rw [own_EQ]; omega
    have e2 : ¬ a = b := by rw [own_EQ]; omega
    have e3 : ¬ a < b := by rw [own_LT]; omega
    rw [if_neg e, if_neg e2, if_neg e3, own_icI, own_rkY (by omega) (by omega), own_rkN (by omega) (by omega) (by omega), if_neg (by omega), if_neg (by omega)]
  · rw [show own_put b = [own_hi b, own_lo b] from if_neg q2, show own_put a = [own_hi a, own_lo a] from if_neg q1]
    rw [own_LT] at q1 q2
    obtain ⟨a1, a2, a3⟩ := ha
    obtain ⟨b1, b2, b3⟩ := hb
    obtain ⟨h1, h2⟩ := own_hl (c := a) (by omega) (by omega)
    obtain ⟨h3, h4⟩ := own_hl (c := b) (by omega) (by omega)
    show (if own_hi a = own_hi b then (if own_lo a = own_lo b then own_cmpL X Y else own_icmp (own_rank (own_lo a)) (own_rank (own_lo b))) else own_icmp (own_rank (own_hi a)) (own_rank (own_hi b))) = _
    by_cases e : own_hi a = own_hi b
    · rw [if_pos e]
      rw [own_EQ, h1, h3] at e
      by_cases f : own_lo a = own_lo b
      · rw [if_pos f]
        rw [own_EQ, h2, h4] at f
        have g : a = b := by rw [own_EQ]; omega
        rw [if_pos g]
      · rw [if_neg f]
        rw [own_EQ, h2, h4] at f
        have g : ¬ a = b := by rw [own_EQ]; omega
        rw [if_neg g, own_icI, own_rkY (by omega) (by omega), own_rkY (by omega) (by omega)]
        simp only [own_LT]
        by_cases k : a.toInt < b.toInt
        · rw [if_pos k, if_pos (by omega)]
        · rw [if_neg k, if_neg (by omega), if_neg (by omega)]
    · rw [if_neg e]
      rw [own_EQ, h1, h3] at e
      have g : ¬ a = b := by rw [own_EQ]; omega
      rw [if_neg g, own_icI, own_rkY (by omega) (by omega), own_rkY (by omega) (by omega)]
      simp only [own_LT]
      by_cases k : a.toInt < b.toInt
      · rw [if_pos k, if_pos (by omega)]
      · rw [if_neg k, if_neg (by omega), if_neg (by omega)]
theorem own_cmp0 {a : Int32} (X : List Int32) : own_cmpL [] (own_put a ++ X) = (-1 : Int32) := by
  unfold own_put
  split <;> rfl
theorem own_cmp1 {a : Int32} (X : List Int32) : own_cmpL (own_put a ++ X) [] = (1 : Int32) := by
  unfold own_put
  split <;> rfl
def own_exp (nA nB a1 a2 b1 b2 : Int32) : Int32 :=
  if nA < (1 : Int32) then (if nB < (1 : Int32) then (0 : Int32) else (-1 : Int32))
  else if nB < (1 : Int32) then (1 : Int32)
  else if a1 = b1 then
    (if nA < (2 : Int32) then (if nB < (2 : Int32) then (0 : Int32) else (-1 : Int32))
     else if nB < (2 : Int32) then (1 : Int32)
     else if a2 = b2 then (0 : Int32) else if a2 < b2 then (-1 : Int32) else (1 : Int32))
  else if a1 < b1 then (-1 : Int32) else (1 : Int32)
theorem own_sg (c : Prop) [Decidable c] {x y : Int32} (hx : own_sgn x = x) (hy : own_sgn y = y) : own_sgn (if c then x else y) = if c then x else y := by split <;> assumption
theorem own_lawc {a1 a2 b1 b2 : Int32} (ha1 : own_cpr a1) (ha2 : own_cpr a2) (hb1 : own_cpr b1) (hb2 : own_cpr b2) (nA nB : Int32) : own_cmpL (own_enc a1 a2 nA) (own_enc b1 b2 nB) = own_exp nA nB a1 a2 b1 b2 := by
  have eA : ∀ a b : Int32, own_put a ++ own_put b = own_put a ++ (own_put b ++ []) := fun a b => by rw [List.append_nil]
  have eB : ∀ a : Int32, own_put a = own_put a ++ [] := fun a => by rw [List.append_nil]
  unfold own_enc own_exp
  by_cases h1 : nA < (1 : Int32) <;> by_cases h2 : nB < (1 : Int32) <;> by_cases h3 : nA < (2 : Int32) <;> by_cases h4 : nB < (2 : Int32)
  all_goals first
    | (simp only [if_pos h1, if_pos h2]; rfl)
    | (simp only [if_pos h1, if_neg h2, if_pos h4]; rw [eB b1]; exact own_cmp0 _)
    | (simp only [if_pos h1, if_neg h2, if_neg h4]; exact own_cmp0 _)
    | (simp only [if_neg h1, if_pos h2, if_pos h3]; rw [eB a1]; exact own_cmp1 _)
    | (simp only [if_neg h1, if_pos h2, if_neg h3]; exact own_cmp1 _)
    | (simp only [if_neg h1, if_neg h2, if_pos h3, if_pos h4]; rw [eB a1, eB b1, own_step ha1 hb1]; rfl)
    | (simp only [if_neg h1, if_neg h2, if_pos h3, if_neg h4]; rw [eB a1, own_step ha1 hb1, eB b2, own_cmp0])
    | (simp only [if_neg h1, if_neg h2, if_neg h3, if_pos h4]; rw [eB b1, own_step ha1 hb1, eB a2, own_cmp1])
    | (simp only [if_neg h1, if_neg h2, if_neg h3, if_neg h4]; rw [own_step ha1 hb1, eB a2, eB b2, own_step ha2 hb2]; rfl)
theorem own_law {a1 a2 b1 b2 : Int32} (ha1 : own_cpr a1) (ha2 : own_cpr a2) (hb1 : own_cpr b1) (hb2 : own_cpr b2) (nA nB : Int32) : own_sgn (own_cmpL (own_enc a1 a2 nA) (own_enc b1 b2 nB)) = own_exp nA nB a1 a2 b1 b2 := by
  rw [own_lawc ha1 ha2 hb1 hb2]
  unfold own_exp
  repeat' (first | rfl | apply own_sg)
theorem own_rgor {r : Int32} (y : Int32) (h : own_rg r) : own_rg ((r &&& (-1024 : Int32)) ||| (y &&& (1023 : Int32))) := by
  obtain ⟨h1, h2⟩ := h
  have e := own_ti h1
  have hn : r.toBitVec.toNat < 1112064 := by omega
  have e1 : ((r &&& (-1024 : Int32)) ||| (y &&& (1023 : Int32))).toBitVec.toNat < 1112064 := by
    rw [Int32.toBitVec_or, Int32.toBitVec_and, Int32.toBitVec_and, BitVec.toNat_or, BitVec.toNat_and, BitVec.toNat_and]
    have q1 : r.toBitVec.toNat &&& (-1024 : Int32).toBitVec.toNat = 2 ^ 10 * (r.toBitVec.toNat / 1024) := by
      apply Nat.eq_of_testBit_eq
      intro i
      rw [Nat.testBit_and, Nat.testBit_two_pow_mul, show r.toBitVec.toNat / 1024 = r.toBitVec.toNat / 2 ^ 10 from rfl, Nat.testBit_div_two_pow]
      by_cases hi : i < 32
      · have t : ∀ i : Fin 32, (-1024 : Int32).toBitVec.toNat.testBit i.val = decide (10 ≤ i.val) := by decide
        rw [t ⟨i, hi⟩]
        by_cases h10 : 10 ≤ i
        · have : i - 10 + 10 = i := by omega
          simp [h10, this]
        · simp [h10]
      · have z : r.toBitVec.toNat.testBit i = false := Nat.testBit_lt_two_pow (Nat.lt_of_lt_of_le r.toBitVec.isLt (Nat.pow_le_pow_right (by decide) (by omega)))
        have : i - 10 + 10 = i := by omega
        simp [z, this]
    have q2 : y.toBitVec.toNat &&& (1023 : Int32).toBitVec.toNat < 2 ^ 10 := Nat.lt_of_le_of_lt Nat.and_le_right (by decide)
    rw [q1, ← Nat.two_pow_add_eq_or_of_lt q2]
    omega
  have e2 : ((r &&& (-1024 : Int32)) ||| (y &&& (1023 : Int32))).toInt = (((r &&& (-1024 : Int32)) ||| (y &&& (1023 : Int32))).toBitVec.toNat : Int) := by
    show ((r &&& (-1024 : Int32)) ||| (y &&& (1023 : Int32))).toBitVec.toInt = _
    rw [BitVec.toInt_eq_toNat_cond, if_pos (by omega)]
  unfold own_rg; omega
def own_fm (cs : List Int32) : List Value := cs.flatMap fun c => [.int (own_b0 c), .int (own_b1 c)]
def own_lm (cs : List Int32) : List Value := cs.map fun c => .int c.toInt8.toInt32
def own_Enc (cs : List Int32) (z cd : Int32) (vs : List Value) : Prop := (cd = (0 : Int32) ∧ z = Int32.ofNat cs.length ∧ vs = own_lm cs ∧ ∀ c ∈ cs, ¬ ((255 : Int32) < c)) ∨ (cd = (1 : Int32) ∧ z = Int32.ofNat (2 * cs.length) ∧ vs = own_fm cs)
theorem own_lx {n i : Nat} (hn : n ≤ 4) (hi : i < n) : (Int32.ofNat n).toNatClampNeg = n ∧ (Int32.ofNat i).toNatClampNeg = i ∧ ¬ (Int32.ofNat i < (0 : Int32)) ∧ (Int32.ofNat i < Int32.ofNat n) := by
  have t : ∀ n : Fin 5, ∀ i : Fin 5, i.val < n.val → (Int32.ofNat n.val).toNatClampNeg = n.val ∧ (Int32.ofNat i.val).toNatClampNeg = i.val ∧ ¬ (Int32.ofNat i.val < (0 : Int32)) ∧ (Int32.ofNat i.val < Int32.ofNat n.val) := by decide
  exact t ⟨n, by omega⟩ ⟨i, by omega⟩ hi
theorem own_ux {n i : Nat} (hn : n ≤ 4) (hi : i < n) : (Int32.ofNat (2 * n)).toNatClampNeg = 2 * n ∧ (Int32.ofNat i <<< ((1 : Int32) &&& 31)).toNatClampNeg = 2 * i ∧ ¬ ((Int32.ofNat i <<< ((1 : Int32) &&& 31)) < (0 : Int32)) ∧ ((Int32.ofNat i <<< ((1 : Int32) &&& 31)) + (1 : Int32)).toNatClampNeg = 2 * i + 1 ∧ ¬ (((Int32.ofNat i <<< ((1 : Int32) &&& 31)) + (1 : Int32)) < (0 : Int32)) ∧ ¬ (Int32.ofNat i < (0 : Int32)) ∧ (Int32.ofNat i < (Int32.ofNat (2 * n) >>> ((1 : Int32) &&& 31))) := by
  have t : ∀ n : Fin 5, ∀ i : Fin 5, i.val < n.val → (Int32.ofNat (2 * n.val)).toNatClampNeg = 2 * n.val ∧ (Int32.ofNat i.val <<< ((1 : Int32) &&& 31)).toNatClampNeg = 2 * i.val ∧ ¬ ((Int32.ofNat i.val <<< ((1 : Int32) &&& 31)) < (0 : Int32)) ∧ ((Int32.ofNat i.val <<< ((1 : Int32) &&& 31)) + (1 : Int32)).toNatClampNeg = 2 * i.val + 1 ∧ ¬ (((Int32.ofNat i.val <<< ((1 : Int32) &&& 31)) + (1 : Int32)) < (0 : Int32)) ∧ ¬ (Int32.ofNat i.val < (0 : Int32)) ∧ (Int32.ofNat i.val < (Int32.ofNat (2 * n.val) >>> ((1 : Int32) &&& 31))) := by decide
  exact t ⟨n, by omega⟩ ⟨i, by omega⟩ hi
theorem own_len0 (z : Int32) : z >>> ((0 : Int32) &&& 31) = z := by
  apply Int32.toBitVec_inj.mp
  simp
theorem own_len1 {n : Nat} (hn : n ≤ 4) : Int32.ofNat (2 * n) >>> ((1 : Int32) &&& 31) = Int32.ofNat n := by
  have t : ∀ n : Fin 5, Int32.ofNat (2 * n.val) >>> ((1 : Int32) &&& 31) = Int32.ofNat n.val := by decide
  exact t ⟨n, by omega⟩
theorem own_getL {cs : List Int32} {i : Nat} (hi : i < cs.length) : (own_lm cs).getD i (.int (0 : Int32)) = .int (cs.getD i 0).toInt8.toInt32 := by
  unfold own_lm
  simp [List.getD, hi]
theorem own_getU : ∀ (cs : List Int32) (i : Nat), i < cs.length → (own_fm cs).getD (2 * i) (.int (0 : Int32)) = .int (own_b0 (cs.getD i 0)) ∧ (own_fm cs).getD (2 * i + 1) (.int (0 : Int32)) = .int (own_b1 (cs.getD i 0)) := by
  intro cs
  induction cs with
  | nil => intro i hi; exact absurd hi (Nat.not_lt_zero _)
  | cons c cs ih =>
    intro i hi
    cases i with
    | zero => exact ⟨rfl, rfl⟩
    | succ j =>
      have q := ih j (Nat.lt_of_succ_lt_succ hi)
      have e : own_fm (c :: cs) = .int (own_b0 c) :: .int (own_b1 c) :: own_fm cs := rfl
      have e1 : 2 * (j + 1) = 2 * j + 1 + 1 := by omega
      rw [e, e1]
      exact q
theorem own_rkg {cs : List Int32} (h : ∀ c ∈ cs, own_rk c) {i : Nat} (hi : i < cs.length) : own_rk (cs.getD i 0) := by
  have e : cs.getD i 0 = cs[i] := by simp [List.getD, hi]
  rw [e]; exact h _ (List.getElem_mem hi)
theorem own_memg {cs : List Int32} {i : Nat} (hi : i < cs.length) : cs.getD i 0 ∈ cs := by
  have e : cs.getD i 0 = cs[i] := by simp [List.getD, hi]
  rw [e]; exact List.getElem_mem hi
theorem own_latc {c : Int32} (h : own_rk c) (h2 : ¬ ((255 : Int32) < c)) : (c.toInt8.toInt32 &&& (255 : Int32)) = c := by
  have hb := own_bv h
  have z : (255 : Int32).toInt = 255 := rfl
  rw [Int32.lt_iff_toInt_lt] at h2
  have e : c.toInt = (c.toBitVec.toNat : Int) := by
    show c.toBitVec.toInt = _
    rw [BitVec.toInt_eq_toNat_cond, if_pos (by omega)]
  apply Int32.toBitVec_inj.mp
  have e1 : (c.toInt8.toInt32 &&& (255 : Int32)).toBitVec = c.toBitVec &&& 255#32 := by
    rw [Int32.toBitVec_and]
    show (c.toInt8.toInt32).toBitVec &&& 255#32 = _
    rw [show (c.toInt8.toInt32).toBitVec = BitVec.signExtend 32 (BitVec.signExtend 8 c.toBitVec) by simp [BitVec.signExtend_eq_setWidth_of_le]]
    exact own_se _
  rw [e1]
  apply BitVec.eq_of_toNat_eq
  rw [BitVec.toNat_and]
  show c.toBitVec.toNat &&& (2 ^ 8 - 1) = _
  rw [Nat.and_two_pow_sub_one_eq_mod]
  omega
def own_Inv (k : Nat) (cs ds : List Int32) : Prop := own_cmpL cs ds = own_cmpL (cs.drop k) (ds.drop k) ∧ k ≤ cs.length ∧ k ≤ ds.length
theorem own_inv0 (cs ds : List Int32) : own_Inv 0 cs ds := ⟨rfl, Nat.zero_le _, Nat.zero_le _⟩
theorem own_min4 {n m k : Nat} (hn : n ≤ 4) (hm : m ≤ 4) (hk : k ≤ 4) : (Int32.ofNat k < own_min (Int32.ofNat n) (Int32.ofNat m)) ↔ (k < n ∧ k < m) := by
  have t : ∀ n m k : Fin 5, (Int32.ofNat k.val < own_min (Int32.ofNat n.val) (Int32.ofNat m.val)) ↔ (k.val < n.val ∧ k.val < m.val) := by decide
  exact t ⟨n, by omega⟩ ⟨m, by omega⟩ ⟨k, by omega⟩
theorem own_drop {cs : List Int32} {k : Nat} (h : k < cs.length) : cs.drop k = cs.getD k 0 :: cs.drop (k + 1) := by
  rw [List.drop_eq_getElem_cons h]
  simp [List.getD, h]
theorem own_next {k : Nat} {cs ds : List Int32} (I : own_Inv k cs ds) (h1 : k < cs.length) (h2 : k < ds.length) (e : cs.getD k 0 = ds.getD k 0) : own_Inv (k + 1) cs ds := by
  obtain ⟨q, -, -⟩ := I
  refine ⟨?_, h1, h2⟩
  rw [q, own_drop h1, own_drop h2]
  show (if _ = _ then _ else _) = _
  rw [if_pos e]
theorem own_diff {k : Nat} {cs ds : List Int32} (I : own_Inv k cs ds) (h1 : k < cs.length) (h2 : k < ds.length) (e : ¬ (cs.getD k 0 = ds.getD k 0)) : own_icmp (own_rank (cs.getD k 0)) (own_rank (ds.getD k 0)) = own_cmpL cs ds := by
  obtain ⟨q, -, -⟩ := I
  rw [q, own_drop h1, own_drop h2]
  show _ = (if _ = _ then _ else _)
  rw [if_neg e]
theorem own_ic4 {n m : Nat} (hn : n ≤ 4) (hm : m ≤ 4) : own_icmp (Int32.ofNat n) (Int32.ofNat m) = if n < m then (-1 : Int32) else if n = m then (0 : Int32) else (1 : Int32) := by
  have t : ∀ n m : Fin 5, own_icmp (Int32.ofNat n.val) (Int32.ofNat m.val) = if n.val < m.val then (-1 : Int32) else if n.val = m.val then (0 : Int32) else (1 : Int32) := by decide
  exact t ⟨n, by omega⟩ ⟨m, by omega⟩
theorem own_exit {k : Nat} {cs ds : List Int32} (I : own_Inv k cs ds) (l1 : cs.length ≤ 4) (l2 : ds.length ≤ 4) (hk : k ≤ 4) (h : ¬ (Int32.ofNat k < own_min (Int32.ofNat cs.length) (Int32.ofNat ds.length))) : own_icmp (Int32.ofNat cs.length) (Int32.ofNat ds.length) = own_cmpL cs ds := by
  rw [own_min4 l1 l2 hk] at h
  obtain ⟨q, q1, q2⟩ := I
  rw [q, own_ic4 l1 l2]
  by_cases e1 : k < cs.length <;> by_cases e2 : k < ds.length
  · exact absurd ⟨e1, e2⟩ h
  · rw [own_drop e1, List.drop_eq_nil_of_le (as := ds) (by omega), if_neg (by omega), if_neg (by omega)]; rfl
  · rw [own_drop e2, List.drop_eq_nil_of_le (by omega), if_pos (by omega)]; rfl
  · rw [List.drop_eq_nil_of_le (by omega), List.drop_eq_nil_of_le (by omega), if_neg (by omega), if_pos (by omega)]; rfl
theorem own_not4 {cs ds : List Int32} (l1 : cs.length ≤ 4) (l2 : ds.length ≤ 4) : ¬ ((4 : Int32) < own_min (Int32.ofNat cs.length) (Int32.ofNat ds.length)) := by
  have q := own_min4 (k := 4) l1 l2 (by decide)
  intro h
  have := q.mp h
  omega
theorem own_E0 : ∀ c ∈ ([] : List Int32), own_rk c := fun _ q => nomatch q
theorem own_E1 {x : Int32} {xs : List Int32} (h : own_rk x) (r : ∀ c ∈ xs, own_rk c) : ∀ c ∈ x :: xs, own_rk c := by
  intro c hc
  rcases List.mem_cons.mp hc with rfl | q
  · exact h
  · exact r c q
theorem own_N0 : ∀ c ∈ ([] : List Int32), ¬ ((255 : Int32) < c) := fun _ q => nomatch q
theorem own_N1 {x : Int32} {xs : List Int32} (h : ¬ ((255 : Int32) < x)) (r : ∀ c ∈ xs, ¬ ((255 : Int32) < c)) : ∀ c ∈ x :: xs, ¬ ((255 : Int32) < c) := by
  intro c hc
  rcases List.mem_cons.mp hc with rfl | q
  · exact h
  · exact r c q
theorem own_rg3 (x : Int32) (h : 0 ≤ x.toInt ∧ x.toInt < 3) : x = (0 : Int32) ∨ x = (1 : Int32) ∨ x = (2 : Int32) := by
  have z0 : (0 : Int32).toInt = 0 := rfl
  have z1 : (1 : Int32).toInt = 1 := rfl
  have z2 : (2 : Int32).toInt = 2 := rfl
  rw [own_EQ, own_EQ, own_EQ]; omega

theorem own_narb (x : Int32) : nar .byte x.toInt8.toInt32 = x.toInt8.toInt32 := by simp [nar]
theorem own_narr {x : Int32} (h : own_rk x) : nar .char x = x := by
  have q := own_i2c h
  simpa only [nar] using q
theorem own_nari (x : Int32) : nar .char x.toUInt32.toUInt16.toUInt32.toInt32 = x.toUInt32.toUInt16.toUInt32.toInt32 := own_narr (own_rki x)
theorem own_rgraw (x : Int32) : own_rg ((x &&& (2147483647 : Int32)) % (1112064 : Int32)) := by
  have q := own_rem (own_mask x) (show 0 < (1112064 : Int32).toInt by decide)
  have z : (1112064 : Int32).toInt = 1112064 := by decide
  rw [z] at q; exact q
theorem own_n3 (x : Int32) : (x &&& (3 : Int32)) % (3 : Int32) = (0 : Int32) ∨ (x &&& (3 : Int32)) % (3 : Int32) = (1 : Int32) ∨ (x &&& (3 : Int32)) % (3 : Int32) = (2 : Int32) := by
  have q := own_rem ((c_andS x 3).2.2 (by decide)) (show 0 < (3 : Int32).toInt by decide)
  have z : (3 : Int32).toInt = 3 := by decide
  rw [z] at q; exact own_rg3 _ q
/-- a String at x that spells cs: at most four chars -/
def own_Str (Z : State) (h : Heap) (x : Addr) (cs : List Int32) : Prop := cs.length ≤ 4 ∧ (∀ c ∈ cs, own_rk c) ∧ ∃ (t : Addr) (kb : ClassId) (z cd : Int32) (vs : List Value), Fld Z h x "java/lang/String" "value" "[B" (.ref t) ∧ Fld Z h x "java/lang/String" "coder" "B" (.int cd) ∧ Arv Z h t kb .byte z vs (.int (0 : Int32)) ∧ own_Enc cs z cd vs
theorem own_Str.ext {Z : State} {h h' : Heap} {x : Addr} {cs : List Int32} (S : own_Str Z h x cs) (E : Ext h h') : own_Str Z h' x cs := by
  obtain ⟨l, r, t, kb, z, cd, vs, a, b, d, q⟩ := S
  exact ⟨l, r, t, kb, z, cd, vs, a.ext E, b.ext E, d.ext E, q⟩
theorem own_Str.lt {Z : State} {h : Heap} {x : Addr} {cs : List Int32} (S : own_Str Z h x cs) : x < h.size := by
  obtain ⟨l, r, t, kb, z, cd, vs, a, -⟩ := S
  exact a.lt
theorem own_Str.keep0 {Z : State} {h h' : Heap} {x : Addr} {cs : List Int32} (S : own_Str Z h x cs) (K : Keep h h' []) : own_Str Z h' x cs := by
  obtain ⟨l, r, t, kb, z, cd, vs, a, b, d, q⟩ := S
  exact ⟨l, r, t, kb, z, cd, vs, a.keep K List.not_mem_nil, b.keep K List.not_mem_nil, d.keep K List.not_mem_nil, q⟩

theorem d_rmraw_0 : decode method_2_code 0 = .ok (.iload_n 0, 1) := by decide +kernel
theorem d_rmraw_1 : decode method_2_code 1 = .ok (.ldc 7, 2) := by decide +kernel
theorem d_rmraw_3 : decode method_2_code 3 = .ok (.iand, 1) := by decide +kernel
theorem d_rmraw_4 : decode method_2_code 4 = .ok (.ldc 10, 2) := by decide +kernel
theorem d_rmraw_6 : decode method_2_code 6 = .ok (.irem, 1) := by decide +kernel
theorem d_rmraw_7 : decode method_2_code 7 = .ok (.ireturn, 1) := by decide +kernel
theorem pn_rmraw : plainName "com/example/promovent/promovent/library/CodePointsComparePinLaw" = true := by first | (simp [plainName, overriddenIn]; done) | decide +kernel
theorem ef_rmraw (m : MethodId) (p1 : Int32) : entryFrame m #[(.int p1)] 1 = mkF m 0 #[.val (.int p1)] [] := by first | (simp [entryFrame, mkF, argsToLocals, Value.category]; done) | rfl
def Q_rmraw (Z : State) (p1 : Int32) (h0 : Heap) (n0 : Nat) (v : Option Value) (h : Heap) (L : List Loc) : Prop := v = some (.int ((p1 &&& (2147483647 : Int32)) % (1112064 : Int32))) ∧ Fr n0 L ∧ h = h0
set_option maxRecDepth 65536 in
set_option maxHeartbeats 40000000 in
theorem rmraw (l : Launch) (Z : State) (a0 : Array Value) (hw : ∀ d ∈ tables_1, d.before a0 Z = true) (ws : List Jvm.Cond) (p1 : Int32) (h0 : Heap) (n0 : Nat) (Z0 : n0 ≤ h0.size)  :
    MetFree l (⟨"com/example/promovent/promovent/library/CodePointsComparePinLaw", "raw", "(I)I"⟩ : MethodName) (head1 (Jvm.Cond.code (⟨"com/example/promovent/promovent/library/CodePointsComparePinLaw", "raw", "(I)I"⟩ : MethodName) method_2_code 1 (some .int) :: ws) ({ frames := 0, cells := 0, slots := 0, locals := 0 } : Room)) (fun a U => a = #[(.int p1)] ∧ Z.Warmed39 U.vm ∧ U.heap = h0) (fun _ _ _ _ _ => True) (fun _ U o U' => ∃ v L, o = .returned v ∧ Q_rmraw Z p1 h0 n0 v U'.heap L ∧ FrameEnd U o U' L ({ frames := 0, cells := 0, slots := 0, locals := 0 } : Room).cells ({ frames := 0, cells := 0, slots := 0, locals := 0 } : Room).slots) := by
  refine MetFree.of_bodySF (plainFor_of_name pn_rmraw) hisR ?_
  intro p e s m args_ below meth c s₁ Bd hml0 hP hK
  obtain ⟨hargs, hZ, hh⟩ := hP
  have hx := Bd.exec
  have hby := Bd.bytes
  have hml : c.maxLocals = 1 := hml0
  have hown : s.vm.findClass "com/example/promovent/promovent/library/CodePointsComparePinLaw" = some m.cls := findClass_of_methodNamed Bd.named
  have hnm := (name_of_methodNamed Bd.named Bd.method).1
  have X0 : Stand p l e ({ frames := 0, cells := 0, slots := 0, locals := 0 } : Room) s m args_ below meth c s₁ [] 0 0 := Stand.of_body Bd
  have e0 : s₁.heap = h0 := by rw [← hh, Bd.state]; rfl
  have N0 := Fr.nil n0
  have hv : ∀ (i : Nat) {d : Jvm.Cond}, tables_1[i]? = some d → d.before a0 Z = true := fun i d q => hw d (List.mem_of_getElem? q)
  have k0 : Go p e below m (s₁.setTop (entryFrame m args_ 1)) s₁ 0 #[.val (.int p1)] [] := by rw [hargs]; exact fun t kt => castTop (ef_rmraw m p1) kt
  obtain ⟨W, hWW⟩ : ∃ W, W = s₁.setTop (entryFrame m args_ 1) := ⟨_, rfl⟩
  rw [← hWW] at k0 ⊢
  show Done p e below s W (Q_rmraw Z p1 h0 n0) ({ frames := 0, cells := 0, slots := 0, locals := 0 } : Room).cells ({ frames := 0, cells := 0, slots := 0, locals := 0 } : Room).slots
  have k20 : Go p e below m W s₁ 7 #[.val (.int p1)] [(.int ((p1 &&& (2147483647 : Int32)) % (1112064 : Int32)))] := ((((k0.iloadN X0 hx (hb hby d_rmraw_0) rfl).ldcI X0 hx hZ hown (hv 4 rfl) (hb hby d_rmraw_1)).iand X0 hx (hb hby d_rmraw_3)).ldcI X0 hx hZ hown (hv 5 rfl) (hb hby d_rmraw_4)).irem X0 hx (hb hby d_rmraw_6) (by decide)
  exact k20.ireturnI X0 hx Bd.returns (hb hby d_rmraw_7) (BodyLoose.notSynchronized Bd) (by rw [e0]; exact ⟨rfl, N0, rfl⟩) (by decide) (by decide)

theorem d_rmcp_0 : decode method_3_code 0 = .ok (.iload_n 0, 1) := by decide +kernel
theorem d_rmcp_1 : decode method_3_code 1 = .ok (.ldc 11, 2) := by decide +kernel
theorem d_rmcp_3 : decode method_3_code 3 = .ok (.if_icmp .lt 11, 3) := by decide +kernel
theorem d_rmcp_6 : decode method_3_code 6 = .ok (.iload_n 0, 1) := by decide +kernel
theorem d_rmcp_7 : decode method_3_code 7 = .ok (.sipush 2048, 3) := by decide +kernel
theorem d_rmcp_10 : decode method_3_code 10 = .ok (.iadd, 1) := by decide +kernel
theorem d_rmcp_11 : decode method_3_code 11 = .ok (.goto 4, 3) := by decide +kernel
theorem d_rmcp_14 : decode method_3_code 14 = .ok (.iload_n 0, 1) := by decide +kernel
theorem d_rmcp_15 : decode method_3_code 15 = .ok (.ireturn, 1) := by decide +kernel
theorem ef_rmcp (m : MethodId) (p1 : Int32) : entryFrame m #[(.int p1)] 1 = mkF m 0 #[.val (.int p1)] [] := by first | (simp [entryFrame, mkF, argsToLocals, Value.category]; done) | rfl
def Q_rmcp (Z : State) (p1 : Int32) (h0 : Heap) (n0 : Nat) (v : Option Value) (h : Heap) (L : List Loc) : Prop := v = some (.int (own_cp p1)) ∧ Fr n0 L ∧ h = h0
set_option maxRecDepth 65536 in
set_option maxHeartbeats 40000000 in
theorem rmcp (l : Launch) (Z : State) (a0 : Array Value) (hw : ∀ d ∈ tables_1, d.before a0 Z = true) (ws : List Jvm.Cond) (p1 : Int32) (h0 : Heap) (n0 : Nat) (Z0 : n0 ≤ h0.size)  :
    MetFree l (⟨"com/example/promovent/promovent/library/CodePointsComparePinLaw", "toCp", "(I)I"⟩ : MethodName) (head1 (Jvm.Cond.code (⟨"com/example/promovent/promovent/library/CodePointsComparePinLaw", "toCp", "(I)I"⟩ : MethodName) method_3_code 1 (some .int) :: ws) ({ frames := 0, cells := 0, slots := 0, locals := 0 } : Room)) (fun a U => a = #[(.int p1)] ∧ Z.Warmed39 U.vm ∧ U.heap = h0) (fun _ _ _ _ _ => True) (fun _ U o U' => ∃ v L, o = .returned v ∧ Q_rmcp Z p1 h0 n0 v U'.heap L ∧ FrameEnd U o U' L ({ frames := 0, cells := 0, slots := 0, locals := 0 } : Room).cells ({ frames := 0, cells := 0, slots := 0, locals := 0 } : Room).slots) := by
  refine MetFree.of_bodySF (plainFor_of_name pn_rmraw) hisR ?_
  intro p e s m args_ below meth c s₁ Bd hml0 hP hK
  obtain ⟨hargs, hZ, hh⟩ := hP
  have hx := Bd.exec
  have hby := Bd.bytes
  have hml : c.maxLocals = 1 := hml0
  have hown : s.vm.findClass "com/example/promovent/promovent/library/CodePointsComparePinLaw" = some m.cls := findClass_of_methodNamed Bd.named
  have hnm := (name_of_methodNamed Bd.named Bd.method).1
  have X0 : Stand p l e ({ frames := 0, cells := 0, slots := 0, locals := 0 } : Room) s m args_ below meth c s₁ [] 0 0 := Stand.of_body Bd
  have e0 : s₁.heap = h0 := by rw [← hh, Bd.state]; rfl
  have N0 := Fr.nil n0
  have hv : ∀ (i : Nat) {d : Jvm.Cond}, tables_1[i]? = some d → d.before a0 Z = true := fun i d q => hw d (List.mem_of_getElem? q)
  have k0 : Go p e below m (s₁.setTop (entryFrame m args_ 1)) s₁ 0 #[.val (.int p1)] [] := by rw [hargs]; exact fun t kt => castTop (ef_rmcp m p1) kt
  obtain ⟨W, hWW⟩ : ∃ W, W = s₁.setTop (entryFrame m args_ 1) := ⟨_, rfl⟩
  rw [← hWW] at k0 ⊢
  show Done p e below s W (Q_rmcp Z p1 h0 n0) ({ frames := 0, cells := 0, slots := 0, locals := 0 } : Room).cells ({ frames := 0, cells := 0, slots := 0, locals := 0 } : Room).slots
  have k20 : Go p e below m W s₁ 3 #[.val (.int p1)] [(.int (55296 : Int32)), (.int p1)] := (k0.iloadN X0 hx (hb hby d_rmcp_0) rfl).ldcI X0 hx hZ hown (hv 9 rfl) (hb hby d_rmcp_1)
  by_cases hc3_21 : p1 < (55296 : Int32)
  ·
    have k22 : Go p e below m W s₁ 15 #[.val (.int p1)] [(.int p1)] := (k20.icmpYes X0 hx (hb hby d_rmcp_3) (XT.ii_lt_t hc3_21) (by decide) (by decide)).iloadN X0 hx (hb hby d_rmcp_14) rfl
    have k23 : Go p e below m W s₁ 15 #[.val (.int p1)] [(.int (own_cp p1))] := k22.cast (y := (own_cp p1)) (by unfold own_cp; rw [if_pos hc3_21])
    exact k23.ireturnI X0 hx Bd.returns (hb hby d_rmcp_15) (BodyLoose.notSynchronized Bd) (by rw [e0]; exact ⟨rfl, N0, rfl⟩) (by decide) (by decide)
  ·
    have k24 : Go p e below m W s₁ 15 #[.val (.int p1)] [(.int (p1 + (2048 : Int32)))] := ((((k20.icmpNo X0 hx (hb hby d_rmcp_3) (XT.ii_lt_f hc3_21)).iloadN X0 hx (hb hby d_rmcp_6) rfl).sipush X0 hx (hb hby d_rmcp_7) (v := (2048 : Int32)) rfl).iadd X0 hx (hb hby d_rmcp_10)).goto X0 hx (hb hby d_rmcp_11) (by decide) (by decide)
    have k25 : Go p e below m W s₁ 15 #[.val (.int p1)] [(.int (own_cp p1))] := k24.cast (y := (own_cp p1)) (by unfold own_cp; rw [if_neg hc3_21])
    exact k25.ireturnI X0 hx Bd.returns (hb hby d_rmcp_15) (BodyLoose.notSynchronized Bd) (by rw [e0]; exact ⟨rfl, N0, rfl⟩) (by decide) (by decide)

theorem d_rmmin_0 : decode jdk_29_method_69_code 0 = .ok (.iload_n 0, 1) := by decide +kernel
theorem d_rmmin_1 : decode jdk_29_method_69_code 1 = .ok (.iload_n 1, 1) := by decide +kernel
theorem d_rmmin_2 : decode jdk_29_method_69_code 2 = .ok (.if_icmp .gt 7, 3) := by decide +kernel
theorem d_rmmin_5 : decode jdk_29_method_69_code 5 = .ok (.iload_n 0, 1) := by decide +kernel
theorem d_rmmin_6 : decode jdk_29_method_69_code 6 = .ok (.goto 4, 3) := by decide +kernel
theorem d_rmmin_9 : decode jdk_29_method_69_code 9 = .ok (.iload_n 1, 1) := by decide +kernel
theorem d_rmmin_10 : decode jdk_29_method_69_code 10 = .ok (.ireturn, 1) := by decide +kernel
theorem pf_rmmin : plainFor (⟨"java/lang/Math", "min", "(II)I"⟩ : MethodName) = true := by
  unfold plainFor
  rw [Bool.or_eq_true]
  right
  decide +kernel
theorem ef_rmmin (m : MethodId) (p1 : Int32) (p2 : Int32) : entryFrame m #[(.int p1), (.int p2)] 2 = mkF m 0 #[.val (.int p1), .val (.int p2)] [] := by first | (simp [entryFrame, mkF, argsToLocals, Value.category]; done) | rfl
def Q_rmmin (Z : State) (p1 : Int32) (p2 : Int32) (h0 : Heap) (n0 : Nat) (v : Option Value) (h : Heap) (L : List Loc) : Prop := v = some (.int (own_min p1 p2)) ∧ Fr n0 L ∧ h = h0
set_option maxRecDepth 65536 in
set_option maxHeartbeats 40000000 in
theorem rmmin (l : Launch) (Z : State) (a0 : Array Value) (hw : ∀ d ∈ tables_1, d.before a0 Z = true) (ws : List Jvm.Cond) (p1 : Int32) (p2 : Int32) (h0 : Heap) (n0 : Nat) (Z0 : n0 ≤ h0.size)  :
    MetFree l (⟨"java/lang/Math", "min", "(II)I"⟩ : MethodName) (head1 (Jvm.Cond.code (⟨"java/lang/Math", "min", "(II)I"⟩ : MethodName) jdk_29_method_69_code 2 (some .int) :: ws) ({ frames := 0, cells := 0, slots := 0, locals := 0 } : Room)) (fun a U => a = #[(.int p1), (.int p2)] ∧ Z.Warmed39 U.vm ∧ U.heap = h0) (fun _ _ _ _ _ => True) (fun _ U o U' => ∃ v L, o = .returned v ∧ Q_rmmin Z p1 p2 h0 n0 v U'.heap L ∧ FrameEnd U o U' L ({ frames := 0, cells := 0, slots := 0, locals := 0 } : Room).cells ({ frames := 0, cells := 0, slots := 0, locals := 0 } : Room).slots) := by
  refine MetFree.of_bodySF pf_rmmin hisR ?_
  intro p e s m args_ below meth c s₁ Bd hml0 hP hK
  obtain ⟨hargs, hZ, hh⟩ := hP
  have hx := Bd.exec
  have hby := Bd.bytes
  have hml : c.maxLocals = 2 := hml0
  have hown : s.vm.findClass "java/lang/Math" = some m.cls := findClass_of_methodNamed Bd.named
  have hnm := (name_of_methodNamed Bd.named Bd.method).1
  have X0 : Stand p l e ({ frames := 0, cells := 0, slots := 0, locals := 0 } : Room) s m args_ below meth c s₁ [] 0 0 := Stand.of_body Bd
  have e0 : s₁.heap = h0 := by rw [← hh, Bd.state]; rfl
  have N0 := Fr.nil n0
  have hv : ∀ (i : Nat) {d : Jvm.Cond}, tables_1[i]? = some d → d.before a0 Z = true := fun i d q => hw d (List.mem_of_getElem? q)
  have k0 : Go p e below m (s₁.setTop (entryFrame m args_ 2)) s₁ 0 #[.val (.int p1), .val (.int p2)] [] := by rw [hargs]; exact fun t kt => castTop (ef_rmmin m p1 p2) kt
  obtain ⟨W, hWW⟩ : ∃ W, W = s₁.setTop (entryFrame m args_ 2) := ⟨_, rfl⟩
  rw [← hWW] at k0 ⊢
  show Done p e below s W (Q_rmmin Z p1 p2 h0 n0) ({ frames := 0, cells := 0, slots := 0, locals := 0 } : Room).cells ({ frames := 0, cells := 0, slots := 0, locals := 0 } : Room).slots
  have k20 : Go p e below m W s₁ 2 #[.val (.int p1), .val (.int p2)] [(.int p2), (.int p1)] := (k0.iloadN X0 hx (hb hby d_rmmin_0) rfl).iloadN X0 hx (hb hby d_rmmin_1) rfl
  by_cases hc2_21 : p2 < p1
  ·
    have k22 : Go p e below m W s₁ 10 #[.val (.int p1), .val (.int p2)] [(.int p2)] := (k20.icmpYes X0 hx (hb hby d_rmmin_2) (XT.ii_gt_t hc2_21) (by decide) (by decide)).iloadN X0 hx (hb hby d_rmmin_9) rfl
    have k23 : Go p e below m W s₁ 10 #[.val (.int p1), .val (.int p2)] [(.int (own_min p1 p2))] := k22.cast (y := (own_min p1 p2)) (by unfold own_min; rw [if_pos hc2_21])
    exact k23.ireturnI X0 hx Bd.returns (hb hby d_rmmin_10) (BodyLoose.notSynchronized Bd) (by rw [e0]; exact ⟨rfl, N0, rfl⟩) (by decide) (by decide)
  ·
    have k24 : Go p e below m W s₁ 10 #[.val (.int p1), .val (.int p2)] [(.int p1)] := ((k20.icmpNo X0 hx (hb hby d_rmmin_2) (XT.ii_gt_f hc2_21)).iloadN X0 hx (hb hby d_rmmin_5) rfl).goto X0 hx (hb hby d_rmmin_6) (by decide) (by decide)
    have k25 : Go p e below m W s₁ 10 #[.val (.int p1), .val (.int p2)] [(.int (own_min p1 p2))] := k24.cast (y := (own_min p1 p2)) (by unfold own_min; rw [if_neg hc2_21])
    exact k25.ireturnI X0 hx Bd.returns (hb hby d_rmmin_10) (BodyLoose.notSynchronized Bd) (by rw [e0]; exact ⟨rfl, N0, rfl⟩) (by decide) (by decide)

theorem d_rmic_0 : decode jdk_33_method_40_code 0 = .ok (.iload_n 0, 1) := by decide +kernel
theorem d_rmic_1 : decode jdk_33_method_40_code 1 = .ok (.iload_n 1, 1) := by decide +kernel
theorem d_rmic_2 : decode jdk_33_method_40_code 2 = .ok (.if_icmp .ge 7, 3) := by decide +kernel
theorem d_rmic_5 : decode jdk_33_method_40_code 5 = .ok (.iconst (-1), 1) := by decide +kernel
theorem d_rmic_6 : decode jdk_33_method_40_code 6 = .ok (.goto 13, 3) := by decide +kernel
theorem d_rmic_9 : decode jdk_33_method_40_code 9 = .ok (.iload_n 0, 1) := by decide +kernel
theorem d_rmic_10 : decode jdk_33_method_40_code 10 = .ok (.iload_n 1, 1) := by decide +kernel
theorem d_rmic_11 : decode jdk_33_method_40_code 11 = .ok (.if_icmp .ne 7, 3) := by decide +kernel
theorem d_rmic_14 : decode jdk_33_method_40_code 14 = .ok (.iconst 0, 1) := by decide +kernel
theorem d_rmic_15 : decode jdk_33_method_40_code 15 = .ok (.goto 4, 3) := by decide +kernel
theorem d_rmic_18 : decode jdk_33_method_40_code 18 = .ok (.iconst 1, 1) := by decide +kernel
theorem d_rmic_19 : decode jdk_33_method_40_code 19 = .ok (.ireturn, 1) := by decide +kernel
theorem pn_rmic : plainName "java/lang/Integer" = true := by first | (simp [plainName, overriddenIn]; done) | decide +kernel
theorem ef_rmic (m : MethodId) (p1 : Int32) (p2 : Int32) : entryFrame m #[(.int p1), (.int p2)] 2 = mkF m 0 #[.val (.int p1), .val (.int p2)] [] := by first | (simp [entryFrame, mkF, argsToLocals, Value.category]; done) | rfl
def Q_rmic (Z : State) (p1 : Int32) (p2 : Int32) (h0 : Heap) (n0 : Nat) (v : Option Value) (h : Heap) (L : List Loc) : Prop := v = some (.int (own_icmp p1 p2)) ∧ Fr n0 L ∧ h = h0
set_option maxRecDepth 65536 in
set_option maxHeartbeats 40000000 in
theorem rmic (l : Launch) (Z : State) (a0 : Array Value) (hw : ∀ d ∈ tables_1, d.before a0 Z = true) (ws : List Jvm.Cond) (p1 : Int32) (p2 : Int32) (h0 : Heap) (n0 : Nat) (Z0 : n0 ≤ h0.size)  :
    MetFree l (⟨"java/lang/Integer", "compare", "(II)I"⟩ : MethodName) (head1 (Jvm.Cond.code (⟨"java/lang/Integer", "compare", "(II)I"⟩ : MethodName) jdk_33_method_40_code 2 (some .int) :: ws) ({ frames := 0, cells := 0, slots := 0, locals := 0 } : Room)) (fun a U => a = #[(.int p1), (.int p2)] ∧ Z.Warmed39 U.vm ∧ U.heap = h0) (fun _ _ _ _ _ => True) (fun _ U o U' => ∃ v L, o = .returned v ∧ Q_rmic Z p1 p2 h0 n0 v U'.heap L ∧ FrameEnd U o U' L ({ frames := 0, cells := 0, slots := 0, locals := 0 } : Room).cells ({ frames := 0, cells := 0, slots := 0, locals := 0 } : Room).slots) := by
  refine MetFree.of_bodySF (plainFor_of_name pn_rmic) hisR ?_
  intro p e s m args_ below meth c s₁ Bd hml0 hP hK
  obtain ⟨hargs, hZ, hh⟩ := hP
  have hx := Bd.exec
  have hby := Bd.bytes
  have hml : c.maxLocals = 2 := hml0
  have hown : s.vm.findClass "java/lang/Integer" = some m.cls := findClass_of_methodNamed Bd.named
  have hnm := (name_of_methodNamed Bd.named Bd.method).1
  have X0 : Stand p l e ({ frames := 0, cells := 0, slots := 0, locals := 0 } : Room) s m args_ below meth c s₁ [] 0 0 := Stand.of_body Bd
  have e0 : s₁.heap = h0 := by rw [← hh, Bd.state]; rfl
  have N0 := Fr.nil n0
  have hv : ∀ (i : Nat) {d : Jvm.Cond}, tables_1[i]? = some d → d.before a0 Z = true := fun i d q => hw d (List.mem_of_getElem? q)
  have k0 : Go p e below m (s₁.setTop (entryFrame m args_ 2)) s₁ 0 #[.val (.int p1), .val (.int p2)] [] := by rw [hargs]; exact fun t kt => castTop (ef_rmic m p1 p2) kt
  obtain ⟨W, hWW⟩ : ∃ W, W = s₁.setTop (entryFrame m args_ 2) := ⟨_, rfl⟩
  rw [← hWW] at k0 ⊢
  show Done p e below s W (Q_rmic Z p1 p2 h0 n0) ({ frames := 0, cells := 0, slots := 0, locals := 0 } : Room).cells ({ frames := 0, cells := 0, slots := 0, locals := 0 } : Room).slots
  have k20 : Go p e below m W s₁ 2 #[.val (.int p1), .val (.int p2)] [(.int p2), (.int p1)] := (k0.iloadN X0 hx (hb hby d_rmic_0) rfl).iloadN X0 hx (hb hby d_rmic_1) rfl
  by_cases hc2_21 : p1 < p2
  ·
    have k22 : Go p e below m W s₁ 19 #[.val (.int p1), .val (.int p2)] [(.int (-1 : Int32))] := ((k20.icmpNo X0 hx (hb hby d_rmic_2) (XT.ii_ge_f hc2_21)).iconst X0 hx (hb hby d_rmic_5) (v := (-1 : Int32)) rfl).goto X0 hx (hb hby d_rmic_6) (by decide) (by decide)
    have k23 : Go p e below m W s₁ 19 #[.val (.int p1), .val (.int p2)] [(.int (own_icmp p1 p2))] := k22.cast (y := (own_icmp p1 p2)) (by unfold own_icmp; rw [if_pos hc2_21])
    exact k23.ireturnI X0 hx Bd.returns (hb hby d_rmic_19) (BodyLoose.notSynchronized Bd) (by rw [e0]; exact ⟨rfl, N0, rfl⟩) (by decide) (by decide)
  ·
    have k24 : Go p e below m W s₁ 11 #[.val (.int p1), .val (.int p2)] [(.int p2), (.int p1)] := ((k20.icmpYes X0 hx (hb hby d_rmic_2) (XT.ii_ge_t hc2_21) (by decide) (by decide)).iloadN X0 hx (hb hby d_rmic_9) rfl).iloadN X0 hx (hb hby d_rmic_10) rfl
    by_cases hc11_25 : p1 = p2
    ·
      have k26 : Go p e below m W s₁ 19 #[.val (.int p1), .val (.int p2)] [(.int (0 : Int32))] := ((k24.icmpNo X0 hx (hb hby d_rmic_11) (XT.ii_ne_f hc11_25)).iconst X0 hx (hb hby d_rmic_14) (v := (0 : Int32)) rfl).goto X0 hx (hb hby d_rmic_15) (by decide) (by decide)
      have k27 : Go p e below m W s₁ 19 #[.val (.int p1), .val (.int p2)] [(.int (own_icmp p1 p2))] := k26.cast (y := (own_icmp p1 p2)) (by unfold own_icmp; rw [if_neg hc2_21, if_pos hc11_25])
      exact k27.ireturnI X0 hx Bd.returns (hb hby d_rmic_19) (BodyLoose.notSynchronized Bd) (by rw [e0]; exact ⟨rfl, N0, rfl⟩) (by decide) (by decide)
    ·
      have k28 : Go p e below m W s₁ 19 #[.val (.int p1), .val (.int p2)] [(.int (1 : Int32))] := (k24.icmpYes X0 hx (hb hby d_rmic_11) (XT.ii_ne_t hc11_25) (by decide) (by decide)).iconst X0 hx (hb hby d_rmic_18) (v := (1 : Int32)) rfl
      have k29 : Go p e below m W s₁ 19 #[.val (.int p1), .val (.int p2)] [(.int (own_icmp p1 p2))] := k28.cast (y := (own_icmp p1 p2)) (by unfold own_icmp; rw [if_neg hc2_21, if_neg hc11_25])
      exact k29.ireturnI X0 hx Bd.returns (hb hby d_rmic_19) (BodyLoose.notSynchronized Bd) (by rw [e0]; exact ⟨rfl, N0, rfl⟩) (by decide) (by decide)

theorem d_rmsg_0 : decode method_7_code 0 = .ok (.iload_n 0, 1) := by decide +kernel
theorem d_rmsg_1 : decode method_7_code 1 = .ok (.ifCond .ge 7, 3) := by decide +kernel
theorem d_rmsg_4 : decode method_7_code 4 = .ok (.iconst (-1), 1) := by decide +kernel
theorem d_rmsg_5 : decode method_7_code 5 = .ok (.goto 12, 3) := by decide +kernel
theorem d_rmsg_8 : decode method_7_code 8 = .ok (.iload_n 0, 1) := by decide +kernel
theorem d_rmsg_9 : decode method_7_code 9 = .ok (.ifCond .le 7, 3) := by decide +kernel
theorem d_rmsg_12 : decode method_7_code 12 = .ok (.iconst 1, 1) := by decide +kernel
theorem d_rmsg_13 : decode method_7_code 13 = .ok (.goto 4, 3) := by decide +kernel
theorem d_rmsg_16 : decode method_7_code 16 = .ok (.iconst 0, 1) := by decide +kernel
theorem d_rmsg_17 : decode method_7_code 17 = .ok (.ireturn, 1) := by decide +kernel
theorem ef_rmsg (m : MethodId) (p1 : Int32) : entryFrame m #[(.int p1)] 1 = mkF m 0 #[.val (.int p1)] [] := by first | (simp [entryFrame, mkF, argsToLocals, Value.category]; done) | rfl
def Q_rmsg (Z : State) (p1 : Int32) (h0 : Heap) (n0 : Nat) (v : Option Value) (h : Heap) (L : List Loc) : Prop := v = some (.int (own_sgn p1)) ∧ Fr n0 L ∧ h = h0
set_option maxRecDepth 65536 in
set_option maxHeartbeats 40000000 in
theorem rmsg (l : Launch) (Z : State) (a0 : Array Value) (hw : ∀ d ∈ tables_1, d.before a0 Z = true) (ws : List Jvm.Cond) (p1 : Int32) (h0 : Heap) (n0 : Nat) (Z0 : n0 ≤ h0.size)  :
    MetFree l (⟨"com/example/promovent/promovent/library/CodePointsComparePinLaw", "sign", "(I)I"⟩ : MethodName) (head1 (Jvm.Cond.code (⟨"com/example/promovent/promovent/library/CodePointsComparePinLaw", "sign", "(I)I"⟩ : MethodName) method_7_code 1 (some .int) :: ws) ({ frames := 0, cells := 0, slots := 0, locals := 0 } : Room)) (fun a U => a = #[(.int p1)] ∧ Z.Warmed39 U.vm ∧ U.heap = h0) (fun _ _ _ _ _ => True) (fun _ U o U' => ∃ v L, o = .returned v ∧ Q_rmsg Z p1 h0 n0 v U'.heap L ∧ FrameEnd U o U' L ({ frames := 0, cells := 0, slots := 0, locals := 0 } : Room).cells ({ frames := 0, cells := 0, slots := 0, locals := 0 } : Room).slots) := by
  refine MetFree.of_bodySF (plainFor_of_name pn_rmraw) hisR ?_
  intro p e s m args_ below meth c s₁ Bd hml0 hP hK
  obtain ⟨hargs, hZ, hh⟩ := hP
  have hx := Bd.exec
  have hby := Bd.bytes
  have hml : c.maxLocals = 1 := hml0
  have hown : s.vm.findClass "com/example/promovent/promovent/library/CodePointsComparePinLaw" = some m.cls := findClass_of_methodNamed Bd.named
  have hnm := (name_of_methodNamed Bd.named Bd.method).1
  have X0 : Stand p l e ({ frames := 0, cells := 0, slots := 0, locals := 0 } : Room) s m args_ below meth c s₁ [] 0 0 := Stand.of_body Bd
  have e0 : s₁.heap = h0 := by rw [← hh, Bd.state]; rfl
  have N0 := Fr.nil n0
  have hv : ∀ (i : Nat) {d : Jvm.Cond}, tables_1[i]? = some d → d.before a0 Z = true := fun i d q => hw d (List.mem_of_getElem? q)
  have k0 : Go p e below m (s₁.setTop (entryFrame m args_ 1)) s₁ 0 #[.val (.int p1)] [] := by rw [hargs]; exact fun t kt => castTop (ef_rmsg m p1) kt
  obtain ⟨W, hWW⟩ : ∃ W, W = s₁.setTop (entryFrame m args_ 1) := ⟨_, rfl⟩
  rw [← hWW] at k0 ⊢
  show Done p e below s W (Q_rmsg Z p1 h0 n0) ({ frames := 0, cells := 0, slots := 0, locals := 0 } : Room).cells ({ frames := 0, cells := 0, slots := 0, locals := 0 } : Room).slots
  have k20 : Go p e below m W s₁ 1 #[.val (.int p1)] [(.int p1)] := k0.iloadN X0 hx (hb hby d_rmsg_0) rfl
  by_cases hc1_21 : p1 < (0 : Int32)
  ·
    have k22 : Go p e below m W s₁ 17 #[.val (.int p1)] [(.int (-1 : Int32))] := ((k20.ifNo X0 hx (hb hby d_rmsg_1) (XT.i0_ge_f hc1_21)).iconst X0 hx (hb hby d_rmsg_4) (v := (-1 : Int32)) rfl).goto X0 hx (hb hby d_rmsg_5) (by decide) (by decide)
    have k23 : Go p e below m W s₁ 17 #[.val (.int p1)] [(.int (own_sgn p1))] := k22.cast (y := (own_sgn p1)) (by unfold own_sgn; rw [if_pos hc1_21])
    exact k23.ireturnI X0 hx Bd.returns (hb hby d_rmsg_17) (BodyLoose.notSynchronized Bd) (by rw [e0]; exact ⟨rfl, N0, rfl⟩) (by decide) (by decide)
  ·
    have k24 : Go p e below m W s₁ 9 #[.val (.int p1)] [(.int p1)] := (k20.ifYes X0 hx (hb hby d_rmsg_1) (XT.i0_ge_t hc1_21) (by decide) (by decide)).iloadN X0 hx (hb hby d_rmsg_8) rfl
    by_cases hc9_25 : (0 : Int32) < p1
    ·
      have k26 : Go p e below m W s₁ 17 #[.val (.int p1)] [(.int (1 : Int32))] := ((k24.ifNo X0 hx (hb hby d_rmsg_9) (XT.i0_le_f hc9_25)).iconst X0 hx (hb hby d_rmsg_12) (v := (1 : Int32)) rfl).goto X0 hx (hb hby d_rmsg_13) (by decide) (by decide)
      have k27 : Go p e below m W s₁ 17 #[.val (.int p1)] [(.int (own_sgn p1))] := k26.cast (y := (own_sgn p1)) (by unfold own_sgn; rw [if_neg hc1_21, if_pos hc9_25])
      exact k27.ireturnI X0 hx Bd.returns (hb hby d_rmsg_17) (BodyLoose.notSynchronized Bd) (by rw [e0]; exact ⟨rfl, N0, rfl⟩) (by decide) (by decide)
    ·
      have k28 : Go p e below m W s₁ 17 #[.val (.int p1)] [(.int (0 : Int32))] := (k24.ifYes X0 hx (hb hby d_rmsg_9) (XT.i0_le_t hc9_25) (by decide) (by decide)).iconst X0 hx (hb hby d_rmsg_16) (v := (0 : Int32)) rfl
      have k29 : Go p e below m W s₁ 17 #[.val (.int p1)] [(.int (own_sgn p1))] := k28.cast (y := (own_sgn p1)) (by unfold own_sgn; rw [if_neg hc1_21, if_neg hc9_25])
      exact k29.ireturnI X0 hx Bd.returns (hb hby d_rmsg_17) (BodyLoose.notSynchronized Bd) (by rw [e0]; exact ⟨rfl, N0, rfl⟩) (by decide) (by decide)

theorem d_rmss_0 : decode jdk_89_method_16_code 0 = .ok (.iload_n 0, 1) := by decide +kernel
theorem d_rmss_1 : decode jdk_89_method_16_code 1 = .ok (.ldc 75, 2) := by decide +kernel
theorem d_rmss_3 : decode jdk_89_method_16_code 3 = .ok (.if_icmp .lt 13, 3) := by decide +kernel
theorem d_rmss_6 : decode jdk_89_method_16_code 6 = .ok (.iload_n 0, 1) := by decide +kernel
theorem d_rmss_7 : decode jdk_89_method_16_code 7 = .ok (.ldc 77, 2) := by decide +kernel
theorem d_rmss_9 : decode jdk_89_method_16_code 9 = .ok (.if_icmp .ge 7, 3) := by decide +kernel
theorem d_rmss_12 : decode jdk_89_method_16_code 12 = .ok (.iconst 1, 1) := by decide +kernel
theorem d_rmss_13 : decode jdk_89_method_16_code 13 = .ok (.goto 4, 3) := by decide +kernel
theorem d_rmss_16 : decode jdk_89_method_16_code 16 = .ok (.iconst 0, 1) := by decide +kernel
theorem d_rmss_17 : decode jdk_89_method_16_code 17 = .ok (.ireturn, 1) := by decide +kernel
theorem pn_rmss : plainName "java/lang/Character" = true := by first | (simp [plainName, overriddenIn]; done) | decide +kernel
theorem ef_rmss (m : MethodId) (p1 : Int32) : entryFrame m #[(.int p1)] 1 = mkF m 0 #[.val (.int p1)] [] := by first | (simp [entryFrame, mkF, argsToLocals, Value.category]; done) | rfl
def Q_rmss (Z : State) (p1 : Int32) (h0 : Heap) (n0 : Nat) (v : Option Value) (h : Heap) (L : List Loc) : Prop := ∃ (ro : Int32), v = some (.int ro) ∧ Fr n0 L ∧ h = h0 ∧ (((p1 < (55296 : Int32)) ∧ ro = (0 : Int32)) ∨ ((¬ (p1 < (55296 : Int32))) ∧ (p1 < (57344 : Int32)) ∧ ro = (1 : Int32)) ∨ ((¬ (p1 < (55296 : Int32))) ∧ (¬ (p1 < (57344 : Int32))) ∧ ro = (0 : Int32)))
set_option maxRecDepth 65536 in
set_option maxHeartbeats 40000000 in
theorem rmss (l : Launch) (Z : State) (a0 : Array Value) (hw : ∀ d ∈ tables_1, d.before a0 Z = true) (ws : List Jvm.Cond) (p1 : Int32) (h0 : Heap) (n0 : Nat) (Z0 : n0 ≤ h0.size)  :
    MetFree l (⟨"java/lang/Character", "isSurrogate", "(C)Z"⟩ : MethodName) (head1 (Jvm.Cond.code (⟨"java/lang/Character", "isSurrogate", "(C)Z"⟩ : MethodName) jdk_89_method_16_code 1 (some .boolean) :: ws) ({ frames := 0, cells := 0, slots := 0, locals := 0 } : Room)) (fun a U => a = #[(.int p1)] ∧ Z.Warmed39 U.vm ∧ U.heap = h0) (fun _ _ _ _ _ => True) (fun _ U o U' => ∃ v L, o = .returned v ∧ Q_rmss Z p1 h0 n0 v U'.heap L ∧ FrameEnd U o U' L ({ frames := 0, cells := 0, slots := 0, locals := 0 } : Room).cells ({ frames := 0, cells := 0, slots := 0, locals := 0 } : Room).slots) := by
  refine MetFree.of_bodySF (plainFor_of_name pn_rmss) hisR ?_
  intro p e s m args_ below meth c s₁ Bd hml0 hP hK
  obtain ⟨hargs, hZ, hh⟩ := hP
  have hx := Bd.exec
  have hby := Bd.bytes
  have hml : c.maxLocals = 1 := hml0
  have hown : s.vm.findClass "java/lang/Character" = some m.cls := findClass_of_methodNamed Bd.named
  have hnm := (name_of_methodNamed Bd.named Bd.method).1
  have X0 : Stand p l e ({ frames := 0, cells := 0, slots := 0, locals := 0 } : Room) s m args_ below meth c s₁ [] 0 0 := Stand.of_body Bd
  have e0 : s₁.heap = h0 := by rw [← hh, Bd.state]; rfl
  have N0 := Fr.nil n0
  have hv : ∀ (i : Nat) {d : Jvm.Cond}, tables_1[i]? = some d → d.before a0 Z = true := fun i d q => hw d (List.mem_of_getElem? q)
  have k0 : Go p e below m (s₁.setTop (entryFrame m args_ 1)) s₁ 0 #[.val (.int p1)] [] := by rw [hargs]; exact fun t kt => castTop (ef_rmss m p1) kt
  obtain ⟨W, hWW⟩ : ∃ W, W = s₁.setTop (entryFrame m args_ 1) := ⟨_, rfl⟩
  rw [← hWW] at k0 ⊢
  show Done p e below s W (Q_rmss Z p1 h0 n0) ({ frames := 0, cells := 0, slots := 0, locals := 0 } : Room).cells ({ frames := 0, cells := 0, slots := 0, locals := 0 } : Room).slots
  have k20 : Go p e below m W s₁ 3 #[.val (.int p1)] [(.int (55296 : Int32)), (.int p1)] := (k0.iloadN X0 hx (hb hby d_rmss_0) rfl).ldcI X0 hx hZ hown (hv 107 rfl) (hb hby d_rmss_1)
  by_cases hc3_21 : p1 < (55296 : Int32)
  ·
    have k22 : Go p e below m W s₁ 17 #[.val (.int p1)] [(.int (0 : Int32))] := (k20.icmpYes X0 hx (hb hby d_rmss_3) (XT.ii_lt_t hc3_21) (by decide) (by decide)).iconst X0 hx (hb hby d_rmss_16) (v := (0 : Int32)) rfl
    exact k22.ireturnN X0 hx (t := .boolean) Bd.returns (by simp) rfl (hb hby d_rmss_17) (BodyLoose.notSynchronized Bd) (by rw [e0]; exact ⟨(0 : Int32), rfl, N0, rfl, (Or.inl ⟨hc3_21, rfl⟩)⟩) (by decide) (by decide)
  ·
    have k23 : Go p e below m W s₁ 9 #[.val (.int p1)] [(.int (57344 : Int32)), (.int p1)] := ((k20.icmpNo X0 hx (hb hby d_rmss_3) (XT.ii_lt_f hc3_21)).iloadN X0 hx (hb hby d_rmss_6) rfl).ldcI X0 hx hZ hown (hv 138 rfl) (hb hby d_rmss_7)
    by_cases hc9_24 : p1 < (57344 : Int32)
    ·
      have k25 : Go p e below m W s₁ 17 #[.val (.int p1)] [(.int (1 : Int32))] := ((k23.icmpNo X0 hx (hb hby d_rmss_9) (XT.ii_ge_f hc9_24)).iconst X0 hx (hb hby d_rmss_12) (v := (1 : Int32)) rfl).goto X0 hx (hb hby d_rmss_13) (by decide) (by decide)
      exact k25.ireturnN X0 hx (t := .boolean) Bd.returns (by simp) rfl (hb hby d_rmss_17) (BodyLoose.notSynchronized Bd) (by rw [e0]; exact ⟨(1 : Int32), rfl, N0, rfl, (Or.inr (Or.inl ⟨hc3_21, hc9_24, rfl⟩))⟩) (by decide) (by decide)
    ·
      have k26 : Go p e below m W s₁ 17 #[.val (.int p1)] [(.int (0 : Int32))] := (k23.icmpYes X0 hx (hb hby d_rmss_9) (XT.ii_ge_t hc9_24) (by decide) (by decide)).iconst X0 hx (hb hby d_rmss_16) (v := (0 : Int32)) rfl
      exact k26.ireturnN X0 hx (t := .boolean) Bd.returns (by simp) rfl (hb hby d_rmss_17) (BodyLoose.notSynchronized Bd) (by rw [e0]; exact ⟨(0 : Int32), rfl, N0, rfl, (Or.inr (Or.inr ⟨hc3_21, hc9_24, rfl⟩))⟩) (by decide) (by decide)

theorem d_rmrk_0 : decode prog_27_method_3_code 0 = .ok (.iload_n 0, 1) := by decide +kernel
theorem d_rmrk_1 : decode prog_27_method_3_code 1 = .ok (.invokestatic 34, 3) := by decide +kernel
theorem d_rmrk_4 : decode prog_27_method_3_code 4 = .ok (.ifCond .eq 10, 3) := by decide +kernel
theorem d_rmrk_7 : decode prog_27_method_3_code 7 = .ok (.iload_n 0, 1) := by decide +kernel
theorem d_rmrk_8 : decode prog_27_method_3_code 8 = .ok (.ldc 40, 2) := by decide +kernel
theorem d_rmrk_10 : decode prog_27_method_3_code 10 = .ok (.iadd, 1) := by decide +kernel
theorem d_rmrk_11 : decode prog_27_method_3_code 11 = .ok (.goto 4, 3) := by decide +kernel
theorem d_rmrk_14 : decode prog_27_method_3_code 14 = .ok (.iload_n 0, 1) := by decide +kernel
theorem d_rmrk_15 : decode prog_27_method_3_code 15 = .ok (.ireturn, 1) := by decide +kernel
theorem pn_rmrk : plainName "com/example/promovent/promovent/library/CodePoints" = true := by first | (simp [plainName, overriddenIn]; done) | decide +kernel
theorem pd_rmrk_0 : parseMethodDescriptor "(C)Z" = some ⟨[.char], (some .boolean)⟩ := by decide +kernel
theorem ef_rmrk (m : MethodId) (p1 : Int32) : entryFrame m #[(.int p1)] 1 = mkF m 0 #[.val (.int p1)] [] := by first | (simp [entryFrame, mkF, argsToLocals, Value.category]; done) | rfl
def Q_rmrk (Z : State) (p1 : Int32) (h0 : Heap) (n0 : Nat) (v : Option Value) (h : Heap) (L : List Loc) : Prop := v = some (.int (own_rank p1)) ∧ Fr n0 L ∧ h = h0
set_option maxRecDepth 65536 in
set_option maxHeartbeats 40000000 in
theorem rmrk (l : Launch) (Z : State) (a0 : Array Value) (hw : ∀ d ∈ tables_1, d.before a0 Z = true) (ws : List Jvm.Cond) (p1 : Int32) (h0 : Heap) (n0 : Nat) (Z0 : n0 ≤ h0.size)  :
    MetFree l (⟨"com/example/promovent/promovent/library/CodePoints", "rank", "(C)I"⟩ : MethodName) (head1 (Jvm.Cond.code (⟨"com/example/promovent/promovent/library/CodePoints", "rank", "(C)I"⟩ : MethodName) prog_27_method_3_code 1 (some .int) :: ws) ({ frames := 1, cells := 0, slots := 0, locals := 12 } : Room)) (fun a U => a = #[(.int p1)] ∧ Z.Warmed39 U.vm ∧ U.heap = h0) (fun _ _ _ _ _ => True) (fun _ U o U' => ∃ v L, o = .returned v ∧ Q_rmrk Z p1 h0 n0 v U'.heap L ∧ FrameEnd U o U' L ({ frames := 1, cells := 0, slots := 0, locals := 12 } : Room).cells ({ frames := 1, cells := 0, slots := 0, locals := 12 } : Room).slots) := by
  refine MetFree.of_bodySF (plainFor_of_name pn_rmrk) hisR ?_
  intro p e s m args_ below meth c s₁ Bd hml0 hP hK
  obtain ⟨hargs, hZ, hh⟩ := hP
  have hx := Bd.exec
  have hby := Bd.bytes
  have hml : c.maxLocals = 1 := hml0
  have hown : s.vm.findClass "com/example/promovent/promovent/library/CodePoints" = some m.cls := findClass_of_methodNamed Bd.named
  have hnm := (name_of_methodNamed Bd.named Bd.method).1
  have X0 : Stand p l e ({ frames := 1, cells := 0, slots := 0, locals := 12 } : Room) s m args_ below meth c s₁ [] 0 0 := Stand.of_body Bd
  have e0 : s₁.heap = h0 := by rw [← hh, Bd.state]; rfl
  have N0 := Fr.nil n0
  have hv : ∀ (i : Nat) {d : Jvm.Cond}, tables_1[i]? = some d → d.before a0 Z = true := fun i d q => hw d (List.mem_of_getElem? q)
  have k0 : Go p e below m (s₁.setTop (entryFrame m args_ 1)) s₁ 0 #[.val (.int p1)] [] := by rw [hargs]; exact fun t kt => castTop (ef_rmrk m p1) kt
  obtain ⟨W, hWW⟩ : ∃ W, W = s₁.setTop (entryFrame m args_ 1) := ⟨_, rfl⟩
  rw [← hWW] at k0 ⊢
  show Done p e below s W (Q_rmrk Z p1 h0 n0) ({ frames := 1, cells := 0, slots := 0, locals := 12 } : Room).cells ({ frames := 1, cells := 0, slots := 0, locals := 12 } : Room).slots
  have k20 : Go p e below m W s₁ 1 #[.val (.int p1)] [(.int p1)] := k0.iloadN X0 hx (hb hby d_rmrk_0) rfl
  obtain ⟨T21, v21, L21, X21, Q21, k21⟩ := k20.stat (y := (⟨"java/lang/Character", "isSurrogate", "(C)Z"⟩ : MethodName)) (Wd := 0) (cells' := 0) (slots' := 0) (argsL := [(.int p1)]) (rest := []) X0 hx hZ hown (by rw [hml]; rfl) (hv 103 rfl) (hv 104 rfl) (hv 106 rfl) (hv 105 rfl) (hb hby d_rmrk_1) (by decide) (rmss l Z a0 hw [] p1 h0 n0 Z0) e0 rfl rfl pd_rmrk_0 rfl (Nat.le_of_eq rfl) (by decide) (by decide) rfl rfl (by decide) (by decide)
  obtain ⟨ro_21, rfl, Nq21, e21q, p21_0⟩ := Q21
  have N21 := Fr.app N0 Nq21
  have e21 : T21.heap = h0 := e21q
  have k21 : Go p e below m W T21 4 #[.val (.int p1)] [(.int ro_21)] := k21
  rcases p21_0 with ⟨hs22, q23⟩ | ⟨hs24, hs25, q26⟩ | ⟨hs27, hs28, q29⟩
  ·
    subst ro_21
    have k30 : Go p e below m W T21 15 #[.val (.int p1)] [(.int p1)] := (k21.ifYes X21 hx (hb hby d_rmrk_4) (XT.i0_eq_t (by decide)) (by decide) (by decide)).iloadN X21 hx (hb hby d_rmrk_14) rfl
    have k31 : Go p e below m W T21 15 #[.val (.int p1)] [(.int (own_rank p1))] := k30.cast (y := (own_rank p1)) (by unfold own_rank; rw [if_pos hs22])
    exact k31.ireturnI X21 hx Bd.returns (hb hby d_rmrk_15) (BodyLoose.notSynchronized Bd) (by rw [e21]; exact ⟨rfl, N21, rfl⟩) (by decide) (by decide)
  ·
    subst ro_21
    have k32 : Go p e below m W T21 15 #[.val (.int p1)] [(.int (p1 + (65536 : Int32)))] := ((((k21.ifNo X21 hx (hb hby d_rmrk_4) (XT.i0_eq_f (by decide))).iloadN X21 hx (hb hby d_rmrk_7) rfl).ldcI X21 hx hZ hown (hv 139 rfl) (hb hby d_rmrk_8)).iadd X21 hx (hb hby d_rmrk_10)).goto X21 hx (hb hby d_rmrk_11) (by decide) (by decide)
    have k33 : Go p e below m W T21 15 #[.val (.int p1)] [(.int (own_rank p1))] := k32.cast (y := (own_rank p1)) (by unfold own_rank; rw [if_neg hs24, if_pos hs25])
    exact k33.ireturnI X21 hx Bd.returns (hb hby d_rmrk_15) (BodyLoose.notSynchronized Bd) (by rw [e21]; exact ⟨rfl, N21, rfl⟩) (by decide) (by decide)
  ·
    subst ro_21
    have k34 : Go p e below m W T21 15 #[.val (.int p1)] [(.int p1)] := (k21.ifYes X21 hx (hb hby d_rmrk_4) (XT.i0_eq_t (by decide)) (by decide) (by decide)).iloadN X21 hx (hb hby d_rmrk_14) rfl
    have k35 : Go p e below m W T21 15 #[.val (.int p1)] [(.int (own_rank p1))] := k34.cast (y := (own_rank p1)) (by unfold own_rank; rw [if_neg hs27, if_neg hs28])
    exact k35.ireturnI X21 hx Bd.returns (hb hby d_rmrk_15) (BodyLoose.notSynchronized Bd) (by rw [e21]; exact ⟨rfl, N21, rfl⟩) (by decide) (by decide)

theorem d_rmpi_0 : decode jdk_41_method_11_code 0 = .ok (.iload_n 0, 1) := by decide +kernel
theorem d_rmpi_1 : decode jdk_41_method_11_code 1 = .ok (.ifCond .lt 8, 3) := by decide +kernel
theorem d_rmpi_4 : decode jdk_41_method_11_code 4 = .ok (.iload_n 0, 1) := by decide +kernel
theorem d_rmpi_5 : decode jdk_41_method_11_code 5 = .ok (.iload_n 1, 1) := by decide +kernel
theorem d_rmpi_6 : decode jdk_41_method_11_code 6 = .ok (.if_icmp .lt 10, 3) := by decide +kernel
theorem d_rmpi_16 : decode jdk_41_method_11_code 16 = .ok (.iload_n 0, 1) := by decide +kernel
theorem d_rmpi_17 : decode jdk_41_method_11_code 17 = .ok (.ireturn, 1) := by decide +kernel
theorem pn_rmpi : plainName "jdk/internal/util/Preconditions" = true := by first | (simp [plainName, overriddenIn]; done) | decide +kernel
theorem ef_rmpi (m : MethodId) (p1 : Int32) (p2 : Int32) (fm : Value) (hv_fm : fm.isRef = true) : entryFrame m #[(.int p1), (.int p2), fm] 3 = mkF m 0 #[.val (.int p1), .val (.int p2), .val fm] [] := by rcases XT.refc hv_fm with rfl | ⟨_, rfl⟩ <;> first | (simp [entryFrame, mkF, argsToLocals, Value.category]; done) | rfl
def Q_rmpi (Z : State) (p1 : Int32) (p2 : Int32) (fm : Value) (h0 : Heap) (n0 : Nat) (v : Option Value) (h : Heap) (L : List Loc) : Prop := v = some (.int p1) ∧ Fr n0 L ∧ h = h0
set_option maxRecDepth 65536 in
set_option maxHeartbeats 40000000 in
theorem rmpi (l : Launch) (Z : State) (a0 : Array Value) (hw : ∀ d ∈ tables_1, d.before a0 Z = true) (ws : List Jvm.Cond) (p1 : Int32) (p2 : Int32) (fm : Value) (h0 : Heap) (n0 : Nat) (Z0 : n0 ≤ h0.size) (hfm : fm.isRef = true) (hj0 : ¬ (p1 < (0 : Int32))) (hlt : p1 < p2) :
    MetFree l (⟨"jdk/internal/util/Preconditions", "checkIndex", "(IILjava/util/function/BiFunction;)I"⟩ : MethodName) (head1 (Jvm.Cond.code (⟨"jdk/internal/util/Preconditions", "checkIndex", "(IILjava/util/function/BiFunction;)I"⟩ : MethodName) jdk_41_method_11_code 3 (some .int) :: ws) ({ frames := 0, cells := 0, slots := 0, locals := 0 } : Room)) (fun a U => a = #[(.int p1), (.int p2), fm] ∧ Z.Warmed39 U.vm ∧ U.heap = h0) (fun _ _ _ _ _ => True) (fun _ U o U' => ∃ v L, o = .returned v ∧ Q_rmpi Z p1 p2 fm h0 n0 v U'.heap L ∧ FrameEnd U o U' L ({ frames := 0, cells := 0, slots := 0, locals := 0 } : Room).cells ({ frames := 0, cells := 0, slots := 0, locals := 0 } : Room).slots) := by
  refine MetFree.of_bodySF (plainFor_of_name pn_rmpi) hisR ?_
  intro p e s m args_ below meth c s₁ Bd hml0 hP hK
  obtain ⟨hargs, hZ, hh⟩ := hP
  have hx := Bd.exec
  have hby := Bd.bytes
  have hml : c.maxLocals = 3 := hml0
  have hown : s.vm.findClass "jdk/internal/util/Preconditions" = some m.cls := findClass_of_methodNamed Bd.named
  have hnm := (name_of_methodNamed Bd.named Bd.method).1
  have X0 : Stand p l e ({ frames := 0, cells := 0, slots := 0, locals := 0 } : Room) s m args_ below meth c s₁ [] 0 0 := Stand.of_body Bd
  have e0 : s₁.heap = h0 := by rw [← hh, Bd.state]; rfl
  have N0 := Fr.nil n0
  have hv : ∀ (i : Nat) {d : Jvm.Cond}, tables_1[i]? = some d → d.before a0 Z = true := fun i d q => hw d (List.mem_of_getElem? q)
  have k0 : Go p e below m (s₁.setTop (entryFrame m args_ 3)) s₁ 0 #[.val (.int p1), .val (.int p2), .val fm] [] := by rw [hargs]; exact fun t kt => castTop (ef_rmpi m p1 p2 fm hfm) kt
  obtain ⟨W, hWW⟩ : ∃ W, W = s₁.setTop (entryFrame m args_ 3) := ⟨_, rfl⟩
  rw [← hWW] at k0 ⊢
  show Done p e below s W (Q_rmpi Z p1 p2 fm h0 n0) ({ frames := 0, cells := 0, slots := 0, locals := 0 } : Room).cells ({ frames := 0, cells := 0, slots := 0, locals := 0 } : Room).slots
  have k20 : Go p e below m W s₁ 17 #[.val (.int p1), .val (.int p2), .val fm] [(.int p1)] := (((((k0.iloadN X0 hx (hb hby d_rmpi_0) rfl).ifNo X0 hx (hb hby d_rmpi_1) (XT.i0_lt_f hj0)).iloadN X0 hx (hb hby d_rmpi_4) rfl).iloadN X0 hx (hb hby d_rmpi_5) rfl).icmpYes X0 hx (hb hby d_rmpi_6) (XT.ii_lt_t hlt) (by decide) (by decide)).iloadN X0 hx (hb hby d_rmpi_16) rfl
  exact k20.ireturnI X0 hx Bd.returns (hb hby d_rmpi_17) (BodyLoose.notSynchronized Bd) (by rw [e0]; exact ⟨rfl, N0, rfl⟩) (by decide) (by decide)

theorem d_rmci_0 : decode jdk_42_method_155_code 0 = .ok (.iload_n 0, 1) := by decide +kernel
theorem d_rmci_1 : decode jdk_42_method_155_code 1 = .ok (.iload_n 1, 1) := by decide +kernel
theorem d_rmci_2 : decode jdk_42_method_155_code 2 = .ok (.getstatic 1053, 3) := by decide +kernel
theorem d_rmci_5 : decode jdk_42_method_155_code 5 = .ok (.invokestatic 1059, 3) := by decide +kernel
theorem d_rmci_8 : decode jdk_42_method_155_code 8 = .ok (.pop, 1) := by decide +kernel
theorem d_rmci_9 : decode jdk_42_method_155_code 9 = .ok (.return_, 1) := by decide +kernel
theorem pn_rmci : plainName "java/lang/String" = true := by first | (simp [plainName, overriddenIn]; done) | decide +kernel
theorem pd_rmci_0 : parseMethodDescriptor "(IILjava/util/function/BiFunction;)I" = some ⟨[.int, .int, (.object "java/util/function/BiFunction")], (some .int)⟩ := by decide +kernel
theorem ef_rmci (m : MethodId) (p1 : Int32) (p2 : Int32) : entryFrame m #[(.int p1), (.int p2)] 2 = mkF m 0 #[.val (.int p1), .val (.int p2)] [] := by first | (simp [entryFrame, mkF, argsToLocals, Value.category]; done) | rfl
def Q_rmci (Z : State) (p1 : Int32) (p2 : Int32) (fm : Value) (h0 : Heap) (n0 : Nat) (v : Option Value) (h : Heap) (L : List Loc) : Prop := v = none ∧ Fr n0 L ∧ h = h0
set_option maxRecDepth 65536 in
set_option maxHeartbeats 40000000 in
theorem rmci (l : Launch) (Z : State) (a0 : Array Value) (hw : ∀ d ∈ tables_1, d.before a0 Z = true) (ws : List Jvm.Cond) (p1 : Int32) (p2 : Int32) (fm : Value) (h0 : Heap) (n0 : Nat) (Z0 : n0 ≤ h0.size) (O0 : Old Z n0 h0) (hfm : fm.isRef = true) (SIO : Sta Z Z.heap "jdk/internal/util/Preconditions" "SIOOBE_FORMATTER" "Ljava/util/function/BiFunction;" fm) (hj0 : ¬ (p1 < (0 : Int32))) (hlt : p1 < p2) :
    MetFree l (⟨"java/lang/String", "checkIndex", "(II)V"⟩ : MethodName) (head1 (Jvm.Cond.code (⟨"java/lang/String", "checkIndex", "(II)V"⟩ : MethodName) jdk_42_method_155_code 2 none :: ws) ({ frames := 1, cells := 0, slots := 0, locals := 14 } : Room)) (fun a U => a = #[(.int p1), (.int p2)] ∧ Z.Warmed39 U.vm ∧ U.heap = h0) (fun _ _ _ _ _ => True) (fun _ U o U' => ∃ v L, o = .returned v ∧ Q_rmci Z p1 p2 fm h0 n0 v U'.heap L ∧ FrameEnd U o U' L ({ frames := 1, cells := 0, slots := 0, locals := 14 } : Room).cells ({ frames := 1, cells := 0, slots := 0, locals := 14 } : Room).slots) := by
  refine MetFree.of_bodySF (plainFor_of_name pn_rmci) hisR ?_
  intro p e s m args_ below meth c s₁ Bd hml0 hP hK
  obtain ⟨hargs, hZ, hh⟩ := hP
  have hx := Bd.exec
  have hby := Bd.bytes
  have hml : c.maxLocals = 2 := hml0
  have hown : s.vm.findClass "java/lang/String" = some m.cls := findClass_of_methodNamed Bd.named
  have hnm := (name_of_methodNamed Bd.named Bd.method).1
  have X0 : Stand p l e ({ frames := 1, cells := 0, slots := 0, locals := 14 } : Room) s m args_ below meth c s₁ [] 0 0 := Stand.of_body Bd
  have e0 : s₁.heap = h0 := by rw [← hh, Bd.state]; rfl
  have N0 := Fr.nil n0
  have hv : ∀ (i : Nat) {d : Jvm.Cond}, tables_1[i]? = some d → d.before a0 Z = true := fun i d q => hw d (List.mem_of_getElem? q)
  have k0 : Go p e below m (s₁.setTop (entryFrame m args_ 2)) s₁ 0 #[.val (.int p1), .val (.int p2)] [] := by rw [hargs]; exact fun t kt => castTop (ef_rmci m p1 p2) kt
  obtain ⟨W, hWW⟩ : ∃ W, W = s₁.setTop (entryFrame m args_ 2) := ⟨_, rfl⟩
  rw [← hWW] at k0 ⊢
  show Done p e below s W (Q_rmci Z p1 p2 fm h0 n0) ({ frames := 1, cells := 0, slots := 0, locals := 14 } : Room).cells ({ frames := 1, cells := 0, slots := 0, locals := 14 } : Room).slots
  have k20 : Go p e below m W s₁ 2 #[.val (.int p1), .val (.int p2)] [(.int p2), (.int p1)] := (k0.iloadN X0 hx (hb hby d_rmci_0) rfl).iloadN X0 hx (hb hby d_rmci_1) rfl
  obtain ⟨T21, X21, e21, k21⟩ := k20.getS X0 hx hZ hown (host := "") (Or.inl (hv 95 rfl)) Via.refl e0 (SIO.ext O0.2) (hb hby d_rmci_2)
  have k21 : Go p e below m W T21 5 #[.val (.int p1), .val (.int p2)] [fm, (.int p2), (.int p1)] := k21
  obtain ⟨T22, v22, L22, X22, Q22, k22⟩ := k21.stat (y := (⟨"jdk/internal/util/Preconditions", "checkIndex", "(IILjava/util/function/BiFunction;)I"⟩ : MethodName)) (Wd := 0) (cells' := 0) (slots' := 0) (argsL := [(.int p1), (.int p2), fm]) (rest := []) X21 hx hZ hown (by rw [hml]; rfl) (hv 97 rfl) (hv 98 rfl) (hv 99 rfl) (hv 96 rfl) (hb hby d_rmci_5) (by decide) (rmpi l Z a0 hw [] p1 p2 fm h0 n0 Z0 hfm hj0 hlt) e21 rfl rfl pd_rmci_0 rfl (Nat.le_of_eq rfl) (by decide) (by decide) rfl rfl (by decide) (by decide)
  obtain ⟨rfl, Nq22, e22q⟩ := Q22
  have N22 := Fr.app N0 Nq22
  have e22 : T22.heap = h0 := e22q
  have k22 : Go p e below m W T22 8 #[.val (.int p1), .val (.int p2)] [(.int p1)] := k22
  have k23 : Go p e below m W T22 9 #[.val (.int p1), .val (.int p2)] [] := k22.pop X22 hx (hb hby d_rmci_8) rfl
  exact k23.return_ X22 hx Bd.returns (hb hby d_rmci_9) (BodyLoose.notSynchronized Bd) (by rw [e22]; exact ⟨rfl, N22, rfl⟩) (by decide) (by decide)

theorem d_rmlc_0 : decode jdk_43_method_2_code 0 = .ok (.iload_n 1, 1) := by decide +kernel
theorem d_rmlc_1 : decode jdk_43_method_2_code 1 = .ok (.aload_n 0, 1) := by decide +kernel
theorem d_rmlc_2 : decode jdk_43_method_2_code 2 = .ok (.arraylength, 1) := by decide +kernel
theorem d_rmlc_3 : decode jdk_43_method_2_code 3 = .ok (.invokestatic 9, 3) := by decide +kernel
theorem d_rmlc_6 : decode jdk_43_method_2_code 6 = .ok (.aload_n 0, 1) := by decide +kernel
theorem d_rmlc_7 : decode jdk_43_method_2_code 7 = .ok (.iload_n 1, 1) := by decide +kernel
theorem d_rmlc_8 : decode jdk_43_method_2_code 8 = .ok (.baload, 1) := by decide +kernel
theorem d_rmlc_9 : decode jdk_43_method_2_code 9 = .ok (.sipush 255, 3) := by decide +kernel
theorem d_rmlc_12 : decode jdk_43_method_2_code 12 = .ok (.iand, 1) := by decide +kernel
theorem d_rmlc_13 : decode jdk_43_method_2_code 13 = .ok (.i2c, 1) := by decide +kernel
theorem d_rmlc_14 : decode jdk_43_method_2_code 14 = .ok (.ireturn, 1) := by decide +kernel
theorem pn_rmlc : plainName "java/lang/StringLatin1" = true := by first | (simp [plainName, overriddenIn]; done) | decide +kernel
theorem pd_rmlc_0 : parseMethodDescriptor "(II)V" = some ⟨[.int, .int], none⟩ := by decide +kernel
theorem ef_rmlc (m : MethodId) (a1 : Addr) (jj : Int32) : entryFrame m #[(.ref a1), (.int jj)] 2 = mkF m 0 #[.val (.ref a1), .val (.int jj)] [] := by first | (simp [entryFrame, mkF, argsToLocals, Value.category]; done) | rfl
def Q_rmlc (Z : State) (a1 : Addr) (jj : Int32) (kb : ClassId) (zz : Int32) (vs : List Value) (nn : Nat) (ii : Nat) (y1 : Int32) (ch : Int32) (fm : Value) (h0 : Heap) (n0 : Nat) (v : Option Value) (h : Heap) (L : List Loc) : Prop := v = some (.int ch) ∧ Fr n0 L ∧ h = h0
set_option maxRecDepth 65536 in
set_option maxHeartbeats 40000000 in
theorem rmlc (l : Launch) (Z : State) (a0 : Array Value) (hw : ∀ d ∈ tables_1, d.before a0 Z = true) (ws : List Jvm.Cond) (a1 : Addr) (jj : Int32) (kb : ClassId) (zz : Int32) (vs : List Value) (nn : Nat) (ii : Nat) (y1 : Int32) (ch : Int32) (fm : Value) (h0 : Heap) (n0 : Nat) (Z0 : n0 ≤ h0.size) (O0 : Old Z n0 h0) (hfm : fm.isRef = true) (SIO : Sta Z Z.heap "jdk/internal/util/Preconditions" "SIOOBE_FORMATTER" "Ljava/util/function/BiFunction;" fm) (V1 : Arv Z h0 a1 kb .byte zz vs (.int (0 : Int32))) (hz : zz.toNatClampNeg = nn) (hj : jj.toNatClampNeg = ii) (hj0 : ¬ (jj < (0 : Int32))) (hi : ii < nn) (hg1 : vs.getD ii (.int (0 : Int32)) = .int y1) (hlt : jj < zz) (hch : (y1 &&& (255 : Int32)) = ch) (hrk : own_rk ch) :
    MetFree l (⟨"java/lang/StringLatin1", "charAt", "([BI)C"⟩ : MethodName) (head1 (Jvm.Cond.code (⟨"java/lang/StringLatin1", "charAt", "([BI)C"⟩ : MethodName) jdk_43_method_2_code 2 (some .char) :: ws) ({ frames := 2, cells := 0, slots := 0, locals := 27 } : Room)) (fun a U => a = #[(.ref a1), (.int jj)] ∧ Z.Warmed39 U.vm ∧ U.heap = h0) (fun _ _ _ _ _ => True) (fun _ U o U' => ∃ v L, o = .returned v ∧ Q_rmlc Z a1 jj kb zz vs nn ii y1 ch fm h0 n0 v U'.heap L ∧ FrameEnd U o U' L ({ frames := 2, cells := 0, slots := 0, locals := 27 } : Room).cells ({ frames := 2, cells := 0, slots := 0, locals := 27 } : Room).slots) := by
  refine MetFree.of_bodySF (plainFor_of_name pn_rmlc) hisR ?_
  intro p e s m args_ below meth c s₁ Bd hml0 hP hK
  obtain ⟨hargs, hZ, hh⟩ := hP
  have hx := Bd.exec
  have hby := Bd.bytes
  have hml : c.maxLocals = 2 := hml0
  have hown : s.vm.findClass "java/lang/StringLatin1" = some m.cls := findClass_of_methodNamed Bd.named
  have hnm := (name_of_methodNamed Bd.named Bd.method).1
  have X0 : Stand p l e ({ frames := 2, cells := 0, slots := 0, locals := 27 } : Room) s m args_ below meth c s₁ [] 0 0 := Stand.of_body Bd
  have e0 : s₁.heap = h0 := by rw [← hh, Bd.state]; rfl
  have N0 := Fr.nil n0
  have hv : ∀ (i : Nat) {d : Jvm.Cond}, tables_1[i]? = some d → d.before a0 Z = true := fun i d q => hw d (List.mem_of_getElem? q)
  have k0 : Go p e below m (s₁.setTop (entryFrame m args_ 2)) s₁ 0 #[.val (.ref a1), .val (.int jj)] [] := by rw [hargs]; exact fun t kt => castTop (ef_rmlc m a1 jj) kt
  obtain ⟨W, hWW⟩ : ∃ W, W = s₁.setTop (entryFrame m args_ 2) := ⟨_, rfl⟩
  rw [← hWW] at k0 ⊢
  show Done p e below s W (Q_rmlc Z a1 jj kb zz vs nn ii y1 ch fm h0 n0) ({ frames := 2, cells := 0, slots := 0, locals := 27 } : Room).cells ({ frames := 2, cells := 0, slots := 0, locals := 27 } : Room).slots
  have k20 : Go p e below m W s₁ 2 #[.val (.ref a1), .val (.int jj)] [(.ref a1), (.int jj)] := (k0.iloadN X0 hx (hb hby d_rmlc_0) rfl).aloadN X0 hx (hb hby d_rmlc_1) rfl rfl
  have k21 : Go p e below m W s₁ 3 #[.val (.ref a1), .val (.int jj)] [(.int zz), (.int jj)] := k20.arraylength X0 hx hZ e0 V1 (hb hby d_rmlc_2)
  obtain ⟨T22, v22, L22, X22, Q22, k22⟩ := k21.stat (y := (⟨"java/lang/String", "checkIndex", "(II)V"⟩ : MethodName)) (Wd := 0) (cells' := 0) (slots' := 0) (argsL := [(.int jj), (.int zz)]) (rest := []) X0 hx hZ hown (by rw [hml]; rfl) (hv 92 rfl) (hv 93 rfl) (hv 94 rfl) (hv 19 rfl) (hb hby d_rmlc_3) (by decide) (rmci l Z a0 hw [] jj zz fm h0 n0 Z0 O0 hfm SIO hj0 hlt) e0 rfl rfl pd_rmlc_0 rfl (Nat.le_of_eq rfl) (by decide) (by decide) rfl rfl (by decide) (by decide)
  obtain ⟨rfl, Nq22, e22q⟩ := Q22
  have N22 := Fr.app N0 Nq22
  have e22 : T22.heap = h0 := e22q
  have k22 : Go p e below m W T22 6 #[.val (.ref a1), .val (.int jj)] [] := k22
  have k23 : Go p e below m W T22 8 #[.val (.ref a1), .val (.int jj)] [(.int jj), (.ref a1)] := (k22.aloadN X22 hx (hb hby d_rmlc_6) rfl rfl).iloadN X22 hx (hb hby d_rmlc_7) rfl
  have k24 : Go p e below m W T22 14 #[.val (.ref a1), .val (.int jj)] [(.int (y1 &&& (255 : Int32)))] := ((((k23.baload (i := ii) (n := nn) X22 hx hZ e22 V1 hz hj hj0 hi hg1 (hb hby d_rmlc_8)).sipush X22 hx (hb hby d_rmlc_9) (v := (255 : Int32)) rfl).iand X22 hx (hb hby d_rmlc_12)).i2c X22 hx (hb hby d_rmlc_13)).cast (i2c_mask y1)
  have k25 : Go p e below m W T22 14 #[.val (.ref a1), .val (.int jj)] [(.int ch)] := k24.cast (y := ch) hch
  exact k25.ireturnN X22 hx (t := .char) Bd.returns (by simp) (own_narr hrk) (hb hby d_rmlc_14) (BodyLoose.notSynchronized Bd) (by rw [e22]; exact ⟨rfl, N22, rfl⟩) (by decide) (by decide)

theorem d_rmgc_0 : decode jdk_52_method_5_code 0 = .ok (.getstatic 44, 3) := by decide +kernel
theorem d_rmgc_3 : decode jdk_52_method_5_code 3 = .ok (.ifCond .ne 25, 3) := by decide +kernel
theorem d_rmgc_28 : decode jdk_52_method_5_code 28 = .ok (.iload_n 1, 1) := by decide +kernel
theorem d_rmgc_29 : decode jdk_52_method_5_code 29 = .ok (.iconst 1, 1) := by decide +kernel
theorem d_rmgc_30 : decode jdk_52_method_5_code 30 = .ok (.ishl, 1) := by decide +kernel
theorem d_rmgc_31 : decode jdk_52_method_5_code 31 = .ok (.istore_n 1, 1) := by decide +kernel
theorem d_rmgc_32 : decode jdk_52_method_5_code 32 = .ok (.aload_n 0, 1) := by decide +kernel
theorem d_rmgc_33 : decode jdk_52_method_5_code 33 = .ok (.iload_n 1, 1) := by decide +kernel
theorem d_rmgc_34 : decode jdk_52_method_5_code 34 = .ok (.iinc 1 1, 3) := by decide +kernel
theorem d_rmgc_37 : decode jdk_52_method_5_code 37 = .ok (.baload, 1) := by decide +kernel
theorem d_rmgc_38 : decode jdk_52_method_5_code 38 = .ok (.sipush 255, 3) := by decide +kernel
theorem d_rmgc_41 : decode jdk_52_method_5_code 41 = .ok (.iand, 1) := by decide +kernel
theorem d_rmgc_42 : decode jdk_52_method_5_code 42 = .ok (.getstatic 59, 3) := by decide +kernel
theorem d_rmgc_45 : decode jdk_52_method_5_code 45 = .ok (.ishl, 1) := by decide +kernel
theorem d_rmgc_46 : decode jdk_52_method_5_code 46 = .ok (.aload_n 0, 1) := by decide +kernel
theorem d_rmgc_47 : decode jdk_52_method_5_code 47 = .ok (.iload_n 1, 1) := by decide +kernel
theorem d_rmgc_48 : decode jdk_52_method_5_code 48 = .ok (.baload, 1) := by decide +kernel
theorem d_rmgc_49 : decode jdk_52_method_5_code 49 = .ok (.sipush 255, 3) := by decide +kernel
theorem d_rmgc_52 : decode jdk_52_method_5_code 52 = .ok (.iand, 1) := by decide +kernel
theorem d_rmgc_53 : decode jdk_52_method_5_code 53 = .ok (.getstatic 63, 3) := by decide +kernel
theorem d_rmgc_56 : decode jdk_52_method_5_code 56 = .ok (.ishl, 1) := by decide +kernel
theorem d_rmgc_57 : decode jdk_52_method_5_code 57 = .ok (.ior, 1) := by decide +kernel
theorem d_rmgc_58 : decode jdk_52_method_5_code 58 = .ok (.i2c, 1) := by decide +kernel
theorem d_rmgc_59 : decode jdk_52_method_5_code 59 = .ok (.ireturn, 1) := by decide +kernel
theorem pn_rmgc : plainName "java/lang/StringUTF16" = true := by first | (simp [plainName, overriddenIn]; done) | decide +kernel
theorem ef_rmgc (m : MethodId) (a1 : Addr) (jj : Int32) : entryFrame m #[(.ref a1), (.int jj)] 2 = mkF m 0 #[.val (.ref a1), .val (.int jj)] [] := by first | (simp [entryFrame, mkF, argsToLocals, Value.category]; done) | rfl
def Q_rmgc (Z : State) (a1 : Addr) (jj : Int32) (kb : ClassId) (zz : Int32) (vs : List Value) (nn : Nat) (ii : Nat) (y1 : Int32) (y2 : Int32) (ch : Int32) (h0 : Heap) (n0 : Nat) (v : Option Value) (h : Heap) (L : List Loc) : Prop := v = some (.int ch) ∧ Fr n0 L ∧ h = h0
set_option maxRecDepth 65536 in
set_option maxHeartbeats 40000000 in
theorem rmgc (l : Launch) (Z : State) (a0 : Array Value) (hw : ∀ d ∈ tables_1, d.before a0 Z = true) (ws : List Jvm.Cond) (a1 : Addr) (jj : Int32) (kb : ClassId) (zz : Int32) (vs : List Value) (nn : Nat) (ii : Nat) (y1 : Int32) (y2 : Int32) (ch : Int32) (h0 : Heap) (n0 : Nat) (Z0 : n0 ≤ h0.size) (O0 : Old Z n0 h0) (SAD : Sta Z Z.heap "java/lang/StringUTF16" "$assertionsDisabled" "Z" (.int (1 : Int32))) (SHI : Sta Z Z.heap "java/lang/StringUTF16" "HI_BYTE_SHIFT" "I" (.int (0 : Int32))) (SLO : Sta Z Z.heap "java/lang/StringUTF16" "LO_BYTE_SHIFT" "I" (.int (8 : Int32))) (V1 : Arv Z h0 a1 kb .byte zz vs (.int (0 : Int32))) (hz : zz.toNatClampNeg = nn) (hj : (jj <<< ((1 : Int32) &&& 31)).toNatClampNeg = ii) (hj0 : ¬ ((jj <<< ((1 : Int32) &&& 31)) < (0 : Int32))) (hi : ii < nn) (hg1 : vs.getD ii (.int (0 : Int32)) = .int y1) (hk : ((jj <<< ((1 : Int32) &&& 31)) + (1 : Int32)).toNatClampNeg = ii + 1) (hk0 : ¬ (((jj <<< ((1 : Int32) &&& 31)) + (1 : Int32)) < (0 : Int32))) (hi2 : ii + 1 < nn) (hg2 : vs.getD (ii + 1) (.int (0 : Int32)) = .int y2) (hpk : own_pk y1 y2 = ch) (hrk : own_rk ch) :
    MetFree l (⟨"java/lang/StringUTF16", "getChar", "([BI)C"⟩ : MethodName) (head1 (Jvm.Cond.code (⟨"java/lang/StringUTF16", "getChar", "([BI)C"⟩ : MethodName) jdk_52_method_5_code 2 (some .char) :: ws) ({ frames := 0, cells := 0, slots := 0, locals := 0 } : Room)) (fun a U => a = #[(.ref a1), (.int jj)] ∧ Z.Warmed39 U.vm ∧ U.heap = h0) (fun _ _ _ _ _ => True) (fun _ U o U' => ∃ v L, o = .returned v ∧ Q_rmgc Z a1 jj kb zz vs nn ii y1 y2 ch h0 n0 v U'.heap L ∧ FrameEnd U o U' L ({ frames := 0, cells := 0, slots := 0, locals := 0 } : Room).cells ({ frames := 0, cells := 0, slots := 0, locals := 0 } : Room).slots) := by
  refine MetFree.of_bodySF (plainFor_of_name pn_rmgc) hisR ?_
  intro p e s m args_ below meth c s₁ Bd hml0 hP hK
  obtain ⟨hargs, hZ, hh⟩ := hP
  have hx := Bd.exec
  have hby := Bd.bytes
  have hml : c.maxLocals = 2 := hml0
  have hown : s.vm.findClass "java/lang/StringUTF16" = some m.cls := findClass_of_methodNamed Bd.named
  have hnm := (name_of_methodNamed Bd.named Bd.method).1
  have X0 : Stand p l e ({ frames := 0, cells := 0, slots := 0, locals := 0 } : Room) s m args_ below meth c s₁ [] 0 0 := Stand.of_body Bd
  have e0 : s₁.heap = h0 := by rw [← hh, Bd.state]; rfl
  have N0 := Fr.nil n0
  have hv : ∀ (i : Nat) {d : Jvm.Cond}, tables_1[i]? = some d → d.before a0 Z = true := fun i d q => hw d (List.mem_of_getElem? q)
  have k0 : Go p e below m (s₁.setTop (entryFrame m args_ 2)) s₁ 0 #[.val (.ref a1), .val (.int jj)] [] := by rw [hargs]; exact fun t kt => castTop (ef_rmgc m a1 jj) kt
  obtain ⟨W, hWW⟩ : ∃ W, W = s₁.setTop (entryFrame m args_ 2) := ⟨_, rfl⟩
  rw [← hWW] at k0 ⊢
  show Done p e below s W (Q_rmgc Z a1 jj kb zz vs nn ii y1 y2 ch h0 n0) ({ frames := 0, cells := 0, slots := 0, locals := 0 } : Room).cells ({ frames := 0, cells := 0, slots := 0, locals := 0 } : Room).slots
  obtain ⟨T20, X20, e20, k20⟩ := k0.getS X0 hx hZ hown (host := "") (Or.inl (hv 122 rfl)) Via.refl e0 (SAD.ext O0.2) (hb hby d_rmgc_0)
  have k20 : Go p e below m W T20 3 #[.val (.ref a1), .val (.int jj)] [(.int (1 : Int32))] := k20
  have k21 : Go p e below m W T20 32 #[.val (.ref a1), .val (.int (jj <<< ((1 : Int32) &&& 31)))] [] := ((((k20.ifYes X20 hx (hb hby d_rmgc_3) (XT.i0_ne_t (by decide)) (by decide) (by decide)).iloadN X20 hx (hb hby d_rmgc_28) rfl).iconst X20 hx (hb hby d_rmgc_29) (v := (1 : Int32)) rfl).ishl X20 hx (hb hby d_rmgc_30)).istoreN X20 hx (hb hby d_rmgc_31) rfl
  have k22 : Go p e below m W T20 37 #[.val (.ref a1), .val (.int ((jj <<< ((1 : Int32) &&& 31)) + (1 : Int32)))] [(.int (jj <<< ((1 : Int32) &&& 31))), (.ref a1)] := ((k21.aloadN X20 hx (hb hby d_rmgc_32) rfl rfl).iloadN X20 hx (hb hby d_rmgc_33) rfl).iinc X20 hx (hb hby d_rmgc_34) (v := (1 : Int32)) rfl rfl rfl
  have k23 : Go p e below m W T20 42 #[.val (.ref a1), .val (.int ((jj <<< ((1 : Int32) &&& 31)) + (1 : Int32)))] [(.int (y1 &&& (255 : Int32)))] := ((k22.baload (i := ii) (n := nn) X20 hx hZ e20 V1 hz hj hj0 hi hg1 (hb hby d_rmgc_37)).sipush X20 hx (hb hby d_rmgc_38) (v := (255 : Int32)) rfl).iand X20 hx (hb hby d_rmgc_41)
  obtain ⟨T24, X24, e24, k24⟩ := k23.getS X20 hx hZ hown (host := "") (Or.inl (hv 123 rfl)) Via.refl e20 (SHI.ext O0.2) (hb hby d_rmgc_42)
  have k24 : Go p e below m W T24 45 #[.val (.ref a1), .val (.int ((jj <<< ((1 : Int32) &&& 31)) + (1 : Int32)))] [(.int (0 : Int32)), (.int (y1 &&& (255 : Int32)))] := k24
  have k25 : Go p e below m W T24 48 #[.val (.ref a1), .val (.int ((jj <<< ((1 : Int32) &&& 31)) + (1 : Int32)))] [(.int ((jj <<< ((1 : Int32) &&& 31)) + (1 : Int32))), (.ref a1), (.int ((y1 &&& (255 : Int32)) <<< ((0 : Int32) &&& 31)))] := ((k24.ishl X24 hx (hb hby d_rmgc_45)).aloadN X24 hx (hb hby d_rmgc_46) rfl rfl).iloadN X24 hx (hb hby d_rmgc_47) rfl
  have k26 : Go p e below m W T24 53 #[.val (.ref a1), .val (.int ((jj <<< ((1 : Int32) &&& 31)) + (1 : Int32)))] [(.int (y2 &&& (255 : Int32))), (.int ((y1 &&& (255 : Int32)) <<< ((0 : Int32) &&& 31)))] := ((k25.baload (i := (ii + 1)) (n := nn) X24 hx hZ e24 V1 hz hk hk0 hi2 hg2 (hb hby d_rmgc_48)).sipush X24 hx (hb hby d_rmgc_49) (v := (255 : Int32)) rfl).iand X24 hx (hb hby d_rmgc_52)
  obtain ⟨T27, X27, e27, k27⟩ := k26.getS X24 hx hZ hown (host := "") (Or.inl (hv 124 rfl)) Via.refl e24 (SLO.ext O0.2) (hb hby d_rmgc_53)
  have k27 : Go p e below m W T27 56 #[.val (.ref a1), .val (.int ((jj <<< ((1 : Int32) &&& 31)) + (1 : Int32)))] [(.int (8 : Int32)), (.int (y2 &&& (255 : Int32))), (.int ((y1 &&& (255 : Int32)) <<< ((0 : Int32) &&& 31)))] := k27
  have k28 : Go p e below m W T27 59 #[.val (.ref a1), .val (.int ((jj <<< ((1 : Int32) &&& 31)) + (1 : Int32)))] [(.int ((((y1 &&& (255 : Int32)) <<< ((0 : Int32) &&& 31)) ||| ((y2 &&& (255 : Int32)) <<< ((8 : Int32) &&& 31)))).toUInt32.toUInt16.toUInt32.toInt32)] := ((k27.ishl X27 hx (hb hby d_rmgc_56)).ior X27 hx (hb hby d_rmgc_57)).i2c X27 hx (hb hby d_rmgc_58)
  have k29 : Go p e below m W T27 59 #[.val (.ref a1), .val (.int ((jj <<< ((1 : Int32) &&& 31)) + (1 : Int32)))] [(.int ch)] := k28.cast (y := ch) hpk
  exact k29.ireturnN X27 hx (t := .char) Bd.returns (by simp) (own_narr hrk) (hb hby d_rmgc_59) (BodyLoose.notSynchronized Bd) (by rw [e27]; exact ⟨rfl, N0, rfl⟩) (by decide) (by decide)

theorem d_rmul_0 : decode jdk_52_method_6_code 0 = .ok (.aload_n 0, 1) := by decide +kernel
theorem d_rmul_1 : decode jdk_52_method_6_code 1 = .ok (.arraylength, 1) := by decide +kernel
theorem d_rmul_2 : decode jdk_52_method_6_code 2 = .ok (.iconst 1, 1) := by decide +kernel
theorem d_rmul_3 : decode jdk_52_method_6_code 3 = .ok (.ishr, 1) := by decide +kernel
theorem d_rmul_4 : decode jdk_52_method_6_code 4 = .ok (.ireturn, 1) := by decide +kernel
theorem ef_rmul (m : MethodId) (a1 : Addr) : entryFrame m #[(.ref a1)] 1 = mkF m 0 #[.val (.ref a1)] [] := by first | (simp [entryFrame, mkF, argsToLocals, Value.category]; done) | rfl
def Q_rmul (Z : State) (a1 : Addr) (kb : ClassId) (zz : Int32) (vs : List Value) (h0 : Heap) (n0 : Nat) (v : Option Value) (h : Heap) (L : List Loc) : Prop := v = some (.int (zz >>> ((1 : Int32) &&& 31))) ∧ Fr n0 L ∧ h = h0
set_option maxRecDepth 65536 in
set_option maxHeartbeats 40000000 in
theorem rmul (l : Launch) (Z : State) (a0 : Array Value) (hw : ∀ d ∈ tables_1, d.before a0 Z = true) (ws : List Jvm.Cond) (a1 : Addr) (kb : ClassId) (zz : Int32) (vs : List Value) (h0 : Heap) (n0 : Nat) (Z0 : n0 ≤ h0.size) (V1 : Arv Z h0 a1 kb .byte zz vs (.int (0 : Int32))) :
    MetFree l (⟨"java/lang/StringUTF16", "length", "([B)I"⟩ : MethodName) (head1 (Jvm.Cond.code (⟨"java/lang/StringUTF16", "length", "([B)I"⟩ : MethodName) jdk_52_method_6_code 1 (some .int) :: ws) ({ frames := 0, cells := 0, slots := 0, locals := 0 } : Room)) (fun a U => a = #[(.ref a1)] ∧ Z.Warmed39 U.vm ∧ U.heap = h0) (fun _ _ _ _ _ => True) (fun _ U o U' => ∃ v L, o = .returned v ∧ Q_rmul Z a1 kb zz vs h0 n0 v U'.heap L ∧ FrameEnd U o U' L ({ frames := 0, cells := 0, slots := 0, locals := 0 } : Room).cells ({ frames := 0, cells := 0, slots := 0, locals := 0 } : Room).slots) := by
  refine MetFree.of_bodySF (plainFor_of_name pn_rmgc) hisR ?_
  intro p e s m args_ below meth c s₁ Bd hml0 hP hK
  obtain ⟨hargs, hZ, hh⟩ := hP
  have hx := Bd.exec
  have hby := Bd.bytes
  have hml : c.maxLocals = 1 := hml0
  have hown : s.vm.findClass "java/lang/StringUTF16" = some m.cls := findClass_of_methodNamed Bd.named
  have hnm := (name_of_methodNamed Bd.named Bd.method).1
  have X0 : Stand p l e ({ frames := 0, cells := 0, slots := 0, locals := 0 } : Room) s m args_ below meth c s₁ [] 0 0 := Stand.of_body Bd
  have e0 : s₁.heap = h0 := by rw [← hh, Bd.state]; rfl
  have N0 := Fr.nil n0
  have hv : ∀ (i : Nat) {d : Jvm.Cond}, tables_1[i]? = some d → d.before a0 Z = true := fun i d q => hw d (List.mem_of_getElem? q)
  have k0 : Go p e below m (s₁.setTop (entryFrame m args_ 1)) s₁ 0 #[.val (.ref a1)] [] := by rw [hargs]; exact fun t kt => castTop (ef_rmul m a1) kt
  obtain ⟨W, hWW⟩ : ∃ W, W = s₁.setTop (entryFrame m args_ 1) := ⟨_, rfl⟩
  rw [← hWW] at k0 ⊢
  show Done p e below s W (Q_rmul Z a1 kb zz vs h0 n0) ({ frames := 0, cells := 0, slots := 0, locals := 0 } : Room).cells ({ frames := 0, cells := 0, slots := 0, locals := 0 } : Room).slots
  have k20 : Go p e below m W s₁ 1 #[.val (.ref a1)] [(.ref a1)] := k0.aloadN X0 hx (hb hby d_rmul_0) rfl rfl
  have k21 : Go p e below m W s₁ 4 #[.val (.ref a1)] [(.int (zz >>> ((1 : Int32) &&& 31)))] := ((k20.arraylength X0 hx hZ e0 V1 (hb hby d_rmul_1)).iconst X0 hx (hb hby d_rmul_2) (v := (1 : Int32)) rfl).ishr X0 hx (hb hby d_rmul_3)
  exact k21.ireturnI X0 hx Bd.returns (hb hby d_rmul_4) (BodyLoose.notSynchronized Bd) (by rw [e0]; exact ⟨rfl, N0, rfl⟩) (by decide) (by decide)

theorem d_rmuc_0 : decode jdk_52_method_91_code 0 = .ok (.iload_n 0, 1) := by decide +kernel
theorem d_rmuc_1 : decode jdk_52_method_91_code 1 = .ok (.aload_n 1, 1) := by decide +kernel
theorem d_rmuc_2 : decode jdk_52_method_91_code 2 = .ok (.invokestatic 48, 3) := by decide +kernel
theorem d_rmuc_5 : decode jdk_52_method_91_code 5 = .ok (.invokestatic 414, 3) := by decide +kernel
theorem d_rmuc_8 : decode jdk_52_method_91_code 8 = .ok (.return_, 1) := by decide +kernel
theorem pd_rmuc_0 : parseMethodDescriptor "([B)I" = some ⟨[(.array .byte)], (some .int)⟩ := by decide +kernel
theorem ef_rmuc (m : MethodId) (jj : Int32) (a1 : Addr) : entryFrame m #[(.int jj), (.ref a1)] 2 = mkF m 0 #[.val (.int jj), .val (.ref a1)] [] := by first | (simp [entryFrame, mkF, argsToLocals, Value.category]; done) | rfl
def Q_rmuc (Z : State) (jj : Int32) (a1 : Addr) (kb : ClassId) (zz : Int32) (vs : List Value) (fm : Value) (h0 : Heap) (n0 : Nat) (v : Option Value) (h : Heap) (L : List Loc) : Prop := v = none ∧ Fr n0 L ∧ h = h0
set_option maxRecDepth 65536 in
set_option maxHeartbeats 40000000 in
theorem rmuc (l : Launch) (Z : State) (a0 : Array Value) (hw : ∀ d ∈ tables_1, d.before a0 Z = true) (ws : List Jvm.Cond) (jj : Int32) (a1 : Addr) (kb : ClassId) (zz : Int32) (vs : List Value) (fm : Value) (h0 : Heap) (n0 : Nat) (Z0 : n0 ≤ h0.size) (O0 : Old Z n0 h0) (hfm : fm.isRef = true) (SIO : Sta Z Z.heap "jdk/internal/util/Preconditions" "SIOOBE_FORMATTER" "Ljava/util/function/BiFunction;" fm) (V1 : Arv Z h0 a1 kb .byte zz vs (.int (0 : Int32))) (hq0 : ¬ (jj < (0 : Int32))) (hlt : jj < (zz >>> ((1 : Int32) &&& 31))) :
    MetFree l (⟨"java/lang/StringUTF16", "checkIndex", "(I[B)V"⟩ : MethodName) (head1 (Jvm.Cond.code (⟨"java/lang/StringUTF16", "checkIndex", "(I[B)V"⟩ : MethodName) jdk_52_method_91_code 2 none :: ws) ({ frames := 2, cells := 0, slots := 0, locals := 27 } : Room)) (fun a U => a = #[(.int jj), (.ref a1)] ∧ Z.Warmed39 U.vm ∧ U.heap = h0) (fun _ _ _ _ _ => True) (fun _ U o U' => ∃ v L, o = .returned v ∧ Q_rmuc Z jj a1 kb zz vs fm h0 n0 v U'.heap L ∧ FrameEnd U o U' L ({ frames := 2, cells := 0, slots := 0, locals := 27 } : Room).cells ({ frames := 2, cells := 0, slots := 0, locals := 27 } : Room).slots) := by
  refine MetFree.of_bodySF (plainFor_of_name pn_rmgc) hisR ?_
  intro p e s m args_ below meth c s₁ Bd hml0 hP hK
  obtain ⟨hargs, hZ, hh⟩ := hP
  have hx := Bd.exec
  have hby := Bd.bytes
  have hml : c.maxLocals = 2 := hml0
  have hown : s.vm.findClass "java/lang/StringUTF16" = some m.cls := findClass_of_methodNamed Bd.named
  have hnm := (name_of_methodNamed Bd.named Bd.method).1
  have X0 : Stand p l e ({ frames := 2, cells := 0, slots := 0, locals := 27 } : Room) s m args_ below meth c s₁ [] 0 0 := Stand.of_body Bd
  have e0 : s₁.heap = h0 := by rw [← hh, Bd.state]; rfl
  have N0 := Fr.nil n0
  have hv : ∀ (i : Nat) {d : Jvm.Cond}, tables_1[i]? = some d → d.before a0 Z = true := fun i d q => hw d (List.mem_of_getElem? q)
  have k0 : Go p e below m (s₁.setTop (entryFrame m args_ 2)) s₁ 0 #[.val (.int jj), .val (.ref a1)] [] := by rw [hargs]; exact fun t kt => castTop (ef_rmuc m jj a1) kt
  obtain ⟨W, hWW⟩ : ∃ W, W = s₁.setTop (entryFrame m args_ 2) := ⟨_, rfl⟩
  rw [← hWW] at k0 ⊢
  show Done p e below s W (Q_rmuc Z jj a1 kb zz vs fm h0 n0) ({ frames := 2, cells := 0, slots := 0, locals := 27 } : Room).cells ({ frames := 2, cells := 0, slots := 0, locals := 27 } : Room).slots
  have k20 : Go p e below m W s₁ 2 #[.val (.int jj), .val (.ref a1)] [(.ref a1), (.int jj)] := (k0.iloadN X0 hx (hb hby d_rmuc_0) rfl).aloadN X0 hx (hb hby d_rmuc_1) rfl rfl
  obtain ⟨T21, v21, L21, X21, Q21, k21⟩ := k20.stat (y := (⟨"java/lang/StringUTF16", "length", "([B)I"⟩ : MethodName)) (Wd := 1) (cells' := 0) (slots' := 0) (argsL := [(.ref a1)]) (rest := [(.int jj)]) X0 hx hZ hown (by rw [hml]; rfl) (hv 134 rfl) (hv 135 rfl) (hv 136 rfl) (hv 70 rfl) (hb hby d_rmuc_2) (by decide) (rmul l Z a0 hw [] a1 kb zz vs h0 n0 Z0 V1) e0 rfl rfl pd_rmuc_0 rfl (Nat.le_of_eq rfl) (by decide) (by decide) rfl rfl (by decide) (by decide)
  obtain ⟨rfl, Nq21, e21q⟩ := Q21
  have N21 := Fr.app N0 Nq21
  have e21 : T21.heap = h0 := e21q
  have k21 : Go p e below m W T21 5 #[.val (.int jj), .val (.ref a1)] [(.int (zz >>> ((1 : Int32) &&& 31))), (.int jj)] := k21
  obtain ⟨T22, v22, L22, X22, Q22, k22⟩ := k21.stat (y := (⟨"java/lang/String", "checkIndex", "(II)V"⟩ : MethodName)) (Wd := 0) (cells' := 0) (slots' := 0) (argsL := [(.int jj), (.int (zz >>> ((1 : Int32) &&& 31)))]) (rest := []) X21 hx hZ hown (by rw [hml]; rfl) (hv 137 rfl) (hv 93 rfl) (hv 94 rfl) (hv 19 rfl) (hb hby d_rmuc_5) (by decide) (rmci l Z a0 hw [] jj (zz >>> ((1 : Int32) &&& 31)) fm h0 n0 Z0 O0 hfm SIO hq0 hlt) e21 rfl rfl pd_rmlc_0 rfl (Nat.le_of_eq rfl) (by decide) (by decide) rfl rfl (by decide) (by decide)
  obtain ⟨rfl, Nq22, e22q⟩ := Q22
  have N22 := Fr.app N21 Nq22
  have e22 : T22.heap = h0 := e22q
  have k22 : Go p e below m W T22 8 #[.val (.int jj), .val (.ref a1)] [] := k22
  exact k22.return_ X22 hx Bd.returns (hb hby d_rmuc_8) (BodyLoose.notSynchronized Bd) (by rw [e22]; exact ⟨rfl, N22, rfl⟩) (by decide) (by decide)

theorem d_rmua_0 : decode jdk_52_method_83_code 0 = .ok (.iload_n 1, 1) := by decide +kernel
theorem d_rmua_1 : decode jdk_52_method_83_code 1 = .ok (.aload_n 0, 1) := by decide +kernel
theorem d_rmua_2 : decode jdk_52_method_83_code 2 = .ok (.invokestatic 67, 3) := by decide +kernel
theorem d_rmua_5 : decode jdk_52_method_83_code 5 = .ok (.aload_n 0, 1) := by decide +kernel
theorem d_rmua_6 : decode jdk_52_method_83_code 6 = .ok (.iload_n 1, 1) := by decide +kernel
theorem d_rmua_7 : decode jdk_52_method_83_code 7 = .ok (.invokestatic 71, 3) := by decide +kernel
theorem d_rmua_10 : decode jdk_52_method_83_code 10 = .ok (.ireturn, 1) := by decide +kernel
theorem pd_rmua_0 : parseMethodDescriptor "(I[B)V" = some ⟨[.int, (.array .byte)], none⟩ := by decide +kernel
theorem pd_rmua_1 : parseMethodDescriptor "([BI)C" = some ⟨[(.array .byte), .int], (some .char)⟩ := by decide +kernel
theorem ef_rmua (m : MethodId) (a1 : Addr) (jj : Int32) : entryFrame m #[(.ref a1), (.int jj)] 2 = mkF m 0 #[.val (.ref a1), .val (.int jj)] [] := by first | (simp [entryFrame, mkF, argsToLocals, Value.category]; done) | rfl
def Q_rmua (Z : State) (a1 : Addr) (jj : Int32) (kb : ClassId) (zz : Int32) (vs : List Value) (nn : Nat) (ii : Nat) (y1 : Int32) (y2 : Int32) (ch : Int32) (fm : Value) (h0 : Heap) (n0 : Nat) (v : Option Value) (h : Heap) (L : List Loc) : Prop := v = some (.int ch) ∧ Fr n0 L ∧ h = h0
set_option maxRecDepth 65536 in
set_option maxHeartbeats 40000000 in
theorem rmua (l : Launch) (Z : State) (a0 : Array Value) (hw : ∀ d ∈ tables_1, d.before a0 Z = true) (ws : List Jvm.Cond) (a1 : Addr) (jj : Int32) (kb : ClassId) (zz : Int32) (vs : List Value) (nn : Nat) (ii : Nat) (y1 : Int32) (y2 : Int32) (ch : Int32) (fm : Value) (h0 : Heap) (n0 : Nat) (Z0 : n0 ≤ h0.size) (O0 : Old Z n0 h0) (hfm : fm.isRef = true) (SIO : Sta Z Z.heap "jdk/internal/util/Preconditions" "SIOOBE_FORMATTER" "Ljava/util/function/BiFunction;" fm) (SAD : Sta Z Z.heap "java/lang/StringUTF16" "$assertionsDisabled" "Z" (.int (1 : Int32))) (SHI : Sta Z Z.heap "java/lang/StringUTF16" "HI_BYTE_SHIFT" "I" (.int (0 : Int32))) (SLO : Sta Z Z.heap "java/lang/StringUTF16" "LO_BYTE_SHIFT" "I" (.int (8 : Int32))) (V1 : Arv Z h0 a1 kb .byte zz vs (.int (0 : Int32))) (hz : zz.toNatClampNeg = nn) (hj : (jj <<< ((1 : Int32) &&& 31)).toNatClampNeg = ii) (hj0 : ¬ ((jj <<< ((1 : Int32) &&& 31)) < (0 : Int32))) (hi : ii < nn) (hg1 : vs.getD ii (.int (0 : Int32)) = .int y1) (hk : ((jj <<< ((1 : Int32) &&& 31)) + (1 : Int32)).toNatClampNeg = ii + 1) (hk0 : ¬ (((jj <<< ((1 : Int32) &&& 31)) + (1 : Int32)) < (0 : Int32))) (hi2 : ii + 1 < nn) (hg2 : vs.getD (ii + 1) (.int (0 : Int32)) = .int y2) (hpk : own_pk y1 y2 = ch) (hrk : own_rk ch) (hq0 : ¬ (jj < (0 : Int32))) (hlt : jj < (zz >>> ((1 : Int32) &&& 31))) :
    MetFree l (⟨"java/lang/StringUTF16", "charAt", "([BI)C"⟩ : MethodName) (head1 (Jvm.Cond.code (⟨"java/lang/StringUTF16", "charAt", "([BI)C"⟩ : MethodName) jdk_52_method_83_code 2 (some .char) :: ws) ({ frames := 3, cells := 0, slots := 0, locals := 40 } : Room)) (fun a U => a = #[(.ref a1), (.int jj)] ∧ Z.Warmed39 U.vm ∧ U.heap = h0) (fun _ _ _ _ _ => True) (fun _ U o U' => ∃ v L, o = .returned v ∧ Q_rmua Z a1 jj kb zz vs nn ii y1 y2 ch fm h0 n0 v U'.heap L ∧ FrameEnd U o U' L ({ frames := 3, cells := 0, slots := 0, locals := 40 } : Room).cells ({ frames := 3, cells := 0, slots := 0, locals := 40 } : Room).slots) := by
  refine MetFree.of_bodySF (plainFor_of_name pn_rmgc) hisR ?_
  intro p e s m args_ below meth c s₁ Bd hml0 hP hK
  obtain ⟨hargs, hZ, hh⟩ := hP
  have hx := Bd.exec
  have hby := Bd.bytes
  have hml : c.maxLocals = 2 := hml0
  have hown : s.vm.findClass "java/lang/StringUTF16" = some m.cls := findClass_of_methodNamed Bd.named
  have hnm := (name_of_methodNamed Bd.named Bd.method).1
  have X0 : Stand p l e ({ frames := 3, cells := 0, slots := 0, locals := 40 } : Room) s m args_ below meth c s₁ [] 0 0 := Stand.of_body Bd
  have e0 : s₁.heap = h0 := by rw [← hh, Bd.state]; rfl
  have N0 := Fr.nil n0
  have hv : ∀ (i : Nat) {d : Jvm.Cond}, tables_1[i]? = some d → d.before a0 Z = true := fun i d q => hw d (List.mem_of_getElem? q)
  have k0 : Go p e below m (s₁.setTop (entryFrame m args_ 2)) s₁ 0 #[.val (.ref a1), .val (.int jj)] [] := by rw [hargs]; exact fun t kt => castTop (ef_rmua m a1 jj) kt
  obtain ⟨W, hWW⟩ : ∃ W, W = s₁.setTop (entryFrame m args_ 2) := ⟨_, rfl⟩
  rw [← hWW] at k0 ⊢
  show Done p e below s W (Q_rmua Z a1 jj kb zz vs nn ii y1 y2 ch fm h0 n0) ({ frames := 3, cells := 0, slots := 0, locals := 40 } : Room).cells ({ frames := 3, cells := 0, slots := 0, locals := 40 } : Room).slots
  have k20 : Go p e below m W s₁ 2 #[.val (.ref a1), .val (.int jj)] [(.ref a1), (.int jj)] := (k0.iloadN X0 hx (hb hby d_rmua_0) rfl).aloadN X0 hx (hb hby d_rmua_1) rfl rfl
  obtain ⟨T21, v21, L21, X21, Q21, k21⟩ := k20.stat (y := (⟨"java/lang/StringUTF16", "checkIndex", "(I[B)V"⟩ : MethodName)) (Wd := 0) (cells' := 0) (slots' := 0) (argsL := [(.int jj), (.ref a1)]) (rest := []) X0 hx hZ hown (by rw [hml]; rfl) (hv 131 rfl) (hv 132 rfl) (hv 133 rfl) (hv 70 rfl) (hb hby d_rmua_2) (by decide) (rmuc l Z a0 hw [] jj a1 kb zz vs fm h0 n0 Z0 O0 hfm SIO V1 hq0 hlt) e0 rfl rfl pd_rmua_0 rfl (Nat.le_of_eq rfl) (by decide) (by decide) rfl rfl (by decide) (by decide)
  obtain ⟨rfl, Nq21, e21q⟩ := Q21
  have N21 := Fr.app N0 Nq21
  have e21 : T21.heap = h0 := e21q
  have k21 : Go p e below m W T21 5 #[.val (.ref a1), .val (.int jj)] [] := k21
  have k22 : Go p e below m W T21 7 #[.val (.ref a1), .val (.int jj)] [(.int jj), (.ref a1)] := (k21.aloadN X21 hx (hb hby d_rmua_5) rfl rfl).iloadN X21 hx (hb hby d_rmua_6) rfl
  obtain ⟨T23, v23, L23, X23, Q23, k23⟩ := k22.stat (y := (⟨"java/lang/StringUTF16", "getChar", "([BI)C"⟩ : MethodName)) (Wd := 0) (cells' := 0) (slots' := 0) (argsL := [(.ref a1), (.int jj)]) (rest := []) X21 hx hZ hown (by rw [hml]; rfl) (hv 125 rfl) (hv 126 rfl) (hv 127 rfl) (hv 70 rfl) (hb hby d_rmua_7) (by decide) (rmgc l Z a0 hw [] a1 jj kb zz vs nn ii y1 y2 ch h0 n0 Z0 O0 SAD SHI SLO V1 hz hj hj0 hi hg1 hk hk0 hi2 hg2 hpk hrk) e21 rfl rfl pd_rmua_1 rfl (Nat.le_of_eq rfl) (by decide) (by decide) rfl rfl (by decide) (by decide)
  obtain ⟨rfl, Nq23, e23q⟩ := Q23
  have N23 := Fr.app N21 Nq23
  have e23 : T23.heap = h0 := e23q
  have k23 : Go p e below m W T23 10 #[.val (.ref a1), .val (.int jj)] [(.int ch)] := k23
  exact k23.ireturnN X23 hx (t := .char) Bd.returns (by simp) (own_narr hrk) (hb hby d_rmua_10) (BodyLoose.notSynchronized Bd) (by rw [e23]; exact ⟨rfl, N23, rfl⟩) (by decide) (by decide)

theorem d_rmil0_0 : decode jdk_42_method_154_code 0 = .ok (.getstatic 38, 3) := by decide +kernel
theorem d_rmil0_3 : decode jdk_42_method_154_code 3 = .ok (.ifCond .eq 14, 3) := by decide +kernel
theorem d_rmil0_6 : decode jdk_42_method_154_code 6 = .ok (.aload_n 0, 1) := by decide +kernel
theorem d_rmil0_7 : decode jdk_42_method_154_code 7 = .ok (.getfield 15, 3) := by decide +kernel
theorem d_rmil0_10 : decode jdk_42_method_154_code 10 = .ok (.ifCond .ne 7, 3) := by decide +kernel
theorem d_rmil0_13 : decode jdk_42_method_154_code 13 = .ok (.iconst 1, 1) := by decide +kernel
theorem d_rmil0_14 : decode jdk_42_method_154_code 14 = .ok (.goto 4, 3) := by decide +kernel
theorem d_rmil0_18 : decode jdk_42_method_154_code 18 = .ok (.ireturn, 1) := by decide +kernel
theorem ef_rmil0 (m : MethodId) (a1 : Addr) : entryFrame m #[(.ref a1)] 1 = mkF m 0 #[.val (.ref a1)] [] := by first | (simp [entryFrame, mkF, argsToLocals, Value.category]; done) | rfl
def Q_rmil0 (Z : State) (a1 : Addr) (cz : Int32) (h0 : Heap) (n0 : Nat) (v : Option Value) (h : Heap) (L : List Loc) : Prop := v = some (.int (1 : Int32)) ∧ Fr n0 L ∧ h = h0
set_option maxRecDepth 65536 in
set_option maxHeartbeats 40000000 in
theorem rmil0 (l : Launch) (Z : State) (a0 : Array Value) (hw : ∀ d ∈ tables_1, d.before a0 Z = true) (ws : List Jvm.Cond) (a1 : Addr) (cz : Int32) (h0 : Heap) (n0 : Nat) (Z0 : n0 ≤ h0.size) (O0 : Old Z n0 h0) (SCZ : Sta Z Z.heap "java/lang/String" "COMPACT_STRINGS" "Z" (.int cz)) (hcz : ¬ (cz = (0 : Int32))) (F1 : Fld Z h0 a1 "java/lang/String" "coder" "B" (.int (0 : Int32))) :
    MetFree l (⟨"java/lang/String", "isLatin1", "()Z"⟩ : MethodName) (head1 (Jvm.Cond.code (⟨"java/lang/String", "isLatin1", "()Z"⟩ : MethodName) jdk_42_method_154_code 1 (some .boolean) :: ws) ({ frames := 0, cells := 0, slots := 0, locals := 0 } : Room)) (fun a U => a = #[(.ref a1)] ∧ Z.Warmed39 U.vm ∧ U.heap = h0) (fun _ _ _ _ _ => True) (fun _ U o U' => ∃ v L, o = .returned v ∧ Q_rmil0 Z a1 cz h0 n0 v U'.heap L ∧ FrameEnd U o U' L ({ frames := 0, cells := 0, slots := 0, locals := 0 } : Room).cells ({ frames := 0, cells := 0, slots := 0, locals := 0 } : Room).slots) := by
  refine MetFree.of_bodySF (plainFor_of_name pn_rmci) hisR ?_
  intro p e s m args_ below meth c s₁ Bd hml0 hP hK
  obtain ⟨hargs, hZ, hh⟩ := hP
  have hx := Bd.exec
  have hby := Bd.bytes
  have hml : c.maxLocals = 1 := hml0
  have hown : s.vm.findClass "java/lang/String" = some m.cls := findClass_of_methodNamed Bd.named
  have hnm := (name_of_methodNamed Bd.named Bd.method).1
  have X0 : Stand p l e ({ frames := 0, cells := 0, slots := 0, locals := 0 } : Room) s m args_ below meth c s₁ [] 0 0 := Stand.of_body Bd
  have e0 : s₁.heap = h0 := by rw [← hh, Bd.state]; rfl
  have N0 := Fr.nil n0
  have hv : ∀ (i : Nat) {d : Jvm.Cond}, tables_1[i]? = some d → d.before a0 Z = true := fun i d q => hw d (List.mem_of_getElem? q)
  have k0 : Go p e below m (s₁.setTop (entryFrame m args_ 1)) s₁ 0 #[.val (.ref a1)] [] := by rw [hargs]; exact fun t kt => castTop (ef_rmil0 m a1) kt
  obtain ⟨W, hWW⟩ : ∃ W, W = s₁.setTop (entryFrame m args_ 1) := ⟨_, rfl⟩
  rw [← hWW] at k0 ⊢
  show Done p e below s W (Q_rmil0 Z a1 cz h0 n0) ({ frames := 0, cells := 0, slots := 0, locals := 0 } : Room).cells ({ frames := 0, cells := 0, slots := 0, locals := 0 } : Room).slots
  obtain ⟨T20, X20, e20, k20⟩ := k0.getS X0 hx hZ hown (host := "") (Or.inl (hv 52 rfl)) Via.refl e0 (SCZ.ext O0.2) (hb hby d_rmil0_0)
  have k20 : Go p e below m W T20 3 #[.val (.ref a1)] [(.int cz)] := k20
  have k21 : Go p e below m W T20 7 #[.val (.ref a1)] [(.ref a1)] := (k20.ifNo X20 hx (hb hby d_rmil0_3) (XT.i0_eq_f hcz)).aloadN X20 hx (hb hby d_rmil0_6) rfl rfl
  obtain ⟨T22, X22, e22, k22⟩ := k21.getF X20 hx hZ hown (host := "") (Or.inl (hv 37 rfl)) Via.refl e20 F1 (hb hby d_rmil0_7)
  have k22 : Go p e below m W T22 10 #[.val (.ref a1)] [(.int (0 : Int32))] := k22
  have k23 : Go p e below m W T22 18 #[.val (.ref a1)] [(.int (1 : Int32))] := ((k22.ifNo X22 hx (hb hby d_rmil0_10) (XT.i0_ne_f (by decide))).iconst X22 hx (hb hby d_rmil0_13) (v := (1 : Int32)) rfl).goto X22 hx (hb hby d_rmil0_14) (by decide) (by decide)
  exact k23.ireturnN X22 hx (t := .boolean) Bd.returns (by simp) rfl (hb hby d_rmil0_18) (BodyLoose.notSynchronized Bd) (by rw [e22]; exact ⟨rfl, N0, rfl⟩) (by decide) (by decide)

theorem d_rmco0_0 : decode jdk_42_method_152_code 0 = .ok (.getstatic 38, 3) := by decide +kernel
theorem d_rmco0_3 : decode jdk_42_method_152_code 3 = .ok (.ifCond .eq 10, 3) := by decide +kernel
theorem d_rmco0_6 : decode jdk_42_method_152_code 6 = .ok (.aload_n 0, 1) := by decide +kernel
theorem d_rmco0_7 : decode jdk_42_method_152_code 7 = .ok (.getfield 15, 3) := by decide +kernel
theorem d_rmco0_10 : decode jdk_42_method_152_code 10 = .ok (.goto 4, 3) := by decide +kernel
theorem d_rmco0_14 : decode jdk_42_method_152_code 14 = .ok (.ireturn, 1) := by decide +kernel
theorem ef_rmco0 (m : MethodId) (a1 : Addr) : entryFrame m #[(.ref a1)] 1 = mkF m 0 #[.val (.ref a1)] [] := by first | (simp [entryFrame, mkF, argsToLocals, Value.category]; done) | rfl
def Q_rmco0 (Z : State) (a1 : Addr) (cz : Int32) (h0 : Heap) (n0 : Nat) (v : Option Value) (h : Heap) (L : List Loc) : Prop := v = some (.int (0 : Int32)) ∧ Fr n0 L ∧ h = h0
set_option maxRecDepth 65536 in
set_option maxHeartbeats 40000000 in
theorem rmco0 (l : Launch) (Z : State) (a0 : Array Value) (hw : ∀ d ∈ tables_1, d.before a0 Z = true) (ws : List Jvm.Cond) (a1 : Addr) (cz : Int32) (h0 : Heap) (n0 : Nat) (Z0 : n0 ≤ h0.size) (O0 : Old Z n0 h0) (SCZ : Sta Z Z.heap "java/lang/String" "COMPACT_STRINGS" "Z" (.int cz)) (hcz : ¬ (cz = (0 : Int32))) (F1 : Fld Z h0 a1 "java/lang/String" "coder" "B" (.int (0 : Int32))) :
    MetFree l (⟨"java/lang/String", "coder", "()B"⟩ : MethodName) (head1 (Jvm.Cond.code (⟨"java/lang/String", "coder", "()B"⟩ : MethodName) jdk_42_method_152_code 1 (some .byte) :: ws) ({ frames := 0, cells := 0, slots := 0, locals := 0 } : Room)) (fun a U => a = #[(.ref a1)] ∧ Z.Warmed39 U.vm ∧ U.heap = h0) (fun _ _ _ _ _ => True) (fun _ U o U' => ∃ v L, o = .returned v ∧ Q_rmco0 Z a1 cz h0 n0 v U'.heap L ∧ FrameEnd U o U' L ({ frames := 0, cells := 0, slots := 0, locals := 0 } : Room).cells ({ frames := 0, cells := 0, slots := 0, locals := 0 } : Room).slots) := by
  refine MetFree.of_bodySF (plainFor_of_name pn_rmci) hisR ?_
  intro p e s m args_ below meth c s₁ Bd hml0 hP hK
  obtain ⟨hargs, hZ, hh⟩ := hP
  have hx := Bd.exec
  have hby := Bd.bytes
  have hml : c.maxLocals = 1 := hml0
  have hown : s.vm.findClass "java/lang/String" = some m.cls := findClass_of_methodNamed Bd.named
  have hnm := (name_of_methodNamed Bd.named Bd.method).1
  have X0 : Stand p l e ({ frames := 0, cells := 0, slots := 0, locals := 0 } : Room) s m args_ below meth c s₁ [] 0 0 := Stand.of_body Bd
  have e0 : s₁.heap = h0 := by rw [← hh, Bd.state]; rfl
  have N0 := Fr.nil n0
  have hv : ∀ (i : Nat) {d : Jvm.Cond}, tables_1[i]? = some d → d.before a0 Z = true := fun i d q => hw d (List.mem_of_getElem? q)
  have k0 : Go p e below m (s₁.setTop (entryFrame m args_ 1)) s₁ 0 #[.val (.ref a1)] [] := by rw [hargs]; exact fun t kt => castTop (ef_rmco0 m a1) kt
  obtain ⟨W, hWW⟩ : ∃ W, W = s₁.setTop (entryFrame m args_ 1) := ⟨_, rfl⟩
  rw [← hWW] at k0 ⊢
  show Done p e below s W (Q_rmco0 Z a1 cz h0 n0) ({ frames := 0, cells := 0, slots := 0, locals := 0 } : Room).cells ({ frames := 0, cells := 0, slots := 0, locals := 0 } : Room).slots
  obtain ⟨T20, X20, e20, k20⟩ := k0.getS X0 hx hZ hown (host := "") (Or.inl (hv 52 rfl)) Via.refl e0 (SCZ.ext O0.2) (hb hby d_rmco0_0)
  have k20 : Go p e below m W T20 3 #[.val (.ref a1)] [(.int cz)] := k20
  have k21 : Go p e below m W T20 7 #[.val (.ref a1)] [(.ref a1)] := (k20.ifNo X20 hx (hb hby d_rmco0_3) (XT.i0_eq_f hcz)).aloadN X20 hx (hb hby d_rmco0_6) rfl rfl
  obtain ⟨T22, X22, e22, k22⟩ := k21.getF X20 hx hZ hown (host := "") (Or.inl (hv 37 rfl)) Via.refl e20 F1 (hb hby d_rmco0_7)
  have k22 : Go p e below m W T22 10 #[.val (.ref a1)] [(.int (0 : Int32))] := k22
  have k23 : Go p e below m W T22 14 #[.val (.ref a1)] [(.int (0 : Int32))] := k22.goto X22 hx (hb hby d_rmco0_10) (by decide) (by decide)
  exact k23.ireturnN X22 hx (t := .byte) Bd.returns (by simp) rfl (hb hby d_rmco0_14) (BodyLoose.notSynchronized Bd) (by rw [e22]; exact ⟨rfl, N0, rfl⟩) (by decide) (by decide)

theorem d_rmil0_17 : decode jdk_42_method_154_code 17 = .ok (.iconst 0, 1) := by decide +kernel
theorem ef_rmil1 (m : MethodId) (a1 : Addr) : entryFrame m #[(.ref a1)] 1 = mkF m 0 #[.val (.ref a1)] [] := by first | (simp [entryFrame, mkF, argsToLocals, Value.category]; done) | rfl
def Q_rmil1 (Z : State) (a1 : Addr) (cz : Int32) (h0 : Heap) (n0 : Nat) (v : Option Value) (h : Heap) (L : List Loc) : Prop := v = some (.int (0 : Int32)) ∧ Fr n0 L ∧ h = h0
set_option maxRecDepth 65536 in
set_option maxHeartbeats 40000000 in
theorem rmil1 (l : Launch) (Z : State) (a0 : Array Value) (hw : ∀ d ∈ tables_1, d.before a0 Z = true) (ws : List Jvm.Cond) (a1 : Addr) (cz : Int32) (h0 : Heap) (n0 : Nat) (Z0 : n0 ≤ h0.size) (O0 : Old Z n0 h0) (SCZ : Sta Z Z.heap "java/lang/String" "COMPACT_STRINGS" "Z" (.int cz)) (hcz : ¬ (cz = (0 : Int32))) (F1 : Fld Z h0 a1 "java/lang/String" "coder" "B" (.int (1 : Int32))) :
    MetFree l (⟨"java/lang/String", "isLatin1", "()Z"⟩ : MethodName) (head1 (Jvm.Cond.code (⟨"java/lang/String", "isLatin1", "()Z"⟩ : MethodName) jdk_42_method_154_code 1 (some .boolean) :: ws) ({ frames := 0, cells := 0, slots := 0, locals := 0 } : Room)) (fun a U => a = #[(.ref a1)] ∧ Z.Warmed39 U.vm ∧ U.heap = h0) (fun _ _ _ _ _ => True) (fun _ U o U' => ∃ v L, o = .returned v ∧ Q_rmil1 Z a1 cz h0 n0 v U'.heap L ∧ FrameEnd U o U' L ({ frames := 0, cells := 0, slots := 0, locals := 0 } : Room).cells ({ frames := 0, cells := 0, slots := 0, locals := 0 } : Room).slots) := by
  refine MetFree.of_bodySF (plainFor_of_name pn_rmci) hisR ?_
  intro p e s m args_ below meth c s₁ Bd hml0 hP hK
  obtain ⟨hargs, hZ, hh⟩ := hP
  have hx := Bd.exec
  have hby := Bd.bytes
  have hml : c.maxLocals = 1 := hml0
  have hown : s.vm.findClass "java/lang/String" = some m.cls := findClass_of_methodNamed Bd.named
  have hnm := (name_of_methodNamed Bd.named Bd.method).1
  have X0 : Stand p l e ({ frames := 0, cells := 0, slots := 0, locals := 0 } : Room) s m args_ below meth c s₁ [] 0 0 := Stand.of_body Bd
  have e0 : s₁.heap = h0 := by rw [← hh, Bd.state]; rfl
  have N0 := Fr.nil n0
  have hv : ∀ (i : Nat) {d : Jvm.Cond}, tables_1[i]? = some d → d.before a0 Z = true := fun i d q => hw d (List.mem_of_getElem? q)
  have k0 : Go p e below m (s₁.setTop (entryFrame m args_ 1)) s₁ 0 #[.val (.ref a1)] [] := by rw [hargs]; exact fun t kt => castTop (ef_rmil1 m a1) kt
  obtain ⟨W, hWW⟩ : ∃ W, W = s₁.setTop (entryFrame m args_ 1) := ⟨_, rfl⟩
  rw [← hWW] at k0 ⊢
  show Done p e below s W (Q_rmil1 Z a1 cz h0 n0) ({ frames := 0, cells := 0, slots := 0, locals := 0 } : Room).cells ({ frames := 0, cells := 0, slots := 0, locals := 0 } : Room).slots
  obtain ⟨T20, X20, e20, k20⟩ := k0.getS X0 hx hZ hown (host := "") (Or.inl (hv 52 rfl)) Via.refl e0 (SCZ.ext O0.2) (hb hby d_rmil0_0)
  have k20 : Go p e below m W T20 3 #[.val (.ref a1)] [(.int cz)] := k20
  have k21 : Go p e below m W T20 7 #[.val (.ref a1)] [(.ref a1)] := (k20.ifNo X20 hx (hb hby d_rmil0_3) (XT.i0_eq_f hcz)).aloadN X20 hx (hb hby d_rmil0_6) rfl rfl
  obtain ⟨T22, X22, e22, k22⟩ := k21.getF X20 hx hZ hown (host := "") (Or.inl (hv 37 rfl)) Via.refl e20 F1 (hb hby d_rmil0_7)
  have k22 : Go p e below m W T22 10 #[.val (.ref a1)] [(.int (1 : Int32))] := k22
  have k23 : Go p e below m W T22 18 #[.val (.ref a1)] [(.int (0 : Int32))] := (k22.ifYes X22 hx (hb hby d_rmil0_10) (XT.i0_ne_t (by decide)) (by decide) (by decide)).iconst X22 hx (hb hby d_rmil0_17) (v := (0 : Int32)) rfl
  exact k23.ireturnN X22 hx (t := .boolean) Bd.returns (by simp) rfl (hb hby d_rmil0_18) (BodyLoose.notSynchronized Bd) (by rw [e22]; exact ⟨rfl, N0, rfl⟩) (by decide) (by decide)

theorem ef_rmco1 (m : MethodId) (a1 : Addr) : entryFrame m #[(.ref a1)] 1 = mkF m 0 #[.val (.ref a1)] [] := by first | (simp [entryFrame, mkF, argsToLocals, Value.category]; done) | rfl
def Q_rmco1 (Z : State) (a1 : Addr) (cz : Int32) (h0 : Heap) (n0 : Nat) (v : Option Value) (h : Heap) (L : List Loc) : Prop := v = some (.int (1 : Int32)) ∧ Fr n0 L ∧ h = h0
set_option maxRecDepth 65536 in
set_option maxHeartbeats 40000000 in
theorem rmco1 (l : Launch) (Z : State) (a0 : Array Value) (hw : ∀ d ∈ tables_1, d.before a0 Z = true) (ws : List Jvm.Cond) (a1 : Addr) (cz : Int32) (h0 : Heap) (n0 : Nat) (Z0 : n0 ≤ h0.size) (O0 : Old Z n0 h0) (SCZ : Sta Z Z.heap "java/lang/String" "COMPACT_STRINGS" "Z" (.int cz)) (hcz : ¬ (cz = (0 : Int32))) (F1 : Fld Z h0 a1 "java/lang/String" "coder" "B" (.int (1 : Int32))) :
    MetFree l (⟨"java/lang/String", "coder", "()B"⟩ : MethodName) (head1 (Jvm.Cond.code (⟨"java/lang/String", "coder", "()B"⟩ : MethodName) jdk_42_method_152_code 1 (some .byte) :: ws) ({ frames := 0, cells := 0, slots := 0, locals := 0 } : Room)) (fun a U => a = #[(.ref a1)] ∧ Z.Warmed39 U.vm ∧ U.heap = h0) (fun _ _ _ _ _ => True) (fun _ U o U' => ∃ v L, o = .returned v ∧ Q_rmco1 Z a1 cz h0 n0 v U'.heap L ∧ FrameEnd U o U' L ({ frames := 0, cells := 0, slots := 0, locals := 0 } : Room).cells ({ frames := 0, cells := 0, slots := 0, locals := 0 } : Room).slots) := by
  refine MetFree.of_bodySF (plainFor_of_name pn_rmci) hisR ?_
  intro p e s m args_ below meth c s₁ Bd hml0 hP hK
  obtain ⟨hargs, hZ, hh⟩ := hP
  have hx := Bd.exec
  have hby := Bd.bytes
  have hml : c.maxLocals = 1 := hml0
  have hown : s.vm.findClass "java/lang/String" = some m.cls := findClass_of_methodNamed Bd.named
  have hnm := (name_of_methodNamed Bd.named Bd.method).1
  have X0 : Stand p l e ({ frames := 0, cells := 0, slots := 0, locals := 0 } : Room) s m args_ below meth c s₁ [] 0 0 := Stand.of_body Bd
  have e0 : s₁.heap = h0 := by rw [← hh, Bd.state]; rfl
  have N0 := Fr.nil n0
  have hv : ∀ (i : Nat) {d : Jvm.Cond}, tables_1[i]? = some d → d.before a0 Z = true := fun i d q => hw d (List.mem_of_getElem? q)
  have k0 : Go p e below m (s₁.setTop (entryFrame m args_ 1)) s₁ 0 #[.val (.ref a1)] [] := by rw [hargs]; exact fun t kt => castTop (ef_rmco1 m a1) kt
  obtain ⟨W, hWW⟩ : ∃ W, W = s₁.setTop (entryFrame m args_ 1) := ⟨_, rfl⟩
  rw [← hWW] at k0 ⊢
  show Done p e below s W (Q_rmco1 Z a1 cz h0 n0) ({ frames := 0, cells := 0, slots := 0, locals := 0 } : Room).cells ({ frames := 0, cells := 0, slots := 0, locals := 0 } : Room).slots
  obtain ⟨T20, X20, e20, k20⟩ := k0.getS X0 hx hZ hown (host := "") (Or.inl (hv 52 rfl)) Via.refl e0 (SCZ.ext O0.2) (hb hby d_rmco0_0)
  have k20 : Go p e below m W T20 3 #[.val (.ref a1)] [(.int cz)] := k20
  have k21 : Go p e below m W T20 7 #[.val (.ref a1)] [(.ref a1)] := (k20.ifNo X20 hx (hb hby d_rmco0_3) (XT.i0_eq_f hcz)).aloadN X20 hx (hb hby d_rmco0_6) rfl rfl
  obtain ⟨T22, X22, e22, k22⟩ := k21.getF X20 hx hZ hown (host := "") (Or.inl (hv 37 rfl)) Via.refl e20 F1 (hb hby d_rmco0_7)
  have k22 : Go p e below m W T22 10 #[.val (.ref a1)] [(.int (1 : Int32))] := k22
  have k23 : Go p e below m W T22 14 #[.val (.ref a1)] [(.int (1 : Int32))] := k22.goto X22 hx (hb hby d_rmco0_10) (by decide) (by decide)
  exact k23.ireturnN X22 hx (t := .byte) Bd.returns (by simp) rfl (hb hby d_rmco0_14) (BodyLoose.notSynchronized Bd) (by rw [e22]; exact ⟨rfl, N0, rfl⟩) (by decide) (by decide)

theorem d_rmle_0 : decode jdk_42_method_54_code 0 = .ok (.aload_n 0, 1) := by decide +kernel
theorem d_rmle_1 : decode jdk_42_method_54_code 1 = .ok (.getfield 9, 3) := by decide +kernel
theorem d_rmle_4 : decode jdk_42_method_54_code 4 = .ok (.arraylength, 1) := by decide +kernel
theorem d_rmle_5 : decode jdk_42_method_54_code 5 = .ok (.aload_n 0, 1) := by decide +kernel
theorem d_rmle_6 : decode jdk_42_method_54_code 6 = .ok (.invokevirtual 335, 3) := by decide +kernel
theorem d_rmle_9 : decode jdk_42_method_54_code 9 = .ok (.ishr, 1) := by decide +kernel
theorem d_rmle_10 : decode jdk_42_method_54_code 10 = .ok (.ireturn, 1) := by decide +kernel
theorem pd_rmle_0 : parseMethodDescriptor "()B" = some ⟨[], (some .byte)⟩ := by decide +kernel
theorem ef_rmle (m : MethodId) (a1 : Addr) : entryFrame m #[(.ref a1)] 1 = mkF m 0 #[.val (.ref a1)] [] := by first | (simp [entryFrame, mkF, argsToLocals, Value.category]; done) | rfl
def Q_rmle (Z : State) (a1 : Addr) (cs : List Int32) (cz : Int32) (h0 : Heap) (n0 : Nat) (v : Option Value) (h : Heap) (L : List Loc) : Prop := v = some (.int (Int32.ofNat cs.length)) ∧ Fr n0 L ∧ h = h0
set_option maxRecDepth 65536 in
set_option maxHeartbeats 40000000 in
theorem rmle (l : Launch) (Z : State) (a0 : Array Value) (hw : ∀ d ∈ tables_1, d.before a0 Z = true) (ws : List Jvm.Cond) (a1 : Addr) (cs : List Int32) (cz : Int32) (h0 : Heap) (n0 : Nat) (Z0 : n0 ≤ h0.size) (O0 : Old Z n0 h0) (SCZ : Sta Z Z.heap "java/lang/String" "COMPACT_STRINGS" "Z" (.int cz)) (hcz : ¬ (cz = (0 : Int32))) (E1 : Exa Z h0 a1 "java/lang/String") (T1 : own_Str Z h0 a1 cs) :
    MetFree l (⟨"java/lang/String", "length", "()I"⟩ : MethodName) (head1 (Jvm.Cond.code (⟨"java/lang/String", "length", "()I"⟩ : MethodName) jdk_42_method_54_code 1 (some .int) :: ws) ({ frames := 1, cells := 0, slots := 0, locals := 13 } : Room)) (fun a U => a = #[(.ref a1)] ∧ Z.Warmed39 U.vm ∧ U.heap = h0) (fun _ _ _ _ _ => True) (fun _ U o U' => ∃ v L, o = .returned v ∧ Q_rmle Z a1 cs cz h0 n0 v U'.heap L ∧ FrameEnd U o U' L ({ frames := 1, cells := 0, slots := 0, locals := 13 } : Room).cells ({ frames := 1, cells := 0, slots := 0, locals := 13 } : Room).slots) := by
  refine MetFree.of_bodySF (plainFor_of_name pn_rmci) hisR ?_
  intro p e s m args_ below meth c s₁ Bd hml0 hP hK
  obtain ⟨hargs, hZ, hh⟩ := hP
  have hx := Bd.exec
  have hby := Bd.bytes
  have hml : c.maxLocals = 1 := hml0
  have hown : s.vm.findClass "java/lang/String" = some m.cls := findClass_of_methodNamed Bd.named
  have hnm := (name_of_methodNamed Bd.named Bd.method).1
  have X0 : Stand p l e ({ frames := 1, cells := 0, slots := 0, locals := 13 } : Room) s m args_ below meth c s₁ [] 0 0 := Stand.of_body Bd
  have e0 : s₁.heap = h0 := by rw [← hh, Bd.state]; rfl
  have N0 := Fr.nil n0
  have hv : ∀ (i : Nat) {d : Jvm.Cond}, tables_1[i]? = some d → d.before a0 Z = true := fun i d q => hw d (List.mem_of_getElem? q)
  have k0 : Go p e below m (s₁.setTop (entryFrame m args_ 1)) s₁ 0 #[.val (.ref a1)] [] := by rw [hargs]; exact fun t kt => castTop (ef_rmle m a1) kt
  obtain ⟨W, hWW⟩ : ∃ W, W = s₁.setTop (entryFrame m args_ 1) := ⟨_, rfl⟩
  rw [← hWW] at k0 ⊢
  show Done p e below s W (Q_rmle Z a1 cs cz h0 n0) ({ frames := 1, cells := 0, slots := 0, locals := 13 } : Room).cells ({ frames := 1, cells := 0, slots := 0, locals := 13 } : Room).slots
  obtain ⟨hl, hr, t1, kb1, z1, cd1, vs1, Fv1, Fc1, Va1, En1⟩ := T1
  rcases En1 with ⟨rfl, rfl, rfl, hn⟩ | ⟨rfl, rfl, rfl⟩
  ·
    have k20 : Go p e below m W s₁ 1 #[.val (.ref a1)] [(.ref a1)] := k0.aloadN X0 hx (hb hby d_rmle_0) rfl rfl
    obtain ⟨T21, X21, e21, k21⟩ := k20.getF X0 hx hZ hown (host := "") (Or.inl (hv 36 rfl)) Via.refl e0 Fv1 (hb hby d_rmle_1)
    have k21 : Go p e below m W T21 4 #[.val (.ref a1)] [(.ref t1)] := k21
    have k22 : Go p e below m W T21 6 #[.val (.ref a1)] [(.ref a1), (.int (Int32.ofNat cs.length))] := (k21.arraylength X21 hx hZ e21 Va1 (hb hby d_rmle_4)).aloadN X21 hx (hb hby d_rmle_5) rfl rfl
    obtain ⟨T23, v23, L23, X23, Q23, k23⟩ := k22.virt (y := (⟨"java/lang/String", "coder", "()B"⟩ : MethodName)) (z := (⟨"java/lang/String", "coder", "()B"⟩ : MethodName)) (Wd := 1) (cells' := 0) (slots' := 0) (argsL := []) (rest := [(.int (Int32.ofNat cs.length))]) X21 hx hZ hown (by rw [hml]; rfl) (hv 47 rfl) (hv 48 rfl) (notFace_of_selects (args := #[]) (mvT hZ (hv 50 rfl))) (hv 50 rfl) (hv 49 rfl) (hv 51 rfl) (hv 19 rfl) (hb hby d_rmle_6) (by decide) (rmco0 l Z a0 hw [] a1 cz h0 n0 Z0 O0 SCZ hcz Fc1) e21 E1 rfl rfl pd_rmle_0 rfl (Nat.le_of_eq rfl) (by decide) (by decide) rfl rfl (by decide) (by decide)
    obtain ⟨rfl, Nq23, e23q⟩ := Q23
    have N23 := Fr.app N0 Nq23
    have e23 : T23.heap = h0 := e23q
    have k23 : Go p e below m W T23 9 #[.val (.ref a1)] [(.int (0 : Int32)), (.int (Int32.ofNat cs.length))] := k23
    have k24 : Go p e below m W T23 10 #[.val (.ref a1)] [(.int ((Int32.ofNat cs.length) >>> ((0 : Int32) &&& 31)))] := k23.ishr X23 hx (hb hby d_rmle_9)
    have k25 : Go p e below m W T23 10 #[.val (.ref a1)] [(.int (Int32.ofNat cs.length))] := k24.cast (y := (Int32.ofNat cs.length)) (own_len0 _)
    exact k25.ireturnI X23 hx Bd.returns (hb hby d_rmle_10) (BodyLoose.notSynchronized Bd) (by rw [e23]; exact ⟨rfl, N23, rfl⟩) (by decide) (by decide)
  ·
    have k26 : Go p e below m W s₁ 1 #[.val (.ref a1)] [(.ref a1)] := k0.aloadN X0 hx (hb hby d_rmle_0) rfl rfl
    obtain ⟨T27, X27, e27, k27⟩ := k26.getF X0 hx hZ hown (host := "") (Or.inl (hv 36 rfl)) Via.refl e0 Fv1 (hb hby d_rmle_1)
    have k27 : Go p e below m W T27 4 #[.val (.ref a1)] [(.ref t1)] := k27
    have k28 : Go p e below m W T27 6 #[.val (.ref a1)] [(.ref a1), (.int (Int32.ofNat (2 * cs.length)))] := (k27.arraylength X27 hx hZ e27 Va1 (hb hby d_rmle_4)).aloadN X27 hx (hb hby d_rmle_5) rfl rfl
    obtain ⟨T29, v29, L29, X29, Q29, k29⟩ := k28.virt (y := (⟨"java/lang/String", "coder", "()B"⟩ : MethodName)) (z := (⟨"java/lang/String", "coder", "()B"⟩ : MethodName)) (Wd := 1) (cells' := 0) (slots' := 0) (argsL := []) (rest := [(.int (Int32.ofNat (2 * cs.length)))]) X27 hx hZ hown (by rw [hml]; rfl) (hv 47 rfl) (hv 48 rfl) (notFace_of_selects (args := #[]) (mvT hZ (hv 50 rfl))) (hv 50 rfl) (hv 49 rfl) (hv 51 rfl) (hv 19 rfl) (hb hby d_rmle_6) (by decide) (rmco1 l Z a0 hw [] a1 cz h0 n0 Z0 O0 SCZ hcz Fc1) e27 E1 rfl rfl pd_rmle_0 rfl (Nat.le_of_eq rfl) (by decide) (by decide) rfl rfl (by decide) (by decide)
    obtain ⟨rfl, Nq29, e29q⟩ := Q29
    have N29 := Fr.app N0 Nq29
    have e29 : T29.heap = h0 := e29q
    have k29 : Go p e below m W T29 9 #[.val (.ref a1)] [(.int (1 : Int32)), (.int (Int32.ofNat (2 * cs.length)))] := k29
    have k30 : Go p e below m W T29 10 #[.val (.ref a1)] [(.int ((Int32.ofNat (2 * cs.length)) >>> ((1 : Int32) &&& 31)))] := k29.ishr X29 hx (hb hby d_rmle_9)
    have k31 : Go p e below m W T29 10 #[.val (.ref a1)] [(.int (Int32.ofNat cs.length))] := k30.cast (y := (Int32.ofNat cs.length)) (own_len1 hl)
    exact k31.ireturnI X29 hx Bd.returns (hb hby d_rmle_10) (BodyLoose.notSynchronized Bd) (by rw [e29]; exact ⟨rfl, N29, rfl⟩) (by decide) (by decide)

theorem d_rmca_0 : decode jdk_42_method_56_code 0 = .ok (.aload_n 0, 1) := by decide +kernel
theorem d_rmca_1 : decode jdk_42_method_56_code 1 = .ok (.invokevirtual 492, 3) := by decide +kernel
theorem d_rmca_4 : decode jdk_42_method_56_code 4 = .ok (.ifCond .eq 12, 3) := by decide +kernel
theorem d_rmca_7 : decode jdk_42_method_56_code 7 = .ok (.aload_n 0, 1) := by decide +kernel
theorem d_rmca_8 : decode jdk_42_method_56_code 8 = .ok (.getfield 9, 3) := by decide +kernel
theorem d_rmca_11 : decode jdk_42_method_56_code 11 = .ok (.iload_n 1, 1) := by decide +kernel
theorem d_rmca_12 : decode jdk_42_method_56_code 12 = .ok (.invokestatic 495, 3) := by decide +kernel
theorem d_rmca_15 : decode jdk_42_method_56_code 15 = .ok (.ireturn, 1) := by decide +kernel
theorem d_rmca_16 : decode jdk_42_method_56_code 16 = .ok (.aload_n 0, 1) := by decide +kernel
theorem d_rmca_17 : decode jdk_42_method_56_code 17 = .ok (.getfield 9, 3) := by decide +kernel
theorem d_rmca_20 : decode jdk_42_method_56_code 20 = .ok (.iload_n 1, 1) := by decide +kernel
theorem d_rmca_21 : decode jdk_42_method_56_code 21 = .ok (.invokestatic 498, 3) := by decide +kernel
theorem d_rmca_24 : decode jdk_42_method_56_code 24 = .ok (.ireturn, 1) := by decide +kernel
theorem pd_rmca_0 : parseMethodDescriptor "()Z" = some ⟨[], (some .boolean)⟩ := by decide +kernel
theorem ef_rmca (m : MethodId) (a1 : Addr) (jj : Int32) : entryFrame m #[(.ref a1), (.int jj)] 2 = mkF m 0 #[.val (.ref a1), .val (.int jj)] [] := by first | (simp [entryFrame, mkF, argsToLocals, Value.category]; done) | rfl
def Q_rmca (Z : State) (a1 : Addr) (jj : Int32) (cs : List Int32) (ii : Nat) (cz : Int32) (fm : Value) (h0 : Heap) (n0 : Nat) (v : Option Value) (h : Heap) (L : List Loc) : Prop := v = some (.int (cs.getD ii 0)) ∧ Fr n0 L ∧ h = h0
set_option maxRecDepth 65536 in
set_option maxHeartbeats 40000000 in
theorem rmca (l : Launch) (Z : State) (a0 : Array Value) (hw : ∀ d ∈ tables_1, d.before a0 Z = true) (ws : List Jvm.Cond) (a1 : Addr) (jj : Int32) (cs : List Int32) (ii : Nat) (cz : Int32) (fm : Value) (h0 : Heap) (n0 : Nat) (Z0 : n0 ≤ h0.size) (O0 : Old Z n0 h0) (SCZ : Sta Z Z.heap "java/lang/String" "COMPACT_STRINGS" "Z" (.int cz)) (hcz : ¬ (cz = (0 : Int32))) (hfm : fm.isRef = true) (SIO : Sta Z Z.heap "jdk/internal/util/Preconditions" "SIOOBE_FORMATTER" "Ljava/util/function/BiFunction;" fm) (SAD : Sta Z Z.heap "java/lang/StringUTF16" "$assertionsDisabled" "Z" (.int (1 : Int32))) (SHI : Sta Z Z.heap "java/lang/StringUTF16" "HI_BYTE_SHIFT" "I" (.int (0 : Int32))) (SLO : Sta Z Z.heap "java/lang/StringUTF16" "LO_BYTE_SHIFT" "I" (.int (8 : Int32))) (E1 : Exa Z h0 a1 "java/lang/String") (T1 : own_Str Z h0 a1 cs) (hjj : jj = Int32.ofNat ii) (hii : ii < cs.length) :
    MetFree l (⟨"java/lang/String", "charAt", "(I)C"⟩ : MethodName) (head1 (Jvm.Cond.code (⟨"java/lang/String", "charAt", "(I)C"⟩ : MethodName) jdk_42_method_56_code 2 (some .char) :: ws) ({ frames := 4, cells := 0, slots := 0, locals := 53 } : Room)) (fun a U => a = #[(.ref a1), (.int jj)] ∧ Z.Warmed39 U.vm ∧ U.heap = h0) (fun _ _ _ _ _ => True) (fun _ U o U' => ∃ v L, o = .returned v ∧ Q_rmca Z a1 jj cs ii cz fm h0 n0 v U'.heap L ∧ FrameEnd U o U' L ({ frames := 4, cells := 0, slots := 0, locals := 53 } : Room).cells ({ frames := 4, cells := 0, slots := 0, locals := 53 } : Room).slots) := by
  refine MetFree.of_bodySF (plainFor_of_name pn_rmci) hisR ?_
  intro p e s m args_ below meth c s₁ Bd hml0 hP hK
  obtain ⟨hargs, hZ, hh⟩ := hP
  have hx := Bd.exec
  have hby := Bd.bytes
  have hml : c.maxLocals = 2 := hml0
  have hown : s.vm.findClass "java/lang/String" = some m.cls := findClass_of_methodNamed Bd.named
  have hnm := (name_of_methodNamed Bd.named Bd.method).1
  have X0 : Stand p l e ({ frames := 4, cells := 0, slots := 0, locals := 53 } : Room) s m args_ below meth c s₁ [] 0 0 := Stand.of_body Bd
  have e0 : s₁.heap = h0 := by rw [← hh, Bd.state]; rfl
  have N0 := Fr.nil n0
  have hv : ∀ (i : Nat) {d : Jvm.Cond}, tables_1[i]? = some d → d.before a0 Z = true := fun i d q => hw d (List.mem_of_getElem? q)
  have k0 : Go p e below m (s₁.setTop (entryFrame m args_ 2)) s₁ 0 #[.val (.ref a1), .val (.int jj)] [] := by rw [hargs]; exact fun t kt => castTop (ef_rmca m a1 jj) kt
  obtain ⟨W, hWW⟩ : ∃ W, W = s₁.setTop (entryFrame m args_ 2) := ⟨_, rfl⟩
  rw [← hWW] at k0 ⊢
  show Done p e below s W (Q_rmca Z a1 jj cs ii cz fm h0 n0) ({ frames := 4, cells := 0, slots := 0, locals := 53 } : Room).cells ({ frames := 4, cells := 0, slots := 0, locals := 53 } : Room).slots
  subst hjj
  obtain ⟨hl, hr, t1, kb1, z1, cd1, vs1, Fv1, Fc1, Va1, En1⟩ := T1
  rcases En1 with ⟨rfl, rfl, rfl, hn⟩ | ⟨rfl, rfl, rfl⟩
  ·
    have k20 : Go p e below m W s₁ 1 #[.val (.ref a1), .val (.int (Int32.ofNat ii))] [(.ref a1)] := k0.aloadN X0 hx (hb hby d_rmca_0) rfl rfl
    obtain ⟨T21, v21, L21, X21, Q21, k21⟩ := k20.virt (y := (⟨"java/lang/String", "isLatin1", "()Z"⟩ : MethodName)) (z := (⟨"java/lang/String", "isLatin1", "()Z"⟩ : MethodName)) (Wd := 0) (cells' := 0) (slots' := 0) (argsL := []) (rest := []) X0 hx hZ hown (by rw [hml]; rfl) (hv 83 rfl) (hv 84 rfl) (notFace_of_selects (args := #[]) (mvT hZ (hv 86 rfl))) (hv 86 rfl) (hv 85 rfl) (hv 87 rfl) (hv 19 rfl) (hb hby d_rmca_1) (by decide) (rmil0 l Z a0 hw [] a1 cz h0 n0 Z0 O0 SCZ hcz Fc1) e0 E1 rfl rfl pd_rmca_0 rfl (Nat.le_of_eq rfl) (by decide) (by decide) rfl rfl (by decide) (by decide)
    obtain ⟨rfl, Nq21, e21q⟩ := Q21
    have N21 := Fr.app N0 Nq21
    have e21 : T21.heap = h0 := e21q
    have k21 : Go p e below m W T21 4 #[.val (.ref a1), .val (.int (Int32.ofNat ii))] [(.int (1 : Int32))] := k21
    have k22 : Go p e below m W T21 8 #[.val (.ref a1), .val (.int (Int32.ofNat ii))] [(.ref a1)] := (k21.ifNo X21 hx (hb hby d_rmca_4) (XT.i0_eq_f (by decide))).aloadN X21 hx (hb hby d_rmca_7) rfl rfl
    obtain ⟨T23, X23, e23, k23⟩ := k22.getF X21 hx hZ hown (host := "") (Or.inl (hv 36 rfl)) Via.refl e21 Fv1 (hb hby d_rmca_8)
    have k23 : Go p e below m W T23 11 #[.val (.ref a1), .val (.int (Int32.ofNat ii))] [(.ref t1)] := k23
    have k24 : Go p e below m W T23 12 #[.val (.ref a1), .val (.int (Int32.ofNat ii))] [(.int (Int32.ofNat ii)), (.ref t1)] := k23.iloadN X23 hx (hb hby d_rmca_11) rfl
    obtain ⟨T25, v25, L25, X25, Q25, k25⟩ := k24.stat (y := (⟨"java/lang/StringLatin1", "charAt", "([BI)C"⟩ : MethodName)) (Wd := 0) (cells' := 0) (slots' := 0) (argsL := [(.ref t1), (.int (Int32.ofNat ii))]) (rest := []) X23 hx hZ hown (by rw [hml]; rfl) (hv 88 rfl) (hv 89 rfl) (hv 91 rfl) (hv 90 rfl) (hb hby d_rmca_12) (by decide) (rmlc l Z a0 hw [] t1 (Int32.ofNat ii) kb1 (Int32.ofNat cs.length) (own_lm cs) cs.length ii (cs.getD ii 0).toInt8.toInt32 (cs.getD ii 0) fm h0 n0 Z0 O0 hfm SIO Va1 (own_lx hl hii).1 (own_lx hl hii).2.1 (own_lx hl hii).2.2.1 hii (own_getL hii) (own_lx hl hii).2.2.2 (own_latc (own_rkg hr hii) (hn _ (own_memg hii))) (own_rkg hr hii)) e23 rfl rfl pd_rmua_1 rfl (Nat.le_of_eq rfl) (by decide) (by decide) rfl rfl (by decide) (by decide)
    obtain ⟨rfl, Nq25, e25q⟩ := Q25
    have N25 := Fr.app N21 Nq25
    have e25 : T25.heap = h0 := e25q
    have k25 : Go p e below m W T25 15 #[.val (.ref a1), .val (.int (Int32.ofNat ii))] [(.int (cs.getD ii 0))] := k25
    exact k25.ireturnN X25 hx (t := .char) Bd.returns (by simp) (own_narr (own_rkg hr hii)) (hb hby d_rmca_15) (BodyLoose.notSynchronized Bd) (by rw [e25]; exact ⟨rfl, N25, rfl⟩) (by decide) (by decide)
  ·
    have k26 : Go p e below m W s₁ 1 #[.val (.ref a1), .val (.int (Int32.ofNat ii))] [(.ref a1)] := k0.aloadN X0 hx (hb hby d_rmca_0) rfl rfl
    obtain ⟨T27, v27, L27, X27, Q27, k27⟩ := k26.virt (y := (⟨"java/lang/String", "isLatin1", "()Z"⟩ : MethodName)) (z := (⟨"java/lang/String", "isLatin1", "()Z"⟩ : MethodName)) (Wd := 0) (cells' := 0) (slots' := 0) (argsL := []) (rest := []) X0 hx hZ hown (by rw [hml]; rfl) (hv 83 rfl) (hv 84 rfl) (notFace_of_selects (args := #[]) (mvT hZ (hv 86 rfl))) (hv 86 rfl) (hv 85 rfl) (hv 87 rfl) (hv 19 rfl) (hb hby d_rmca_1) (by decide) (rmil1 l Z a0 hw [] a1 cz h0 n0 Z0 O0 SCZ hcz Fc1) e0 E1 rfl rfl pd_rmca_0 rfl (Nat.le_of_eq rfl) (by decide) (by decide) rfl rfl (by decide) (by decide)
    obtain ⟨rfl, Nq27, e27q⟩ := Q27
    have N27 := Fr.app N0 Nq27
    have e27 : T27.heap = h0 := e27q
    have k27 : Go p e below m W T27 4 #[.val (.ref a1), .val (.int (Int32.ofNat ii))] [(.int (0 : Int32))] := k27
    have k28 : Go p e below m W T27 17 #[.val (.ref a1), .val (.int (Int32.ofNat ii))] [(.ref a1)] := (k27.ifYes X27 hx (hb hby d_rmca_4) (XT.i0_eq_t (by decide)) (by decide) (by decide)).aloadN X27 hx (hb hby d_rmca_16) rfl rfl
    obtain ⟨T29, X29, e29, k29⟩ := k28.getF X27 hx hZ hown (host := "") (Or.inl (hv 36 rfl)) Via.refl e27 Fv1 (hb hby d_rmca_17)
    have k29 : Go p e below m W T29 20 #[.val (.ref a1), .val (.int (Int32.ofNat ii))] [(.ref t1)] := k29
    have k30 : Go p e below m W T29 21 #[.val (.ref a1), .val (.int (Int32.ofNat ii))] [(.int (Int32.ofNat ii)), (.ref t1)] := k29.iloadN X29 hx (hb hby d_rmca_20) rfl
    obtain ⟨T31, v31, L31, X31, Q31, k31⟩ := k30.stat (y := (⟨"java/lang/StringUTF16", "charAt", "([BI)C"⟩ : MethodName)) (Wd := 0) (cells' := 0) (slots' := 0) (argsL := [(.ref t1), (.int (Int32.ofNat ii))]) (rest := []) X29 hx hZ hown (by rw [hml]; rfl) (hv 128 rfl) (hv 129 rfl) (hv 130 rfl) (hv 70 rfl) (hb hby d_rmca_21) (by decide) (rmua l Z a0 hw [] t1 (Int32.ofNat ii) kb1 (Int32.ofNat (2 * cs.length)) (own_fm cs) (2 * cs.length) (2 * ii) (own_b0 (cs.getD ii 0)) (own_b1 (cs.getD ii 0)) (cs.getD ii 0) fm h0 n0 Z0 O0 hfm SIO SAD SHI SLO Va1 (own_ux hl hii).1 (own_ux hl hii).2.1 (own_ux hl hii).2.2.1 (by omega) (own_getU cs ii hii).1 (own_ux hl hii).2.2.2.1 (own_ux hl hii).2.2.2.2.1 (by omega) (own_getU cs ii hii).2 (own_chr (own_rkg hr hii)) (own_rkg hr hii) (own_ux hl hii).2.2.2.2.2.1 (own_ux hl hii).2.2.2.2.2.2) e29 rfl rfl pd_rmua_1 rfl (Nat.le_of_eq rfl) (by decide) (by decide) rfl rfl (by decide) (by decide)
    obtain ⟨rfl, Nq31, e31q⟩ := Q31
    have N31 := Fr.app N27 Nq31
    have e31 : T31.heap = h0 := e31q
    have k31 : Go p e below m W T31 24 #[.val (.ref a1), .val (.int (Int32.ofNat ii))] [(.int (cs.getD ii 0))] := k31
    exact k31.ireturnN X31 hx (t := .char) Bd.returns (by simp) (own_narr (own_rkg hr hii)) (hb hby d_rmca_24) (BodyLoose.notSynchronized Bd) (by rw [e31]; exact ⟨rfl, N31, rfl⟩) (by decide) (by decide)

theorem d_rmcm_0 : decode prog_27_method_2_code 0 = .ok (.aload_n 0, 1) := by decide +kernel
theorem d_rmcm_1 : decode prog_27_method_2_code 1 = .ok (.invokevirtual 7, 3) := by decide +kernel
theorem d_rmcm_4 : decode prog_27_method_2_code 4 = .ok (.aload_n 1, 1) := by decide +kernel
theorem d_rmcm_5 : decode prog_27_method_2_code 5 = .ok (.invokevirtual 7, 3) := by decide +kernel
theorem d_rmcm_8 : decode prog_27_method_2_code 8 = .ok (.invokestatic 13, 3) := by decide +kernel
theorem d_rmcm_11 : decode prog_27_method_2_code 11 = .ok (.istore_n 2, 1) := by decide +kernel
theorem d_rmcm_12 : decode prog_27_method_2_code 12 = .ok (.iconst 0, 1) := by decide +kernel
theorem d_rmcm_13 : decode prog_27_method_2_code 13 = .ok (.istore_n 3, 1) := by decide +kernel
theorem d_rmcm_14 : decode prog_27_method_2_code 14 = .ok (.iload_n 3, 1) := by decide +kernel
theorem d_rmcm_15 : decode prog_27_method_2_code 15 = .ok (.iload_n 2, 1) := by decide +kernel
theorem d_rmcm_16 : decode prog_27_method_2_code 16 = .ok (.if_icmp .ge 44, 3) := by decide +kernel
theorem d_rmcm_19 : decode prog_27_method_2_code 19 = .ok (.aload_n 0, 1) := by decide +kernel
theorem d_rmcm_20 : decode prog_27_method_2_code 20 = .ok (.iload_n 3, 1) := by decide +kernel
theorem d_rmcm_21 : decode prog_27_method_2_code 21 = .ok (.invokevirtual 19, 3) := by decide +kernel
theorem d_rmcm_24 : decode prog_27_method_2_code 24 = .ok (.istore 4, 2) := by decide +kernel
theorem d_rmcm_26 : decode prog_27_method_2_code 26 = .ok (.aload_n 1, 1) := by decide +kernel
theorem d_rmcm_27 : decode prog_27_method_2_code 27 = .ok (.iload_n 3, 1) := by decide +kernel
theorem d_rmcm_28 : decode prog_27_method_2_code 28 = .ok (.invokevirtual 19, 3) := by decide +kernel
theorem d_rmcm_31 : decode prog_27_method_2_code 31 = .ok (.istore 5, 2) := by decide +kernel
theorem d_rmcm_33 : decode prog_27_method_2_code 33 = .ok (.iload 4, 2) := by decide +kernel
theorem d_rmcm_35 : decode prog_27_method_2_code 35 = .ok (.iload 5, 2) := by decide +kernel
theorem d_rmcm_37 : decode prog_27_method_2_code 37 = .ok (.if_icmp .eq 17, 3) := by decide +kernel
theorem d_rmcm_40 : decode prog_27_method_2_code 40 = .ok (.iload 4, 2) := by decide +kernel
theorem d_rmcm_42 : decode prog_27_method_2_code 42 = .ok (.invokestatic 23, 3) := by decide +kernel
theorem d_rmcm_45 : decode prog_27_method_2_code 45 = .ok (.iload 5, 2) := by decide +kernel
theorem d_rmcm_47 : decode prog_27_method_2_code 47 = .ok (.invokestatic 23, 3) := by decide +kernel
theorem d_rmcm_50 : decode prog_27_method_2_code 50 = .ok (.invokestatic 29, 3) := by decide +kernel
theorem d_rmcm_53 : decode prog_27_method_2_code 53 = .ok (.ireturn, 1) := by decide +kernel
theorem d_rmcm_54 : decode prog_27_method_2_code 54 = .ok (.iinc 3 1, 3) := by decide +kernel
theorem d_rmcm_57 : decode prog_27_method_2_code 57 = .ok (.goto (-43), 3) := by decide +kernel
theorem d_rmcm_60 : decode prog_27_method_2_code 60 = .ok (.aload_n 0, 1) := by decide +kernel
theorem d_rmcm_61 : decode prog_27_method_2_code 61 = .ok (.invokevirtual 7, 3) := by decide +kernel
theorem d_rmcm_64 : decode prog_27_method_2_code 64 = .ok (.aload_n 1, 1) := by decide +kernel
theorem d_rmcm_65 : decode prog_27_method_2_code 65 = .ok (.invokevirtual 7, 3) := by decide +kernel
theorem d_rmcm_68 : decode prog_27_method_2_code 68 = .ok (.invokestatic 29, 3) := by decide +kernel
theorem d_rmcm_71 : decode prog_27_method_2_code 71 = .ok (.ireturn, 1) := by decide +kernel
theorem pd_rmcm_0 : parseMethodDescriptor "()I" = some ⟨[], (some .int)⟩ := by decide +kernel
theorem pd_rmcm_1 : parseMethodDescriptor "(II)I" = some ⟨[.int, .int], (some .int)⟩ := by decide +kernel
theorem pd_rmcm_2 : parseMethodDescriptor "(I)C" = some ⟨[.int], (some .char)⟩ := by decide +kernel
theorem pd_rmcm_3 : parseMethodDescriptor "(C)I" = some ⟨[.char], (some .int)⟩ := by decide +kernel
theorem ef_rmcm (m : MethodId) (a1 : Addr) (a2 : Addr) : entryFrame m #[(.ref a1), (.ref a2)] 6 = mkF m 0 #[.val (.ref a1), .val (.ref a2), .unset, .unset, .unset, .unset] [] := by first | (simp [entryFrame, mkF, argsToLocals, Value.category]; done) | rfl
def Q_rmcm (Z : State) (a1 : Addr) (a2 : Addr) (cs : List Int32) (ds : List Int32) (cz : Int32) (fm : Value) (h0 : Heap) (n0 : Nat) (v : Option Value) (h : Heap) (L : List Loc) : Prop := v = some (.int (own_cmpL cs ds)) ∧ Fr n0 L ∧ h = h0
set_option maxRecDepth 65536 in
set_option maxHeartbeats 40000000 in
theorem rmcm (l : Launch) (Z : State) (a0 : Array Value) (hw : ∀ d ∈ tables_1, d.before a0 Z = true) (ws : List Jvm.Cond) (a1 : Addr) (a2 : Addr) (cs : List Int32) (ds : List Int32) (cz : Int32) (fm : Value) (h0 : Heap) (n0 : Nat) (Z0 : n0 ≤ h0.size) (O0 : Old Z n0 h0) (SCZ : Sta Z Z.heap "java/lang/String" "COMPACT_STRINGS" "Z" (.int cz)) (hcz : ¬ (cz = (0 : Int32))) (hfm : fm.isRef = true) (SIO : Sta Z Z.heap "jdk/internal/util/Preconditions" "SIOOBE_FORMATTER" "Ljava/util/function/BiFunction;" fm) (SAD : Sta Z Z.heap "java/lang/StringUTF16" "$assertionsDisabled" "Z" (.int (1 : Int32))) (SHI : Sta Z Z.heap "java/lang/StringUTF16" "HI_BYTE_SHIFT" "I" (.int (0 : Int32))) (SLO : Sta Z Z.heap "java/lang/StringUTF16" "LO_BYTE_SHIFT" "I" (.int (8 : Int32))) (E1 : Exa Z h0 a1 "java/lang/String") (E2 : Exa Z h0 a2 "java/lang/String") (T1 : own_Str Z h0 a1 cs) (T2 : own_Str Z h0 a2 ds) :
    MetFree l (⟨"com/example/promovent/promovent/library/CodePoints", "compare", "(Ljava/lang/String;Ljava/lang/String;)I"⟩ : MethodName) (head1 (Jvm.Cond.code (⟨"com/example/promovent/promovent/library/CodePoints", "compare", "(Ljava/lang/String;Ljava/lang/String;)I"⟩ : MethodName) prog_27_method_2_code 6 (some .int) :: ws) ({ frames := 5, cells := 0, slots := 0, locals := 66 } : Room)) (fun a U => a = #[(.ref a1), (.ref a2)] ∧ Z.Warmed39 U.vm ∧ U.heap = h0) (fun _ _ _ _ _ => True) (fun _ U o U' => ∃ v L, o = .returned v ∧ Q_rmcm Z a1 a2 cs ds cz fm h0 n0 v U'.heap L ∧ FrameEnd U o U' L ({ frames := 5, cells := 0, slots := 0, locals := 66 } : Room).cells ({ frames := 5, cells := 0, slots := 0, locals := 66 } : Room).slots) := by
  refine MetFree.of_bodySF (plainFor_of_name pn_rmrk) hisR ?_
  intro p e s m args_ below meth c s₁ Bd hml0 hP hK
  obtain ⟨hargs, hZ, hh⟩ := hP
  have hx := Bd.exec
  have hby := Bd.bytes
  have hml : c.maxLocals = 6 := hml0
  have hown : s.vm.findClass "com/example/promovent/promovent/library/CodePoints" = some m.cls := findClass_of_methodNamed Bd.named
  have hnm := (name_of_methodNamed Bd.named Bd.method).1
  have X0 : Stand p l e ({ frames := 5, cells := 0, slots := 0, locals := 66 } : Room) s m args_ below meth c s₁ [] 0 0 := Stand.of_body Bd
  have e0 : s₁.heap = h0 := by rw [← hh, Bd.state]; rfl
  have N0 := Fr.nil n0
  have hv : ∀ (i : Nat) {d : Jvm.Cond}, tables_1[i]? = some d → d.before a0 Z = true := fun i d q => hw d (List.mem_of_getElem? q)
  have k0 : Go p e below m (s₁.setTop (entryFrame m args_ 6)) s₁ 0 #[.val (.ref a1), .val (.ref a2), .unset, .unset, .unset, .unset] [] := by rw [hargs]; exact fun t kt => castTop (ef_rmcm m a1 a2) kt
  obtain ⟨W, hWW⟩ : ∃ W, W = s₁.setTop (entryFrame m args_ 6) := ⟨_, rfl⟩
  rw [← hWW] at k0 ⊢
  show Done p e below s W (Q_rmcm Z a1 a2 cs ds cz fm h0 n0) ({ frames := 5, cells := 0, slots := 0, locals := 66 } : Room).cells ({ frames := 5, cells := 0, slots := 0, locals := 66 } : Room).slots
  have k20 : Go p e below m W s₁ 1 #[.val (.ref a1), .val (.ref a2), .unset, .unset, .unset, .unset] [(.ref a1)] := k0.aloadN X0 hx (hb hby d_rmcm_0) rfl rfl
  obtain ⟨T21, v21, L21, X21, Q21, k21⟩ := k20.virt (y := (⟨"java/lang/String", "length", "()I"⟩ : MethodName)) (z := (⟨"java/lang/String", "length", "()I"⟩ : MethodName)) (Wd := 0) (cells' := 0) (slots' := 0) (argsL := []) (rest := []) X0 hx hZ hown (by rw [hml]; rfl) (hv 42 rfl) (hv 43 rfl) (notFace_of_selects (args := #[]) (mvT hZ (hv 45 rfl))) (hv 45 rfl) (hv 44 rfl) (hv 46 rfl) (hv 19 rfl) (hb hby d_rmcm_1) (by decide) (rmle l Z a0 hw [] a1 cs cz h0 n0 Z0 O0 SCZ hcz E1 T1) e0 E1 rfl rfl pd_rmcm_0 rfl (Nat.le_of_eq rfl) (by decide) (by decide) rfl rfl (by decide) (by decide)
  obtain ⟨rfl, Nq21, e21q⟩ := Q21
  have N21 := Fr.app N0 Nq21
  have e21 : T21.heap = h0 := e21q
  have k21 : Go p e below m W T21 4 #[.val (.ref a1), .val (.ref a2), .unset, .unset, .unset, .unset] [(.int (Int32.ofNat cs.length))] := k21
  have k22 : Go p e below m W T21 5 #[.val (.ref a1), .val (.ref a2), .unset, .unset, .unset, .unset] [(.ref a2), (.int (Int32.ofNat cs.length))] := k21.aloadN X21 hx (hb hby d_rmcm_4) rfl rfl
  obtain ⟨T23, v23, L23, X23, Q23, k23⟩ := k22.virt (y := (⟨"java/lang/String", "length", "()I"⟩ : MethodName)) (z := (⟨"java/lang/String", "length", "()I"⟩ : MethodName)) (Wd := 1) (cells' := 0) (slots' := 0) (argsL := []) (rest := [(.int (Int32.ofNat cs.length))]) X21 hx hZ hown (by rw [hml]; rfl) (hv 42 rfl) (hv 43 rfl) (notFace_of_selects (args := #[]) (mvT hZ (hv 45 rfl))) (hv 45 rfl) (hv 44 rfl) (hv 46 rfl) (hv 19 rfl) (hb hby d_rmcm_5) (by decide) (rmle l Z a0 hw [] a2 ds cz h0 n0 Z0 O0 SCZ hcz E2 T2) e21 E2 rfl rfl pd_rmcm_0 rfl (Nat.le_of_eq rfl) (by decide) (by decide) rfl rfl (by decide) (by decide)
  obtain ⟨rfl, Nq23, e23q⟩ := Q23
  have N23 := Fr.app N21 Nq23
  have e23 : T23.heap = h0 := e23q
  have k23 : Go p e below m W T23 8 #[.val (.ref a1), .val (.ref a2), .unset, .unset, .unset, .unset] [(.int (Int32.ofNat ds.length)), (.int (Int32.ofNat cs.length))] := k23
  obtain ⟨T24, v24, L24, X24, Q24, k24⟩ := k23.stat (y := (⟨"java/lang/Math", "min", "(II)I"⟩ : MethodName)) (Wd := 0) (cells' := 0) (slots' := 0) (argsL := [(.int (Int32.ofNat cs.length)), (.int (Int32.ofNat ds.length))]) (rest := []) X23 hx hZ hown (by rw [hml]; rfl) (hv 53 rfl) (hv 54 rfl) (hv 56 rfl) (hv 55 rfl) (hb hby d_rmcm_8) (by decide) (rmmin l Z a0 hw [] (Int32.ofNat cs.length) (Int32.ofNat ds.length) h0 n0 Z0) e23 rfl rfl pd_rmcm_1 rfl (Nat.le_of_eq rfl) (by decide) (by decide) rfl rfl (by decide) (by decide)
  obtain ⟨rfl, Nq24, e24q⟩ := Q24
  have N24 := Fr.app N23 Nq24
  have e24 : T24.heap = h0 := e24q
  have k24 : Go p e below m W T24 11 #[.val (.ref a1), .val (.ref a2), .unset, .unset, .unset, .unset] [(.int (own_min (Int32.ofNat cs.length) (Int32.ofNat ds.length)))] := k24
  have k25 : Go p e below m W T24 12 #[.val (.ref a1), .val (.ref a2), .val (.int (own_min (Int32.ofNat cs.length) (Int32.ofNat ds.length))), .unset, .unset, .unset] [] := k24.istoreN X24 hx (hb hby d_rmcm_11) rfl
  have k26 : Go p e below m W T24 14 #[.val (.ref a1), .val (.ref a2), .val (.int (own_min (Int32.ofNat cs.length) (Int32.ofNat ds.length))), .val (.int (0 : Int32)), .unset, .unset] [] := (k25.iconst X24 hx (hb hby d_rmcm_12) (v := (0 : Int32)) rfl).istoreN X24 hx (hb hby d_rmcm_13) rfl
  have inv0 := own_inv0 cs ds
  have k27 : Go p e below m W T24 16 #[.val (.ref a1), .val (.ref a2), .val (.int (own_min (Int32.ofNat cs.length) (Int32.ofNat ds.length))), .val (.int (0 : Int32)), .unset, .unset] [(.int (own_min (Int32.ofNat cs.length) (Int32.ofNat ds.length))), (.int (0 : Int32))] := (k26.iloadN X24 hx (hb hby d_rmcm_14) rfl).iloadN X24 hx (hb hby d_rmcm_15) rfl
  by_cases hc16_28 : (0 : Int32) < (own_min (Int32.ofNat cs.length) (Int32.ofNat ds.length))
  ·
    have k29 : Go p e below m W T24 19 #[.val (.ref a1), .val (.ref a2), .val (.int (own_min (Int32.ofNat cs.length) (Int32.ofNat ds.length))), .val (.int (0 : Int32)), .unset, .unset] [] := k27.icmpNo X24 hx (hb hby d_rmcm_16) (XT.ii_ge_f hc16_28)
    have hb0 : 0 < cs.length ∧ 0 < ds.length := (own_min4 (k := 0) T1.1 T2.1 (by decide)).mp hc16_28
    have k30 : Go p e below m W T24 21 #[.val (.ref a1), .val (.ref a2), .val (.int (own_min (Int32.ofNat cs.length) (Int32.ofNat ds.length))), .val (.int (0 : Int32)), .unset, .unset] [(.int (0 : Int32)), (.ref a1)] := (k29.aloadN X24 hx (hb hby d_rmcm_19) rfl rfl).iloadN X24 hx (hb hby d_rmcm_20) rfl
    obtain ⟨T31, v31, L31, X31, Q31, k31⟩ := k30.virt (y := (⟨"java/lang/String", "charAt", "(I)C"⟩ : MethodName)) (z := (⟨"java/lang/String", "charAt", "(I)C"⟩ : MethodName)) (Wd := 0) (cells' := 0) (slots' := 0) (argsL := [(.int (0 : Int32))]) (rest := []) X24 hx hZ hown (by rw [hml]; rfl) (hv 78 rfl) (hv 79 rfl) (notFace_of_selects (args := #[]) (mvT hZ (hv 81 rfl))) (hv 81 rfl) (hv 80 rfl) (hv 82 rfl) (hv 19 rfl) (hb hby d_rmcm_21) (by decide) (rmca l Z a0 hw [] a1 (0 : Int32) cs 0 cz fm h0 n0 Z0 O0 SCZ hcz hfm SIO SAD SHI SLO E1 T1 rfl hb0.1) e24 E1 rfl rfl pd_rmcm_2 rfl (Nat.le_of_eq rfl) (by decide) (by decide) rfl rfl (by decide) (by decide)
    obtain ⟨rfl, Nq31, e31q⟩ := Q31
    have N31 := Fr.app N24 Nq31
    have e31 : T31.heap = h0 := e31q
    have k31 : Go p e below m W T31 24 #[.val (.ref a1), .val (.ref a2), .val (.int (own_min (Int32.ofNat cs.length) (Int32.ofNat ds.length))), .val (.int (0 : Int32)), .unset, .unset] [(.int (cs.getD 0 0))] := k31
    have k32 : Go p e below m W T31 26 #[.val (.ref a1), .val (.ref a2), .val (.int (own_min (Int32.ofNat cs.length) (Int32.ofNat ds.length))), .val (.int (0 : Int32)), .val (.int (cs.getD 0 0)), .unset] [] := k31.istore X31 hx (hb hby d_rmcm_24) rfl
    have k33 : Go p e below m W T31 28 #[.val (.ref a1), .val (.ref a2), .val (.int (own_min (Int32.ofNat cs.length) (Int32.ofNat ds.length))), .val (.int (0 : Int32)), .val (.int (cs.getD 0 0)), .unset] [(.int (0 : Int32)), (.ref a2)] := (k32.aloadN X31 hx (hb hby d_rmcm_26) rfl rfl).iloadN X31 hx (hb hby d_rmcm_27) rfl
    obtain ⟨T34, v34, L34, X34, Q34, k34⟩ := k33.virt (y := (⟨"java/lang/String", "charAt", "(I)C"⟩ : MethodName)) (z := (⟨"java/lang/String", "charAt", "(I)C"⟩ : MethodName)) (Wd := 0) (cells' := 0) (slots' := 0) (argsL := [(.int (0 : Int32))]) (rest := []) X31 hx hZ hown (by rw [hml]; rfl) (hv 78 rfl) (hv 79 rfl) (notFace_of_selects (args := #[]) (mvT hZ (hv 81 rfl))) (hv 81 rfl) (hv 80 rfl) (hv 82 rfl) (hv 19 rfl) (hb hby d_rmcm_28) (by decide) (rmca l Z a0 hw [] a2 (0 : Int32) ds 0 cz fm h0 n0 Z0 O0 SCZ hcz hfm SIO SAD SHI SLO E2 T2 rfl hb0.2) e31 E2 rfl rfl pd_rmcm_2 rfl (Nat.le_of_eq rfl) (by decide) (by decide) rfl rfl (by decide) (by decide)
    obtain ⟨rfl, Nq34, e34q⟩ := Q34
    have N34 := Fr.app N31 Nq34
    have e34 : T34.heap = h0 := e34q
    have k34 : Go p e below m W T34 31 #[.val (.ref a1), .val (.ref a2), .val (.int (own_min (Int32.ofNat cs.length) (Int32.ofNat ds.length))), .val (.int (0 : Int32)), .val (.int (cs.getD 0 0)), .unset] [(.int (ds.getD 0 0))] := k34
    have k35 : Go p e below m W T34 33 #[.val (.ref a1), .val (.ref a2), .val (.int (own_min (Int32.ofNat cs.length) (Int32.ofNat ds.length))), .val (.int (0 : Int32)), .val (.int (cs.getD 0 0)), .val (.int (ds.getD 0 0))] [] := k34.istore X34 hx (hb hby d_rmcm_31) rfl
    have k36 : Go p e below m W T34 37 #[.val (.ref a1), .val (.ref a2), .val (.int (own_min (Int32.ofNat cs.length) (Int32.ofNat ds.length))), .val (.int (0 : Int32)), .val (.int (cs.getD 0 0)), .val (.int (ds.getD 0 0))] [(.int (ds.getD 0 0)), (.int (cs.getD 0 0))] := (k35.iload X34 hx (hb hby d_rmcm_33) rfl).iload X34 hx (hb hby d_rmcm_35) rfl
    by_cases hc37_37 : (cs.getD 0 0) = (ds.getD 0 0)
    ·
      have k38 : Go p e below m W T34 54 #[.val (.ref a1), .val (.ref a2), .val (.int (own_min (Int32.ofNat cs.length) (Int32.ofNat ds.length))), .val (.int (0 : Int32)), .val (.int (cs.getD 0 0)), .val (.int (ds.getD 0 0))] [] := k36.icmpYes X34 hx (hb hby d_rmcm_37) (XT.ii_eq_t hc37_37) (by decide) (by decide)
      have inv1 : own_Inv 1 cs ds := own_next inv0 hb0.1 hb0.2 hc37_37
      have k39 : Go p e below m W T34 57 #[.val (.ref a1), .val (.ref a2), .val (.int (own_min (Int32.ofNat cs.length) (Int32.ofNat ds.length))), .val (.int (1 : Int32)), .val (.int (cs.getD 0 0)), .val (.int (ds.getD 0 0))] [] := k38.iinc X34 hx (hb hby d_rmcm_54) (v := (1 : Int32)) rfl rfl rfl
      have k40 : Go p e below m W T34 14 #[.val (.ref a1), .val (.ref a2), .val (.int (own_min (Int32.ofNat cs.length) (Int32.ofNat ds.length))), .val (.int (1 : Int32)), .val (.int (cs.getD 0 0)), .val (.int (ds.getD 0 0))] [] := k39.goto X34 hx (hb hby d_rmcm_57) (by decide) (by decide)
      have k41 : Go p e below m W T34 16 #[.val (.ref a1), .val (.ref a2), .val (.int (own_min (Int32.ofNat cs.length) (Int32.ofNat ds.length))), .val (.int (1 : Int32)), .val (.int (cs.getD 0 0)), .val (.int (ds.getD 0 0))] [(.int (own_min (Int32.ofNat cs.length) (Int32.ofNat ds.length))), (.int (1 : Int32))] := (k40.iloadN X34 hx (hb hby d_rmcm_14) rfl).iloadN X34 hx (hb hby d_rmcm_15) rfl
      by_cases hc16_42 : (1 : Int32) < (own_min (Int32.ofNat cs.length) (Int32.ofNat ds.length))
      ·
        have k43 : Go p e below m W T34 19 #[.val (.ref a1), .val (.ref a2), .val (.int (own_min (Int32.ofNat cs.length) (Int32.ofNat ds.length))), .val (.int (1 : Int32)), .val (.int (cs.getD 0 0)), .val (.int (ds.getD 0 0))] [] := k41.icmpNo X34 hx (hb hby d_rmcm_16) (XT.ii_ge_f hc16_42)
        have hb1 : 1 < cs.length ∧ 1 < ds.length := (own_min4 (k := 1) T1.1 T2.1 (by decide)).mp hc16_42
        have k44 : Go p e below m W T34 21 #[.val (.ref a1), .val (.ref a2), .val (.int (own_min (Int32.ofNat cs.length) (Int32.ofNat ds.length))), .val (.int (1 : Int32)), .val (.int (cs.getD 0 0)), .val (.int (ds.getD 0 0))] [(.int (1 : Int32)), (.ref a1)] := (k43.aloadN X34 hx (hb hby d_rmcm_19) rfl rfl).iloadN X34 hx (hb hby d_rmcm_20) rfl
        obtain ⟨T45, v45, L45, X45, Q45, k45⟩ := k44.virt (y := (⟨"java/lang/String", "charAt", "(I)C"⟩ : MethodName)) (z := (⟨"java/lang/String", "charAt", "(I)C"⟩ : MethodName)) (Wd := 0) (cells' := 0) (slots' := 0) (argsL := [(.int (1 : Int32))]) (rest := []) X34 hx hZ hown (by rw [hml]; rfl) (hv 78 rfl) (hv 79 rfl) (notFace_of_selects (args := #[]) (mvT hZ (hv 81 rfl))) (hv 81 rfl) (hv 80 rfl) (hv 82 rfl) (hv 19 rfl) (hb hby d_rmcm_21) (by decide) (rmca l Z a0 hw [] a1 (1 : Int32) cs 1 cz fm h0 n0 Z0 O0 SCZ hcz hfm SIO SAD SHI SLO E1 T1 rfl hb1.1) e34 E1 rfl rfl pd_rmcm_2 rfl (Nat.le_of_eq rfl) (by decide) (by decide) rfl rfl (by decide) (by decide)
        obtain ⟨rfl, Nq45, e45q⟩ := Q45
        have N45 := Fr.app N34 Nq45
        have e45 : T45.heap = h0 := e45q
        have k45 : Go p e below m W T45 24 #[.val (.ref a1), .val (.ref a2), .val (.int (own_min (Int32.ofNat cs.length) (Int32.ofNat ds.length))), .val (.int (1 : Int32)), .val (.int (cs.getD 0 0)), .val (.int (ds.getD 0 0))] [(.int (cs.getD 1 0))] := k45
        have k46 : Go p e below m W T45 26 #[.val (.ref a1), .val (.ref a2), .val (.int (own_min (Int32.ofNat cs.length) (Int32.ofNat ds.length))), .val (.int (1 : Int32)), .val (.int (cs.getD 1 0)), .val (.int (ds.getD 0 0))] [] := k45.istore X45 hx (hb hby d_rmcm_24) rfl
        have k47 : Go p e below m W T45 28 #[.val (.ref a1), .val (.ref a2), .val (.int (own_min (Int32.ofNat cs.length) (Int32.ofNat ds.length))), .val (.int (1 : Int32)), .val (.int (cs.getD 1 0)), .val (.int (ds.getD 0 0))] [(.int (1 : Int32)), (.ref a2)] := (k46.aloadN X45 hx (hb hby d_rmcm_26) rfl rfl).iloadN X45 hx (hb hby d_rmcm_27) rfl
        obtain ⟨T48, v48, L48, X48, Q48, k48⟩ := k47.virt (y := (⟨"java/lang/String", "charAt", "(I)C"⟩ : MethodName)) (z := (⟨"java/lang/String", "charAt", "(I)C"⟩ : MethodName)) (Wd := 0) (cells' := 0) (slots' := 0) (argsL := [(.int (1 : Int32))]) (rest := []) X45 hx hZ hown (by rw [hml]; rfl) (hv 78 rfl) (hv 79 rfl) (notFace_of_selects (args := #[]) (mvT hZ (hv 81 rfl))) (hv 81 rfl) (hv 80 rfl) (hv 82 rfl) (hv 19 rfl) (hb hby d_rmcm_28) (by decide) (rmca l Z a0 hw [] a2 (1 : Int32) ds 1 cz fm h0 n0 Z0 O0 SCZ hcz hfm SIO SAD SHI SLO E2 T2 rfl hb1.2) e45 E2 rfl rfl pd_rmcm_2 rfl (Nat.le_of_eq rfl) (by decide) (by decide) rfl rfl (by decide) (by decide)
        obtain ⟨rfl, Nq48, e48q⟩ := Q48
        have N48 := Fr.app N45 Nq48
        have e48 : T48.heap = h0 := e48q
        have k48 : Go p e below m W T48 31 #[.val (.ref a1), .val (.ref a2), .val (.int (own_min (Int32.ofNat cs.length) (Int32.ofNat ds.length))), .val (.int (1 : Int32)), .val (.int (cs.getD 1 0)), .val (.int (ds.getD 0 0))] [(.int (ds.getD 1 0))] := k48
        have k49 : Go p e below m W T48 33 #[.val (.ref a1), .val (.ref a2), .val (.int (own_min (Int32.ofNat cs.length) (Int32.ofNat ds.length))), .val (.int (1 : Int32)), .val (.int (cs.getD 1 0)), .val (.int (ds.getD 1 0))] [] := k48.istore X48 hx (hb hby d_rmcm_31) rfl
        have k50 : Go p e below m W T48 37 #[.val (.ref a1), .val (.ref a2), .val (.int (own_min (Int32.ofNat cs.length) (Int32.ofNat ds.length))), .val (.int (1 : Int32)), .val (.int (cs.getD 1 0)), .val (.int (ds.getD 1 0))] [(.int (ds.getD 1 0)), (.int (cs.getD 1 0))] := (k49.iload X48 hx (hb hby d_rmcm_33) rfl).iload X48 hx (hb hby d_rmcm_35) rfl
        by_cases hc37_51 : (cs.getD 1 0) = (ds.getD 1 0)
        ·
          have k52 : Go p e below m W T48 54 #[.val (.ref a1), .val (.ref a2), .val (.int (own_min (Int32.ofNat cs.length) (Int32.ofNat ds.length))), .val (.int (1 : Int32)), .val (.int (cs.getD 1 0)), .val (.int (ds.getD 1 0))] [] := k50.icmpYes X48 hx (hb hby d_rmcm_37) (XT.ii_eq_t hc37_51) (by decide) (by decide)
          have inv2 : own_Inv 2 cs ds := own_next inv1 hb1.1 hb1.2 hc37_51
          have k53 : Go p e below m W T48 57 #[.val (.ref a1), .val (.ref a2), .val (.int (own_min (Int32.ofNat cs.length) (Int32.ofNat ds.length))), .val (.int (2 : Int32)), .val (.int (cs.getD 1 0)), .val (.int (ds.getD 1 0))] [] := k52.iinc X48 hx (hb hby d_rmcm_54) (v := (1 : Int32)) rfl rfl rfl
          have k54 : Go p e below m W T48 14 #[.val (.ref a1), .val (.ref a2), .val (.int (own_min (Int32.ofNat cs.length) (Int32.ofNat ds.length))), .val (.int (2 : Int32)), .val (.int (cs.getD 1 0)), .val (.int (ds.getD 1 0))] [] := k53.goto X48 hx (hb hby d_rmcm_57) (by decide) (by decide)
          have k55 : Go p e below m W T48 16 #[.val (.ref a1), .val (.ref a2), .val (.int (own_min (Int32.ofNat cs.length) (Int32.ofNat ds.length))), .val (.int (2 : Int32)), .val (.int (cs.getD 1 0)), .val (.int (ds.getD 1 0))] [(.int (own_min (Int32.ofNat cs.length) (Int32.ofNat ds.length))), (.int (2 : Int32))] := (k54.iloadN X48 hx (hb hby d_rmcm_14) rfl).iloadN X48 hx (hb hby d_rmcm_15) rfl
          by_cases hc16_56 : (2 : Int32) < (own_min (Int32.ofNat cs.length) (Int32.ofNat ds.length))
          ·
            have k57 : Go p e below m W T48 19 #[.val (.ref a1), .val (.ref a2), .val (.int (own_min (Int32.ofNat cs.length) (Int32.ofNat ds.length))), .val (.int (2 : Int32)), .val (.int (cs.getD 1 0)), .val (.int (ds.getD 1 0))] [] := k55.icmpNo X48 hx (hb hby d_rmcm_16) (XT.ii_ge_f hc16_56)
            have hb2 : 2 < cs.length ∧ 2 < ds.length := (own_min4 (k := 2) T1.1 T2.1 (by decide)).mp hc16_56
            have k58 : Go p e below m W T48 21 #[.val (.ref a1), .val (.ref a2), .val (.int (own_min (Int32.ofNat cs.length) (Int32.ofNat ds.length))), .val (.int (2 : Int32)), .val (.int (cs.getD 1 0)), .val (.int (ds.getD 1 0))] [(.int (2 : Int32)), (.ref a1)] := (k57.aloadN X48 hx (hb hby d_rmcm_19) rfl rfl).iloadN X48 hx (hb hby d_rmcm_20) rfl
            obtain ⟨T59, v59, L59, X59, Q59, k59⟩ := k58.virt (y := (⟨"java/lang/String", "charAt", "(I)C"⟩ : MethodName)) (z := (⟨"java/lang/String", "charAt", "(I)C"⟩ : MethodName)) (Wd := 0) (cells' := 0) (slots' := 0) (argsL := [(.int (2 : Int32))]) (rest := []) X48 hx hZ hown (by rw [hml]; rfl) (hv 78 rfl) (hv 79 rfl) (notFace_of_selects (args := #[]) (mvT hZ (hv 81 rfl))) (hv 81 rfl) (hv 80 rfl) (hv 82 rfl) (hv 19 rfl) (hb hby d_rmcm_21) (by decide) (rmca l Z a0 hw [] a1 (2 : Int32) cs 2 cz fm h0 n0 Z0 O0 SCZ hcz hfm SIO SAD SHI SLO E1 T1 rfl hb2.1) e48 E1 rfl rfl pd_rmcm_2 rfl (Nat.le_of_eq rfl) (by decide) (by decide) rfl rfl (by decide) (by decide)
            obtain ⟨rfl, Nq59, e59q⟩ := Q59
            have N59 := Fr.app N48 Nq59
            have e59 : T59.heap = h0 := e59q
            have k59 : Go p e below m W T59 24 #[.val (.ref a1), .val (.ref a2), .val (.int (own_min (Int32.ofNat cs.length) (Int32.ofNat ds.length))), .val (.int (2 : Int32)), .val (.int (cs.getD 1 0)), .val (.int (ds.getD 1 0))] [(.int (cs.getD 2 0))] := k59
            have k60 : Go p e below m W T59 26 #[.val (.ref a1), .val (.ref a2), .val (.int (own_min (Int32.ofNat cs.length) (Int32.ofNat ds.length))), .val (.int (2 : Int32)), .val (.int (cs.getD 2 0)), .val (.int (ds.getD 1 0))] [] := k59.istore X59 hx (hb hby d_rmcm_24) rfl
            have k61 : Go p e below m W T59 28 #[.val (.ref a1), .val (.ref a2), .val (.int (own_min (Int32.ofNat cs.length) (Int32.ofNat ds.length))), .val (.int (2 : Int32)), .val (.int (cs.getD 2 0)), .val (.int (ds.getD 1 0))] [(.int (2 : Int32)), (.ref a2)] := (k60.aloadN X59 hx (hb hby d_rmcm_26) rfl rfl).iloadN X59 hx (hb hby d_rmcm_27) rfl
            obtain ⟨T62, v62, L62, X62, Q62, k62⟩ := k61.virt (y := (⟨"java/lang/String", "charAt", "(I)C"⟩ : MethodName)) (z := (⟨"java/lang/String", "charAt", "(I)C"⟩ : MethodName)) (Wd := 0) (cells' := 0) (slots' := 0) (argsL := [(.int (2 : Int32))]) (rest := []) X59 hx hZ hown (by rw [hml]; rfl) (hv 78 rfl) (hv 79 rfl) (notFace_of_selects (args := #[]) (mvT hZ (hv 81 rfl))) (hv 81 rfl) (hv 80 rfl) (hv 82 rfl) (hv 19 rfl) (hb hby d_rmcm_28) (by decide) (rmca l Z a0 hw [] a2 (2 : Int32) ds 2 cz fm h0 n0 Z0 O0 SCZ hcz hfm SIO SAD SHI SLO E2 T2 rfl hb2.2) e59 E2 rfl rfl pd_rmcm_2 rfl (Nat.le_of_eq rfl) (by decide) (by decide) rfl rfl (by decide) (by decide)
            obtain ⟨rfl, Nq62, e62q⟩ := Q62
            have N62 := Fr.app N59 Nq62
            have e62 : T62.heap = h0 := e62q
            have k62 : Go p e below m W T62 31 #[.val (.ref a1), .val (.ref a2), .val (.int (own_min (Int32.ofNat cs.length) (Int32.ofNat ds.length))), .val (.int (2 : Int32)), .val (.int (cs.getD 2 0)), .val (.int (ds.getD 1 0))] [(.int (ds.getD 2 0))] := k62
            have k63 : Go p e below m W T62 33 #[.val (.ref a1), .val (.ref a2), .val (.int (own_min (Int32.ofNat cs.length) (Int32.ofNat ds.length))), .val (.int (2 : Int32)), .val (.int (cs.getD 2 0)), .val (.int (ds.getD 2 0))] [] := k62.istore X62 hx (hb hby d_rmcm_31) rfl
            have k64 : Go p e below m W T62 37 #[.val (.ref a1), .val (.ref a2), .val (.int (own_min (Int32.ofNat cs.length) (Int32.ofNat ds.length))), .val (.int (2 : Int32)), .val (.int (cs.getD 2 0)), .val (.int (ds.getD 2 0))] [(.int (ds.getD 2 0)), (.int (cs.getD 2 0))] := (k63.iload X62 hx (hb hby d_rmcm_33) rfl).iload X62 hx (hb hby d_rmcm_35) rfl
            by_cases hc37_65 : (cs.getD 2 0) = (ds.getD 2 0)
            ·
              have k66 : Go p e below m W T62 54 #[.val (.ref a1), .val (.ref a2), .val (.int (own_min (Int32.ofNat cs.length) (Int32.ofNat ds.length))), .val (.int (2 : Int32)), .val (.int (cs.getD 2 0)), .val (.int (ds.getD 2 0))] [] := k64.icmpYes X62 hx (hb hby d_rmcm_37) (XT.ii_eq_t hc37_65) (by decide) (by decide)
              have inv3 : own_Inv 3 cs ds := own_next inv2 hb2.1 hb2.2 hc37_65
              have k67 : Go p e below m W T62 57 #[.val (.ref a1), .val (.ref a2), .val (.int (own_min (Int32.ofNat cs.length) (Int32.ofNat ds.length))), .val (.int (3 : Int32)), .val (.int (cs.getD 2 0)), .val (.int (ds.getD 2 0))] [] := k66.iinc X62 hx (hb hby d_rmcm_54) (v := (1 : Int32)) rfl rfl rfl
              have k68 : Go p e below m W T62 14 #[.val (.ref a1), .val (.ref a2), .val (.int (own_min (Int32.ofNat cs.length) (Int32.ofNat ds.length))), .val (.int (3 : Int32)), .val (.int (cs.getD 2 0)), .val (.int (ds.getD 2 0))] [] := k67.goto X62 hx (hb hby d_rmcm_57) (by decide) (by decide)
              have k69 : Go p e below m W T62 16 #[.val (.ref a1), .val (.ref a2), .val (.int (own_min (Int32.ofNat cs.length) (Int32.ofNat ds.length))), .val (.int (3 : Int32)), .val (.int (cs.getD 2 0)), .val (.int (ds.getD 2 0))] [(.int (own_min (Int32.ofNat cs.length) (Int32.ofNat ds.length))), (.int (3 : Int32))] := (k68.iloadN X62 hx (hb hby d_rmcm_14) rfl).iloadN X62 hx (hb hby d_rmcm_15) rfl
              by_cases hc16_70 : (3 : Int32) < (own_min (Int32.ofNat cs.length) (Int32.ofNat ds.length))
              ·
                have k71 : Go p e below m W T62 19 #[.val (.ref a1), .val (.ref a2), .val (.int (own_min (Int32.ofNat cs.length) (Int32.ofNat ds.length))), .val (.int (3 : Int32)), .val (.int (cs.getD 2 0)), .val (.int (ds.getD 2 0))] [] := k69.icmpNo X62 hx (hb hby d_rmcm_16) (XT.ii_ge_f hc16_70)
                have hb3 : 3 < cs.length ∧ 3 < ds.length := (own_min4 (k := 3) T1.1 T2.1 (by decide)).mp hc16_70
                have k72 : Go p e below m W T62 21 #[.val (.ref a1), .val (.ref a2), .val (.int (own_min (Int32.ofNat cs.length) (Int32.ofNat ds.length))), .val (.int (3 : Int32)), .val (.int (cs.getD 2 0)), .val (.int (ds.getD 2 0))] [(.int (3 : Int32)), (.ref a1)] := (k71.aloadN X62 hx (hb hby d_rmcm_19) rfl rfl).iloadN X62 hx (hb hby d_rmcm_20) rfl
                obtain ⟨T73, v73, L73, X73, Q73, k73⟩ := k72.virt (y := (⟨"java/lang/String", "charAt", "(I)C"⟩ : MethodName)) (z := (⟨"java/lang/String", "charAt", "(I)C"⟩ : MethodName)) (Wd := 0) (cells' := 0) (slots' := 0) (argsL := [(.int (3 : Int32))]) (rest := []) X62 hx hZ hown (by rw [hml]; rfl) (hv 78 rfl) (hv 79 rfl) (notFace_of_selects (args := #[]) (mvT hZ (hv 81 rfl))) (hv 81 rfl) (hv 80 rfl) (hv 82 rfl) (hv 19 rfl) (hb hby d_rmcm_21) (by decide) (rmca l Z a0 hw [] a1 (3 : Int32) cs 3 cz fm h0 n0 Z0 O0 SCZ hcz hfm SIO SAD SHI SLO E1 T1 rfl hb3.1) e62 E1 rfl rfl pd_rmcm_2 rfl (Nat.le_of_eq rfl) (by decide) (by decide) rfl rfl (by decide) (by decide)
                obtain ⟨rfl, Nq73, e73q⟩ := Q73
                have N73 := Fr.app N62 Nq73
                have e73 : T73.heap = h0 := e73q
                have k73 : Go p e below m W T73 24 #[.val (.ref a1), .val (.ref a2), .val (.int (own_min (Int32.ofNat cs.length) (Int32.ofNat ds.length))), .val (.int (3 : Int32)), .val (.int (cs.getD 2 0)), .val (.int (ds.getD 2 0))] [(.int (cs.getD 3 0))] := k73
                have k74 : Go p e below m W T73 26 #[.val (.ref a1), .val (.ref a2), .val (.int (own_min (Int32.ofNat cs.length) (Int32.ofNat ds.length))), .val (.int (3 : Int32)), .val (.int (cs.getD 3 0)), .val (.int (ds.getD 2 0))] [] := k73.istore X73 hx (hb hby d_rmcm_24) rfl
                have k75 : Go p e below m W T73 28 #[.val (.ref a1), .val (.ref a2), .val (.int (own_min (Int32.ofNat cs.length) (Int32.ofNat ds.length))), .val (.int (3 : Int32)), .val (.int (cs.getD 3 0)), .val (.int (ds.getD 2 0))] [(.int (3 : Int32)), (.ref a2)] := (k74.aloadN X73 hx (hb hby d_rmcm_26) rfl rfl).iloadN X73 hx (hb hby d_rmcm_27) rfl
                obtain ⟨T76, v76, L76, X76, Q76, k76⟩ := k75.virt (y := (⟨"java/lang/String", "charAt", "(I)C"⟩ : MethodName)) (z := (⟨"java/lang/String", "charAt", "(I)C"⟩ : MethodName)) (Wd := 0) (cells' := 0) (slots' := 0) (argsL := [(.int (3 : Int32))]) (rest := []) X73 hx hZ hown (by rw [hml]; rfl) (hv 78 rfl) (hv 79 rfl) (notFace_of_selects (args := #[]) (mvT hZ (hv 81 rfl))) (hv 81 rfl) (hv 80 rfl) (hv 82 rfl) (hv 19 rfl) (hb hby d_rmcm_28) (by decide) (rmca l Z a0 hw [] a2 (3 : Int32) ds 3 cz fm h0 n0 Z0 O0 SCZ hcz hfm SIO SAD SHI SLO E2 T2 rfl hb3.2) e73 E2 rfl rfl pd_rmcm_2 rfl (Nat.le_of_eq rfl) (by decide) (by decide) rfl rfl (by decide) (by decide)
                obtain ⟨rfl, Nq76, e76q⟩ := Q76
                have N76 := Fr.app N73 Nq76
                have e76 : T76.heap = h0 := e76q
                have k76 : Go p e below m W T76 31 #[.val (.ref a1), .val (.ref a2), .val (.int (own_min (Int32.ofNat cs.length) (Int32.ofNat ds.length))), .val (.int (3 : Int32)), .val (.int (cs.getD 3 0)), .val (.int (ds.getD 2 0))] [(.int (ds.getD 3 0))] := k76
                have k77 : Go p e below m W T76 33 #[.val (.ref a1), .val (.ref a2), .val (.int (own_min (Int32.ofNat cs.length) (Int32.ofNat ds.length))), .val (.int (3 : Int32)), .val (.int (cs.getD 3 0)), .val (.int (ds.getD 3 0))] [] := k76.istore X76 hx (hb hby d_rmcm_31) rfl
                have k78 : Go p e below m W T76 37 #[.val (.ref a1), .val (.ref a2), .val (.int (own_min (Int32.ofNat cs.length) (Int32.ofNat ds.length))), .val (.int (3 : Int32)), .val (.int (cs.getD 3 0)), .val (.int (ds.getD 3 0))] [(.int (ds.getD 3 0)), (.int (cs.getD 3 0))] := (k77.iload X76 hx (hb hby d_rmcm_33) rfl).iload X76 hx (hb hby d_rmcm_35) rfl
                by_cases hc37_79 : (cs.getD 3 0) = (ds.getD 3 0)
                ·
                  have k80 : Go p e below m W T76 54 #[.val (.ref a1), .val (.ref a2), .val (.int (own_min (Int32.ofNat cs.length) (Int32.ofNat ds.length))), .val (.int (3 : Int32)), .val (.int (cs.getD 3 0)), .val (.int (ds.getD 3 0))] [] := k78.icmpYes X76 hx (hb hby d_rmcm_37) (XT.ii_eq_t hc37_79) (by decide) (by decide)
                  have inv4 : own_Inv 4 cs ds := own_next inv3 hb3.1 hb3.2 hc37_79
                  have k81 : Go p e below m W T76 57 #[.val (.ref a1), .val (.ref a2), .val (.int (own_min (Int32.ofNat cs.length) (Int32.ofNat ds.length))), .val (.int (4 : Int32)), .val (.int (cs.getD 3 0)), .val (.int (ds.getD 3 0))] [] := k80.iinc X76 hx (hb hby d_rmcm_54) (v := (1 : Int32)) rfl rfl rfl
                  have k82 : Go p e below m W T76 14 #[.val (.ref a1), .val (.ref a2), .val (.int (own_min (Int32.ofNat cs.length) (Int32.ofNat ds.length))), .val (.int (4 : Int32)), .val (.int (cs.getD 3 0)), .val (.int (ds.getD 3 0))] [] := k81.goto X76 hx (hb hby d_rmcm_57) (by decide) (by decide)
                  have k83 : Go p e below m W T76 61 #[.val (.ref a1), .val (.ref a2), .val (.int (own_min (Int32.ofNat cs.length) (Int32.ofNat ds.length))), .val (.int (4 : Int32)), .val (.int (cs.getD 3 0)), .val (.int (ds.getD 3 0))] [(.ref a1)] := (((k82.iloadN X76 hx (hb hby d_rmcm_14) rfl).iloadN X76 hx (hb hby d_rmcm_15) rfl).icmpYes X76 hx (hb hby d_rmcm_16) (XT.ii_ge_t (own_not4 T1.1 T2.1)) (by decide) (by decide)).aloadN X76 hx (hb hby d_rmcm_60) rfl rfl
                  obtain ⟨T84, v84, L84, X84, Q84, k84⟩ := k83.virt (y := (⟨"java/lang/String", "length", "()I"⟩ : MethodName)) (z := (⟨"java/lang/String", "length", "()I"⟩ : MethodName)) (Wd := 0) (cells' := 0) (slots' := 0) (argsL := []) (rest := []) X76 hx hZ hown (by rw [hml]; rfl) (hv 42 rfl) (hv 43 rfl) (notFace_of_selects (args := #[]) (mvT hZ (hv 45 rfl))) (hv 45 rfl) (hv 44 rfl) (hv 46 rfl) (hv 19 rfl) (hb hby d_rmcm_61) (by decide) (rmle l Z a0 hw [] a1 cs cz h0 n0 Z0 O0 SCZ hcz E1 T1) e76 E1 rfl rfl pd_rmcm_0 rfl (Nat.le_of_eq rfl) (by decide) (by decide) rfl rfl (by decide) (by decide)
                  obtain ⟨rfl, Nq84, e84q⟩ := Q84
                  have N84 := Fr.app N76 Nq84
                  have e84 : T84.heap = h0 := e84q
                  have k84 : Go p e below m W T84 64 #[.val (.ref a1), .val (.ref a2), .val (.int (own_min (Int32.ofNat cs.length) (Int32.ofNat ds.length))), .val (.int (4 : Int32)), .val (.int (cs.getD 3 0)), .val (.int (ds.getD 3 0))] [(.int (Int32.ofNat cs.length))] := k84
                  have k85 : Go p e below m W T84 65 #[.val (.ref a1), .val (.ref a2), .val (.int (own_min (Int32.ofNat cs.length) (Int32.ofNat ds.length))), .val (.int (4 : Int32)), .val (.int (cs.getD 3 0)), .val (.int (ds.getD 3 0))] [(.ref a2), (.int (Int32.ofNat cs.length))] := k84.aloadN X84 hx (hb hby d_rmcm_64) rfl rfl
                  obtain ⟨T86, v86, L86, X86, Q86, k86⟩ := k85.virt (y := (⟨"java/lang/String", "length", "()I"⟩ : MethodName)) (z := (⟨"java/lang/String", "length", "()I"⟩ : MethodName)) (Wd := 1) (cells' := 0) (slots' := 0) (argsL := []) (rest := [(.int (Int32.ofNat cs.length))]) X84 hx hZ hown (by rw [hml]; rfl) (hv 42 rfl) (hv 43 rfl) (notFace_of_selects (args := #[]) (mvT hZ (hv 45 rfl))) (hv 45 rfl) (hv 44 rfl) (hv 46 rfl) (hv 19 rfl) (hb hby d_rmcm_65) (by decide) (rmle l Z a0 hw [] a2 ds cz h0 n0 Z0 O0 SCZ hcz E2 T2) e84 E2 rfl rfl pd_rmcm_0 rfl (Nat.le_of_eq rfl) (by decide) (by decide) rfl rfl (by decide) (by decide)
                  obtain ⟨rfl, Nq86, e86q⟩ := Q86
                  have N86 := Fr.app N84 Nq86
                  have e86 : T86.heap = h0 := e86q
                  have k86 : Go p e below m W T86 68 #[.val (.ref a1), .val (.ref a2), .val (.int (own_min (Int32.ofNat cs.length) (Int32.ofNat ds.length))), .val (.int (4 : Int32)), .val (.int (cs.getD 3 0)), .val (.int (ds.getD 3 0))] [(.int (Int32.ofNat ds.length)), (.int (Int32.ofNat cs.length))] := k86
                  obtain ⟨T87, v87, L87, X87, Q87, k87⟩ := k86.stat (y := (⟨"java/lang/Integer", "compare", "(II)I"⟩ : MethodName)) (Wd := 0) (cells' := 0) (slots' := 0) (argsL := [(.int (Int32.ofNat cs.length)), (.int (Int32.ofNat ds.length))]) (rest := []) X86 hx hZ hown (by rw [hml]; rfl) (hv 57 rfl) (hv 58 rfl) (hv 60 rfl) (hv 59 rfl) (hb hby d_rmcm_68) (by decide) (rmic l Z a0 hw [] (Int32.ofNat cs.length) (Int32.ofNat ds.length) h0 n0 Z0) e86 rfl rfl pd_rmcm_1 rfl (Nat.le_of_eq rfl) (by decide) (by decide) rfl rfl (by decide) (by decide)
                  obtain ⟨rfl, Nq87, e87q⟩ := Q87
                  have N87 := Fr.app N86 Nq87
                  have e87 : T87.heap = h0 := e87q
                  have k87 : Go p e below m W T87 71 #[.val (.ref a1), .val (.ref a2), .val (.int (own_min (Int32.ofNat cs.length) (Int32.ofNat ds.length))), .val (.int (4 : Int32)), .val (.int (cs.getD 3 0)), .val (.int (ds.getD 3 0))] [(.int (own_icmp (Int32.ofNat cs.length) (Int32.ofNat ds.length)))] := k87
                  have k88 : Go p e below m W T87 71 #[.val (.ref a1), .val (.ref a2), .val (.int (own_min (Int32.ofNat cs.length) (Int32.ofNat ds.length))), .val (.int (4 : Int32)), .val (.int (cs.getD 3 0)), .val (.int (ds.getD 3 0))] [(.int (own_cmpL cs ds))] := k87.cast (y := (own_cmpL cs ds)) (own_exit (k := 4) inv4 T1.1 T2.1 (by decide) (own_not4 T1.1 T2.1))
                  exact k88.ireturnI X87 hx Bd.returns (hb hby d_rmcm_71) (BodyLoose.notSynchronized Bd) (by rw [e87]; exact ⟨rfl, N87, rfl⟩) (by decide) (by decide)
                ·
                  have k89 : Go p e below m W T76 42 #[.val (.ref a1), .val (.ref a2), .val (.int (own_min (Int32.ofNat cs.length) (Int32.ofNat ds.length))), .val (.int (3 : Int32)), .val (.int (cs.getD 3 0)), .val (.int (ds.getD 3 0))] [(.int (cs.getD 3 0))] := (k78.icmpNo X76 hx (hb hby d_rmcm_37) (XT.ii_eq_f hc37_79)).iload X76 hx (hb hby d_rmcm_40) rfl
                  obtain ⟨T90, v90, L90, X90, Q90, k90⟩ := k89.stat (y := (⟨"com/example/promovent/promovent/library/CodePoints", "rank", "(C)I"⟩ : MethodName)) (Wd := 0) (cells' := 0) (slots' := 0) (argsL := [(.int (cs.getD 3 0))]) (rest := []) X76 hx hZ hown (by rw [hml]; rfl) (hv 100 rfl) (hv 101 rfl) (hv 102 rfl) (hv 40 rfl) (hb hby d_rmcm_42) (by decide) (rmrk l Z a0 hw [] (cs.getD 3 0) h0 n0 Z0) e76 rfl rfl pd_rmcm_3 rfl (Nat.le_of_eq rfl) (by decide) (by decide) rfl rfl (by decide) (by decide)
                  obtain ⟨rfl, Nq90, e90q⟩ := Q90
                  have N90 := Fr.app N76 Nq90
                  have e90 : T90.heap = h0 := e90q
                  have k90 : Go p e below m W T90 45 #[.val (.ref a1), .val (.ref a2), .val (.int (own_min (Int32.ofNat cs.length) (Int32.ofNat ds.length))), .val (.int (3 : Int32)), .val (.int (cs.getD 3 0)), .val (.int (ds.getD 3 0))] [(.int (own_rank (cs.getD 3 0)))] := k90
                  have k91 : Go p e below m W T90 47 #[.val (.ref a1), .val (.ref a2), .val (.int (own_min (Int32.ofNat cs.length) (Int32.ofNat ds.length))), .val (.int (3 : Int32)), .val (.int (cs.getD 3 0)), .val (.int (ds.getD 3 0))] [(.int (ds.getD 3 0)), (.int (own_rank (cs.getD 3 0)))] := k90.iload X90 hx (hb hby d_rmcm_45) rfl
                  obtain ⟨T92, v92, L92, X92, Q92, k92⟩ := k91.stat (y := (⟨"com/example/promovent/promovent/library/CodePoints", "rank", "(C)I"⟩ : MethodName)) (Wd := 1) (cells' := 0) (slots' := 0) (argsL := [(.int (ds.getD 3 0))]) (rest := [(.int (own_rank (cs.getD 3 0)))]) X90 hx hZ hown (by rw [hml]; rfl) (hv 100 rfl) (hv 101 rfl) (hv 102 rfl) (hv 40 rfl) (hb hby d_rmcm_47) (by decide) (rmrk l Z a0 hw [] (ds.getD 3 0) h0 n0 Z0) e90 rfl rfl pd_rmcm_3 rfl (Nat.le_of_eq rfl) (by decide) (by decide) rfl rfl (by decide) (by decide)
                  obtain ⟨rfl, Nq92, e92q⟩ := Q92
                  have N92 := Fr.app N90 Nq92
                  have e92 : T92.heap = h0 := e92q
                  have k92 : Go p e below m W T92 50 #[.val (.ref a1), .val (.ref a2), .val (.int (own_min (Int32.ofNat cs.length) (Int32.ofNat ds.length))), .val (.int (3 : Int32)), .val (.int (cs.getD 3 0)), .val (.int (ds.getD 3 0))] [(.int (own_rank (ds.getD 3 0))), (.int (own_rank (cs.getD 3 0)))] := k92
                  obtain ⟨T93, v93, L93, X93, Q93, k93⟩ := k92.stat (y := (⟨"java/lang/Integer", "compare", "(II)I"⟩ : MethodName)) (Wd := 0) (cells' := 0) (slots' := 0) (argsL := [(.int (own_rank (cs.getD 3 0))), (.int (own_rank (ds.getD 3 0)))]) (rest := []) X92 hx hZ hown (by rw [hml]; rfl) (hv 57 rfl) (hv 58 rfl) (hv 60 rfl) (hv 59 rfl) (hb hby d_rmcm_50) (by decide) (rmic l Z a0 hw [] (own_rank (cs.getD 3 0)) (own_rank (ds.getD 3 0)) h0 n0 Z0) e92 rfl rfl pd_rmcm_1 rfl (Nat.le_of_eq rfl) (by decide) (by decide) rfl rfl (by decide) (by decide)
                  obtain ⟨rfl, Nq93, e93q⟩ := Q93
                  have N93 := Fr.app N92 Nq93
                  have e93 : T93.heap = h0 := e93q
                  have k93 : Go p e below m W T93 53 #[.val (.ref a1), .val (.ref a2), .val (.int (own_min (Int32.ofNat cs.length) (Int32.ofNat ds.length))), .val (.int (3 : Int32)), .val (.int (cs.getD 3 0)), .val (.int (ds.getD 3 0))] [(.int (own_icmp (own_rank (cs.getD 3 0)) (own_rank (ds.getD 3 0))))] := k93
                  have k94 : Go p e below m W T93 53 #[.val (.ref a1), .val (.ref a2), .val (.int (own_min (Int32.ofNat cs.length) (Int32.ofNat ds.length))), .val (.int (3 : Int32)), .val (.int (cs.getD 3 0)), .val (.int (ds.getD 3 0))] [(.int (own_cmpL cs ds))] := k93.cast (y := (own_cmpL cs ds)) (own_diff inv3 hb3.1 hb3.2 hc37_79)
                  exact k94.ireturnI X93 hx Bd.returns (hb hby d_rmcm_53) (BodyLoose.notSynchronized Bd) (by rw [e93]; exact ⟨rfl, N93, rfl⟩) (by decide) (by decide)
              ·
                have k95 : Go p e below m W T62 61 #[.val (.ref a1), .val (.ref a2), .val (.int (own_min (Int32.ofNat cs.length) (Int32.ofNat ds.length))), .val (.int (3 : Int32)), .val (.int (cs.getD 2 0)), .val (.int (ds.getD 2 0))] [(.ref a1)] := (k69.icmpYes X62 hx (hb hby d_rmcm_16) (XT.ii_ge_t hc16_70) (by decide) (by decide)).aloadN X62 hx (hb hby d_rmcm_60) rfl rfl
                obtain ⟨T96, v96, L96, X96, Q96, k96⟩ := k95.virt (y := (⟨"java/lang/String", "length", "()I"⟩ : MethodName)) (z := (⟨"java/lang/String", "length", "()I"⟩ : MethodName)) (Wd := 0) (cells' := 0) (slots' := 0) (argsL := []) (rest := []) X62 hx hZ hown (by rw [hml]; rfl) (hv 42 rfl) (hv 43 rfl) (notFace_of_selects (args := #[]) (mvT hZ (hv 45 rfl))) (hv 45 rfl) (hv 44 rfl) (hv 46 rfl) (hv 19 rfl) (hb hby d_rmcm_61) (by decide) (rmle l Z a0 hw [] a1 cs cz h0 n0 Z0 O0 SCZ hcz E1 T1) e62 E1 rfl rfl pd_rmcm_0 rfl (Nat.le_of_eq rfl) (by decide) (by decide) rfl rfl (by decide) (by decide)
                obtain ⟨rfl, Nq96, e96q⟩ := Q96
                have N96 := Fr.app N62 Nq96
                have e96 : T96.heap = h0 := e96q
                have k96 : Go p e below m W T96 64 #[.val (.ref a1), .val (.ref a2), .val (.int (own_min (Int32.ofNat cs.length) (Int32.ofNat ds.length))), .val (.int (3 : Int32)), .val (.int (cs.getD 2 0)), .val (.int (ds.getD 2 0))] [(.int (Int32.ofNat cs.length))] := k96
                have k97 : Go p e below m W T96 65 #[.val (.ref a1), .val (.ref a2), .val (.int (own_min (Int32.ofNat cs.length) (Int32.ofNat ds.length))), .val (.int (3 : Int32)), .val (.int (cs.getD 2 0)), .val (.int (ds.getD 2 0))] [(.ref a2), (.int (Int32.ofNat cs.length))] := k96.aloadN X96 hx (hb hby d_rmcm_64) rfl rfl
                obtain ⟨T98, v98, L98, X98, Q98, k98⟩ := k97.virt (y := (⟨"java/lang/String", "length", "()I"⟩ : MethodName)) (z := (⟨"java/lang/String", "length", "()I"⟩ : MethodName)) (Wd := 1) (cells' := 0) (slots' := 0) (argsL := []) (rest := [(.int (Int32.ofNat cs.length))]) X96 hx hZ hown (by rw [hml]; rfl) (hv 42 rfl) (hv 43 rfl) (notFace_of_selects (args := #[]) (mvT hZ (hv 45 rfl))) (hv 45 rfl) (hv 44 rfl) (hv 46 rfl) (hv 19 rfl) (hb hby d_rmcm_65) (by decide) (rmle l Z a0 hw [] a2 ds cz h0 n0 Z0 O0 SCZ hcz E2 T2) e96 E2 rfl rfl pd_rmcm_0 rfl (Nat.le_of_eq rfl) (by decide) (by decide) rfl rfl (by decide) (by decide)
                obtain ⟨rfl, Nq98, e98q⟩ := Q98
                have N98 := Fr.app N96 Nq98
                have e98 : T98.heap = h0 := e98q
                have k98 : Go p e below m W T98 68 #[.val (.ref a1), .val (.ref a2), .val (.int (own_min (Int32.ofNat cs.length) (Int32.ofNat ds.length))), .val (.int (3 : Int32)), .val (.int (cs.getD 2 0)), .val (.int (ds.getD 2 0))] [(.int (Int32.ofNat ds.length)), (.int (Int32.ofNat cs.length))] := k98
                obtain ⟨T99, v99, L99, X99, Q99, k99⟩ := k98.stat (y := (⟨"java/lang/Integer", "compare", "(II)I"⟩ : MethodName)) (Wd := 0) (cells' := 0) (slots' := 0) (argsL := [(.int (Int32.ofNat cs.length)), (.int (Int32.ofNat ds.length))]) (rest := []) X98 hx hZ hown (by rw [hml]; rfl) (hv 57 rfl) (hv 58 rfl) (hv 60 rfl) (hv 59 rfl) (hb hby d_rmcm_68) (by decide) (rmic l Z a0 hw [] (Int32.ofNat cs.length) (Int32.ofNat ds.length) h0 n0 Z0) e98 rfl rfl pd_rmcm_1 rfl (Nat.le_of_eq rfl) (by decide) (by decide) rfl rfl (by decide) (by decide)
                obtain ⟨rfl, Nq99, e99q⟩ := Q99
                have N99 := Fr.app N98 Nq99
                have e99 : T99.heap = h0 := e99q
                have k99 : Go p e below m W T99 71 #[.val (.ref a1), .val (.ref a2), .val (.int (own_min (Int32.ofNat cs.length) (Int32.ofNat ds.length))), .val (.int (3 : Int32)), .val (.int (cs.getD 2 0)), .val (.int (ds.getD 2 0))] [(.int (own_icmp (Int32.ofNat cs.length) (Int32.ofNat ds.length)))] := k99
                have k100 : Go p e below m W T99 71 #[.val (.ref a1), .val (.ref a2), .val (.int (own_min (Int32.ofNat cs.length) (Int32.ofNat ds.length))), .val (.int (3 : Int32)), .val (.int (cs.getD 2 0)), .val (.int (ds.getD 2 0))] [(.int (own_cmpL cs ds))] := k99.cast (y := (own_cmpL cs ds)) (own_exit (k := 3) inv3 T1.1 T2.1 (by decide) hc16_70)
                exact k100.ireturnI X99 hx Bd.returns (hb hby d_rmcm_71) (BodyLoose.notSynchronized Bd) (by rw [e99]; exact ⟨rfl, N99, rfl⟩) (by decide) (by decide)
            ·
              have k101 : Go p e below m W T62 42 #[.val (.ref a1), .val (.ref a2), .val (.int (own_min (Int32.ofNat cs.length) (Int32.ofNat ds.length))), .val (.int (2 : Int32)), .val (.int (cs.getD 2 0)), .val (.int (ds.getD 2 0))] [(.int (cs.getD 2 0))] := (k64.icmpNo X62 hx (hb hby d_rmcm_37) (XT.ii_eq_f hc37_65)).iload X62 hx (hb hby d_rmcm_40) rfl
              obtain ⟨T102, v102, L102, X102, Q102, k102⟩ := k101.stat (y := (⟨"com/example/promovent/promovent/library/CodePoints", "rank", "(C)I"⟩ : MethodName)) (Wd := 0) (cells' := 0) (slots' := 0) (argsL := [(.int (cs.getD 2 0))]) (rest := []) X62 hx hZ hown (by rw [hml]; rfl) (hv 100 rfl) (hv 101 rfl) (hv 102 rfl) (hv 40 rfl) (hb hby d_rmcm_42) (by decide) (rmrk l Z a0 hw [] (cs.getD 2 0) h0 n0 Z0) e62 rfl rfl pd_rmcm_3 rfl (Nat.le_of_eq rfl) (by decide) (by decide) rfl rfl (by decide) (by decide)
              obtain ⟨rfl, Nq102, e102q⟩ := Q102
              have N102 := Fr.app N62 Nq102
              have e102 : T102.heap = h0 := e102q
              have k102 : Go p e below m W T102 45 #[.val (.ref a1), .val (.ref a2), .val (.int (own_min (Int32.ofNat cs.length) (Int32.ofNat ds.length))), .val (.int (2 : Int32)), .val (.int (cs.getD 2 0)), .val (.int (ds.getD 2 0))] [(.int (own_rank (cs.getD 2 0)))] := k102
              have k103 : Go p e below m W T102 47 #[.val (.ref a1), .val (.ref a2), .val (.int (own_min (Int32.ofNat cs.length) (Int32.ofNat ds.length))), .val (.int (2 : Int32)), .val (.int (cs.getD 2 0)), .val (.int (ds.getD 2 0))] [(.int (ds.getD 2 0)), (.int (own_rank (cs.getD 2 0)))] := k102.iload X102 hx (hb hby d_rmcm_45) rfl
              obtain ⟨T104, v104, L104, X104, Q104, k104⟩ := k103.stat (y := (⟨"com/example/promovent/promovent/library/CodePoints", "rank", "(C)I"⟩ : MethodName)) (Wd := 1) (cells' := 0) (slots' := 0) (argsL := [(.int (ds.getD 2 0))]) (rest := [(.int (own_rank (cs.getD 2 0)))]) X102 hx hZ hown (by rw [hml]; rfl) (hv 100 rfl) (hv 101 rfl) (hv 102 rfl) (hv 40 rfl) (hb hby d_rmcm_47) (by decide) (rmrk l Z a0 hw [] (ds.getD 2 0) h0 n0 Z0) e102 rfl rfl pd_rmcm_3 rfl (Nat.le_of_eq rfl) (by decide) (by decide) rfl rfl (by decide) (by decide)
              obtain ⟨rfl, Nq104, e104q⟩ := Q104
              have N104 := Fr.app N102 Nq104
              have e104 : T104.heap = h0 := e104q
              have k104 : Go p e below m W T104 50 #[.val (.ref a1), .val (.ref a2), .val (.int (own_min (Int32.ofNat cs.length) (Int32.ofNat ds.length))), .val (.int (2 : Int32)), .val (.int (cs.getD 2 0)), .val (.int (ds.getD 2 0))] [(.int (own_rank (ds.getD 2 0))), (.int (own_rank (cs.getD 2 0)))] := k104
              obtain ⟨T105, v105, L105, X105, Q105, k105⟩ := k104.stat (y := (⟨"java/lang/Integer", "compare", "(II)I"⟩ : MethodName)) (Wd := 0) (cells' := 0) (slots' := 0) (argsL := [(.int (own_rank (cs.getD 2 0))), (.int (own_rank (ds.getD 2 0)))]) (rest := []) X104 hx hZ hown (by rw [hml]; rfl) (hv 57 rfl) (hv 58 rfl) (hv 60 rfl) (hv 59 rfl) (hb hby d_rmcm_50) (by decide) (rmic l Z a0 hw [] (own_rank (cs.getD 2 0)) (own_rank (ds.getD 2 0)) h0 n0 Z0) e104 rfl rfl pd_rmcm_1 rfl (Nat.le_of_eq rfl) (by decide) (by decide) rfl rfl (by decide) (by decide)
              obtain ⟨rfl, Nq105, e105q⟩ := Q105
              have N105 := Fr.app N104 Nq105
              have e105 : T105.heap = h0 := e105q
              have k105 : Go p e below m W T105 53 #[.val (.ref a1), .val (.ref a2), .val (.int (own_min (Int32.ofNat cs.length) (Int32.ofNat ds.length))), .val (.int (2 : Int32)), .val (.int (cs.getD 2 0)), .val (.int (ds.getD 2 0))] [(.int (own_icmp (own_rank (cs.getD 2 0)) (own_rank (ds.getD 2 0))))] := k105
              have k106 : Go p e below m W T105 53 #[.val (.ref a1), .val (.ref a2), .val (.int (own_min (Int32.ofNat cs.length) (Int32.ofNat ds.length))), .val (.int (2 : Int32)), .val (.int (cs.getD 2 0)), .val (.int (ds.getD 2 0))] [(.int (own_cmpL cs ds))] := k105.cast (y := (own_cmpL cs ds)) (own_diff inv2 hb2.1 hb2.2 hc37_65)
              exact k106.ireturnI X105 hx Bd.returns (hb hby d_rmcm_53) (BodyLoose.notSynchronized Bd) (by rw [e105]; exact ⟨rfl, N105, rfl⟩) (by decide) (by decide)
          ·
            have k107 : Go p e below m W T48 61 #[.val (.ref a1), .val (.ref a2), .val (.int (own_min (Int32.ofNat cs.length) (Int32.ofNat ds.length))), .val (.int (2 : Int32)), .val (.int (cs.getD 1 0)), .val (.int (ds.getD 1 0))] [(.ref a1)] := (k55.icmpYes X48 hx (hb hby d_rmcm_16) (XT.ii_ge_t hc16_56) (by decide) (by decide)).aloadN X48 hx (hb hby d_rmcm_60) rfl rfl
            obtain ⟨T108, v108, L108, X108, Q108, k108⟩ := k107.virt (y := (⟨"java/lang/String", "length", "()I"⟩ : MethodName)) (z := (⟨"java/lang/String", "length", "()I"⟩ : MethodName)) (Wd := 0) (cells' := 0) (slots' := 0) (argsL := []) (rest := []) X48 hx hZ hown (by rw [hml]; rfl) (hv 42 rfl) (hv 43 rfl) (notFace_of_selects (args := #[]) (mvT hZ (hv 45 rfl))) (hv 45 rfl) (hv 44 rfl) (hv 46 rfl) (hv 19 rfl) (hb hby d_rmcm_61) (by decide) (rmle l Z a0 hw [] a1 cs cz h0 n0 Z0 O0 SCZ hcz E1 T1) e48 E1 rfl rfl pd_rmcm_0 rfl (Nat.le_of_eq rfl) (by decide) (by decide) rfl rfl (by decide) (by decide)
            obtain ⟨rfl, Nq108, e108q⟩ := Q108
            have N108 := Fr.app N48 Nq108
            have e108 : T108.heap = h0 := e108q
            have k108 : Go p e below m W T108 64 #[.val (.ref a1), .val (.ref a2), .val (.int (own_min (Int32.ofNat cs.length) (Int32.ofNat ds.length))), .val (.int (2 : Int32)), .val (.int (cs.getD 1 0)), .val (.int (ds.getD 1 0))] [(.int (Int32.ofNat cs.length))] := k108
            have k109 : Go p e below m W T108 65 #[.val (.ref a1), .val (.ref a2), .val (.int (own_min (Int32.ofNat cs.length) (Int32.ofNat ds.length))), .val (.int (2 : Int32)), .val (.int (cs.getD 1 0)), .val (.int (ds.getD 1 0))] [(.ref a2), (.int (Int32.ofNat cs.length))] := k108.aloadN X108 hx (hb hby d_rmcm_64) rfl rfl
            obtain ⟨T110, v110, L110, X110, Q110, k110⟩ := k109.virt (y := (⟨"java/lang/String", "length", "()I"⟩ : MethodName)) (z := (⟨"java/lang/String", "length", "()I"⟩ : MethodName)) (Wd := 1) (cells' := 0) (slots' := 0) (argsL := []) (rest := [(.int (Int32.ofNat cs.length))]) X108 hx hZ hown (by rw [hml]; rfl) (hv 42 rfl) (hv 43 rfl) (notFace_of_selects (args := #[]) (mvT hZ (hv 45 rfl))) (hv 45 rfl) (hv 44 rfl) (hv 46 rfl) (hv 19 rfl) (hb hby d_rmcm_65) (by decide) (rmle l Z a0 hw [] a2 ds cz h0 n0 Z0 O0 SCZ hcz E2 T2) e108 E2 rfl rfl pd_rmcm_0 rfl (Nat.le_of_eq rfl) (by decide) (by decide) rfl rfl (by decide) (by decide)
            obtain ⟨rfl, Nq110, e110q⟩ := Q110
            have N110 := Fr.app N108 Nq110
            have e110 : T110.heap = h0 := e110q
            have k110 : Go p e below m W T110 68 #[.val (.ref a1), .val (.ref a2), .val (.int (own_min (Int32.ofNat cs.length) (Int32.ofNat ds.length))), .val (.int (2 : Int32)), .val (.int (cs.getD 1 0)), .val (.int (ds.getD 1 0))] [(.int (Int32.ofNat ds.length)), (.int (Int32.ofNat cs.length))] := k110
            obtain ⟨T111, v111, L111, X111, Q111, k111⟩ := k110.stat (y := (⟨"java/lang/Integer", "compare", "(II)I"⟩ : MethodName)) (Wd := 0) (cells' := 0) (slots' := 0) (argsL := [(.int (Int32.ofNat cs.length)), (.int (Int32.ofNat ds.length))]) (rest := []) X110 hx hZ hown (by rw [hml]; rfl) (hv 57 rfl) (hv 58 rfl) (hv 60 rfl) (hv 59 rfl) (hb hby d_rmcm_68) (by decide) (rmic l Z a0 hw [] (Int32.ofNat cs.length) (Int32.ofNat ds.length) h0 n0 Z0) e110 rfl rfl pd_rmcm_1 rfl (Nat.le_of_eq rfl) (by decide) (by decide) rfl rfl (by decide) (by decide)
            obtain ⟨rfl, Nq111, e111q⟩ := Q111
            have N111 := Fr.app N110 Nq111
            have e111 : T111.heap = h0 := e111q
            have k111 : Go p e below m W T111 71 #[.val (.ref a1), .val (.ref a2), .val (.int (own_min (Int32.ofNat cs.length) (Int32.ofNat ds.length))), .val (.int (2 : Int32)), .val (.int (cs.getD 1 0)), .val (.int (ds.getD 1 0))] [(.int (own_icmp (Int32.ofNat cs.length) (Int32.ofNat ds.length)))] := k111
            have k112 : Go p e below m W T111 71 #[.val (.ref a1), .val (.ref a2), .val (.int (own_min (Int32.ofNat cs.length) (Int32.ofNat ds.length))), .val (.int (2 : Int32)), .val (.int (cs.getD 1 0)), .val (.int (ds.getD 1 0))] [(.int (own_cmpL cs ds))] := k111.cast (y := (own_cmpL cs ds)) (own_exit (k := 2) inv2 T1.1 T2.1 (by decide) hc16_56)
            exact k112.ireturnI X111 hx Bd.returns (hb hby d_rmcm_71) (BodyLoose.notSynchronized Bd) (by rw [e111]; exact ⟨rfl, N111, rfl⟩) (by decide) (by decide)
        ·
          have k113 : Go p e below m W T48 42 #[.val (.ref a1), .val (.ref a2), .val (.int (own_min (Int32.ofNat cs.length) (Int32.ofNat ds.length))), .val (.int (1 : Int32)), .val (.int (cs.getD 1 0)), .val (.int (ds.getD 1 0))] [(.int (cs.getD 1 0))] := (k50.icmpNo X48 hx (hb hby d_rmcm_37) (XT.ii_eq_f hc37_51)).iload X48 hx (hb hby d_rmcm_40) rfl
          obtain ⟨T114, v114, L114, X114, Q114, k114⟩ := k113.stat (y := (⟨"com/example/promovent/promovent/library/CodePoints", "rank", "(C)I"⟩ : MethodName)) (Wd := 0) (cells' := 0) (slots' := 0) (argsL := [(.int (cs.getD 1 0))]) (rest := []) X48 hx hZ hown (by rw [hml]; rfl) (hv 100 rfl) (hv 101 rfl) (hv 102 rfl) (hv 40 rfl) (hb hby d_rmcm_42) (by decide) (rmrk l Z a0 hw [] (cs.getD 1 0) h0 n0 Z0) e48 rfl rfl pd_rmcm_3 rfl (Nat.le_of_eq rfl) (by decide) (by decide) rfl rfl (by decide) (by decide)
          obtain ⟨rfl, Nq114, e114q⟩ := Q114
          have N114 := Fr.app N48 Nq114
          have e114 : T114.heap = h0 := e114q
          have k114 : Go p e below m W T114 45 #[.val (.ref a1), .val (.ref a2), .val (.int (own_min (Int32.ofNat cs.length) (Int32.ofNat ds.length))), .val (.int (1 : Int32)), .val (.int (cs.getD 1 0)), .val (.int (ds.getD 1 0))] [(.int (own_rank (cs.getD 1 0)))] := k114
          have k115 : Go p e below m W T114 47 #[.val (.ref a1), .val (.ref a2), .val (.int (own_min (Int32.ofNat cs.length) (Int32.ofNat ds.length))), .val (.int (1 : Int32)), .val (.int (cs.getD 1 0)), .val (.int (ds.getD 1 0))] [(.int (ds.getD 1 0)), (.int (own_rank (cs.getD 1 0)))] := k114.iload X114 hx (hb hby d_rmcm_45) rfl
          obtain ⟨T116, v116, L116, X116, Q116, k116⟩ := k115.stat (y := (⟨"com/example/promovent/promovent/library/CodePoints", "rank", "(C)I"⟩ : MethodName)) (Wd := 1) (cells' := 0) (slots' := 0) (argsL := [(.int (ds.getD 1 0))]) (rest := [(.int (own_rank (cs.getD 1 0)))]) X114 hx hZ hown (by rw [hml]; rfl) (hv 100 rfl) (hv 101 rfl) (hv 102 rfl) (hv 40 rfl) (hb hby d_rmcm_47) (by decide) (rmrk l Z a0 hw [] (ds.getD 1 0) h0 n0 Z0) e114 rfl rfl pd_rmcm_3 rfl (Nat.le_of_eq rfl) (by decide) (by decide) rfl rfl (by decide) (by decide)
          obtain ⟨rfl, Nq116, e116q⟩ := Q116
          have N116 := Fr.app N114 Nq116
          have e116 : T116.heap = h0 := e116q
          have k116 : Go p e below m W T116 50 #[.val (.ref a1), .val (.ref a2), .val (.int (own_min (Int32.ofNat cs.length) (Int32.ofNat ds.length))), .val (.int (1 : Int32)), .val (.int (cs.getD 1 0)), .val (.int (ds.getD 1 0))] [(.int (own_rank (ds.getD 1 0))), (.int (own_rank (cs.getD 1 0)))] := k116
          obtain ⟨T117, v117, L117, X117, Q117, k117⟩ := k116.stat (y := (⟨"java/lang/Integer", "compare", "(II)I"⟩ : MethodName)) (Wd := 0) (cells' := 0) (slots' := 0) (argsL := [(.int (own_rank (cs.getD 1 0))), (.int (own_rank (ds.getD 1 0)))]) (rest := []) X116 hx hZ hown (by rw [hml]; rfl) (hv 57 rfl) (hv 58 rfl) (hv 60 rfl) (hv 59 rfl) (hb hby d_rmcm_50) (by decide) (rmic l Z a0 hw [] (own_rank (cs.getD 1 0)) (own_rank (ds.getD 1 0)) h0 n0 Z0) e116 rfl rfl pd_rmcm_1 rfl (Nat.le_of_eq rfl) (by decide) (by decide) rfl rfl (by decide) (by decide)
          obtain ⟨rfl, Nq117, e117q⟩ := Q117
          have N117 := Fr.app N116 Nq117
          have e117 : T117.heap = h0 := e117q
          have k117 : Go p e below m W T117 53 #[.val (.ref a1), .val (.ref a2), .val (.int (own_min (Int32.ofNat cs.length) (Int32.ofNat ds.length))), .val (.int (1 : Int32)), .val (.int (cs.getD 1 0)), .val (.int (ds.getD 1 0))] [(.int (own_icmp (own_rank (cs.getD 1 0)) (own_rank (ds.getD 1 0))))] := k117
          have k118 : Go p e below m W T117 53 #[.val (.ref a1), .val (.ref a2), .val (.int (own_min (Int32.ofNat cs.length) (Int32.ofNat ds.length))), .val (.int (1 : Int32)), .val (.int (cs.getD 1 0)), .val (.int (ds.getD 1 0))] [(.int (own_cmpL cs ds))] := k117.cast (y := (own_cmpL cs ds)) (own_diff inv1 hb1.1 hb1.2 hc37_51)
          exact k118.ireturnI X117 hx Bd.returns (hb hby d_rmcm_53) (BodyLoose.notSynchronized Bd) (by rw [e117]; exact ⟨rfl, N117, rfl⟩) (by decide) (by decide)
      ·
        have k119 : Go p e below m W T34 61 #[.val (.ref a1), .val (.ref a2), .val (.int (own_min (Int32.ofNat cs.length) (Int32.ofNat ds.length))), .val (.int (1 : Int32)), .val (.int (cs.getD 0 0)), .val (.int (ds.getD 0 0))] [(.ref a1)] := (k41.icmpYes X34 hx (hb hby d_rmcm_16) (XT.ii_ge_t hc16_42) (by decide) (by decide)).aloadN X34 hx (hb hby d_rmcm_60) rfl rfl
        obtain ⟨T120, v120, L120, X120, Q120, k120⟩ := k119.virt (y := (⟨"java/lang/String", "length", "()I"⟩ : MethodName)) (z := (⟨"java/lang/String", "length", "()I"⟩ : MethodName)) (Wd := 0) (cells' := 0) (slots' := 0) (argsL := []) (rest := []) X34 hx hZ hown (by rw [hml]; rfl) (hv 42 rfl) (hv 43 rfl) (notFace_of_selects (args := #[]) (mvT hZ (hv 45 rfl))) (hv 45 rfl) (hv 44 rfl) (hv 46 rfl) (hv 19 rfl) (hb hby d_rmcm_61) (by decide) (rmle l Z a0 hw [] a1 cs cz h0 n0 Z0 O0 SCZ hcz E1 T1) e34 E1 rfl rfl pd_rmcm_0 rfl (Nat.le_of_eq rfl) (by decide) (by decide) rfl rfl (by decide) (by decide)
        obtain ⟨rfl, Nq120, e120q⟩ := Q120
        have N120 := Fr.app N34 Nq120
        have e120 : T120.heap = h0 := e120q
        have k120 : Go p e below m W T120 64 #[.val (.ref a1), .val (.ref a2), .val (.int (own_min (Int32.ofNat cs.length) (Int32.ofNat ds.length))), .val (.int (1 : Int32)), .val (.int (cs.getD 0 0)), .val (.int (ds.getD 0 0))] [(.int (Int32.ofNat cs.length))] := k120
        have k121 : Go p e below m W T120 65 #[.val (.ref a1), .val (.ref a2), .val (.int (own_min (Int32.ofNat cs.length) (Int32.ofNat ds.length))), .val (.int (1 : Int32)), .val (.int (cs.getD 0 0)), .val (.int (ds.getD 0 0))] [(.ref a2), (.int (Int32.ofNat cs.length))] := k120.aloadN X120 hx (hb hby d_rmcm_64) rfl rfl
        obtain ⟨T122, v122, L122, X122, Q122, k122⟩ := k121.virt (y := (⟨"java/lang/String", "length", "()I"⟩ : MethodName)) (z := (⟨"java/lang/String", "length", "()I"⟩ : MethodName)) (Wd := 1) (cells' := 0) (slots' := 0) (argsL := []) (rest := [(.int (Int32.ofNat cs.length))]) X120 hx hZ hown (by rw [hml]; rfl) (hv 42 rfl) (hv 43 rfl) (notFace_of_selects (args := #[]) (mvT hZ (hv 45 rfl))) (hv 45 rfl) (hv 44 rfl) (hv 46 rfl) (hv 19 rfl) (hb hby d_rmcm_65) (by decide) (rmle l Z a0 hw [] a2 ds cz h0 n0 Z0 O0 SCZ hcz E2 T2) e120 E2 rfl rfl pd_rmcm_0 rfl (Nat.le_of_eq rfl) (by decide) (by decide) rfl rfl (by decide) (by decide)
        obtain ⟨rfl, Nq122, e122q⟩ := Q122
        have N122 := Fr.app N120 Nq122
        have e122 : T122.heap = h0 := e122q
        have k122 : Go p e below m W T122 68 #[.val (.ref a1), .val (.ref a2), .val (.int (own_min (Int32.ofNat cs.length) (Int32.ofNat ds.length))), .val (.int (1 : Int32)), .val (.int (cs.getD 0 0)), .val (.int (ds.getD 0 0))] [(.int (Int32.ofNat ds.length)), (.int (Int32.ofNat cs.length))] := k122
        obtain ⟨T123, v123, L123, X123, Q123, k123⟩ := k122.stat (y := (⟨"java/lang/Integer", "compare", "(II)I"⟩ : MethodName)) (Wd := 0) (cells' := 0) (slots' := 0) (argsL := [(.int (Int32.ofNat cs.length)), (.int (Int32.ofNat ds.length))]) (rest := []) X122 hx hZ hown (by rw [hml]; rfl) (hv 57 rfl) (hv 58 rfl) (hv 60 rfl) (hv 59 rfl) (hb hby d_rmcm_68) (by decide) (rmic l Z a0 hw [] (Int32.ofNat cs.length) (Int32.ofNat ds.length) h0 n0 Z0) e122 rfl rfl pd_rmcm_1 rfl (Nat.le_of_eq rfl) (by decide) (by decide) rfl rfl (by decide) (by decide)
        obtain ⟨rfl, Nq123, e123q⟩ := Q123
        have N123 := Fr.app N122 Nq123
        have e123 : T123.heap = h0 := e123q
        have k123 : Go p e below m W T123 71 #[.val (.ref a1), .val (.ref a2), .val (.int (own_min (Int32.ofNat cs.length) (Int32.ofNat ds.length))), .val (.int (1 : Int32)), .val (.int (cs.getD 0 0)), .val (.int (ds.getD 0 0))] [(.int (own_icmp (Int32.ofNat cs.length) (Int32.ofNat ds.length)))] := k123
        have k124 : Go p e below m W T123 71 #[.val (.ref a1), .val (.ref a2), .val (.int (own_min (Int32.ofNat cs.length) (Int32.ofNat ds.length))), .val (.int (1 : Int32)), .val (.int (cs.getD 0 0)), .val (.int (ds.getD 0 0))] [(.int (own_cmpL cs ds))] := k123.cast (y := (own_cmpL cs ds)) (own_exit (k := 1) inv1 T1.1 T2.1 (by decide) hc16_42)
        exact k124.ireturnI X123 hx Bd.returns (hb hby d_rmcm_71) (BodyLoose.notSynchronized Bd) (by rw [e123]; exact ⟨rfl, N123, rfl⟩) (by decide) (by decide)
    ·
      have k125 : Go p e below m W T34 42 #[.val (.ref a1), .val (.ref a2), .val (.int (own_min (Int32.ofNat cs.length) (Int32.ofNat ds.length))), .val (.int (0 : Int32)), .val (.int (cs.getD 0 0)), .val (.int (ds.getD 0 0))] [(.int (cs.getD 0 0))] := (k36.icmpNo X34 hx (hb hby d_rmcm_37) (XT.ii_eq_f hc37_37)).iload X34 hx (hb hby d_rmcm_40) rfl
      obtain ⟨T126, v126, L126, X126, Q126, k126⟩ := k125.stat (y := (⟨"com/example/promovent/promovent/library/CodePoints", "rank", "(C)I"⟩ : MethodName)) (Wd := 0) (cells' := 0) (slots' := 0) (argsL := [(.int (cs.getD 0 0))]) (rest := []) X34 hx hZ hown (by rw [hml]; rfl) (hv 100 rfl) (hv 101 rfl) (hv 102 rfl) (hv 40 rfl) (hb hby d_rmcm_42) (by decide) (rmrk l Z a0 hw [] (cs.getD 0 0) h0 n0 Z0) e34 rfl rfl pd_rmcm_3 rfl (Nat.le_of_eq rfl) (by decide) (by decide) rfl rfl (by decide) (by decide)
      obtain ⟨rfl, Nq126, e126q⟩ := Q126
      have N126 := Fr.app N34 Nq126
      have e126 : T126.heap = h0 := e126q
      have k126 : Go p e below m W T126 45 #[.val (.ref a1), .val (.ref a2), .val (.int (own_min (Int32.ofNat cs.length) (Int32.ofNat ds.length))), .val (.int (0 : Int32)), .val (.int (cs.getD 0 0)), .val (.int (ds.getD 0 0))] [(.int (own_rank (cs.getD 0 0)))] := k126
      have k127 : Go p e below m W T126 47 #[.val (.ref a1), .val (.ref a2), .val (.int (own_min (Int32.ofNat cs.length) (Int32.ofNat ds.length))), .val (.int (0 : Int32)), .val (.int (cs.getD 0 0)), .val (.int (ds.getD 0 0))] [(.int (ds.getD 0 0)), (.int (own_rank (cs.getD 0 0)))] := k126.iload X126 hx (hb hby d_rmcm_45) rfl
      obtain ⟨T128, v128, L128, X128, Q128, k128⟩ := k127.stat (y := (⟨"com/example/promovent/promovent/library/CodePoints", "rank", "(C)I"⟩ : MethodName)) (Wd := 1) (cells' := 0) (slots' := 0) (argsL := [(.int (ds.getD 0 0))]) (rest := [(.int (own_rank (cs.getD 0 0)))]) X126 hx hZ hown (by rw [hml]; rfl) (hv 100 rfl) (hv 101 rfl) (hv 102 rfl) (hv 40 rfl) (hb hby d_rmcm_47) (by decide) (rmrk l Z a0 hw [] (ds.getD 0 0) h0 n0 Z0) e126 rfl rfl pd_rmcm_3 rfl (Nat.le_of_eq rfl) (by decide) (by decide) rfl rfl (by decide) (by decide)
      obtain ⟨rfl, Nq128, e128q⟩ := Q128
      have N128 := Fr.app N126 Nq128
      have e128 : T128.heap = h0 := e128q
      have k128 : Go p e below m W T128 50 #[.val (.ref a1), .val (.ref a2), .val (.int (own_min (Int32.ofNat cs.length) (Int32.ofNat ds.length))), .val (.int (0 : Int32)), .val (.int (cs.getD 0 0)), .val (.int (ds.getD 0 0))] [(.int (own_rank (ds.getD 0 0))), (.int (own_rank (cs.getD 0 0)))] := k128
      obtain ⟨T129, v129, L129, X129, Q129, k129⟩ := k128.stat (y := (⟨"java/lang/Integer", "compare", "(II)I"⟩ : MethodName)) (Wd := 0) (cells' := 0) (slots' := 0) (argsL := [(.int (own_rank (cs.getD 0 0))), (.int (own_rank (ds.getD 0 0)))]) (rest := []) X128 hx hZ hown (by rw [hml]; rfl) (hv 57 rfl) (hv 58 rfl) (hv 60 rfl) (hv 59 rfl) (hb hby d_rmcm_50) (by decide) (rmic l Z a0 hw [] (own_rank (cs.getD 0 0)) (own_rank (ds.getD 0 0)) h0 n0 Z0) e128 rfl rfl pd_rmcm_1 rfl (Nat.le_of_eq rfl) (by decide) (by decide) rfl rfl (by decide) (by decide)
      obtain ⟨rfl, Nq129, e129q⟩ := Q129
      have N129 := Fr.app N128 Nq129
      have e129 : T129.heap = h0 := e129q
      have k129 : Go p e below m W T129 53 #[.val (.ref a1), .val (.ref a2), .val (.int (own_min (Int32.ofNat cs.length) (Int32.ofNat ds.length))), .val (.int (0 : Int32)), .val (.int (cs.getD 0 0)), .val (.int (ds.getD 0 0))] [(.int (own_icmp (own_rank (cs.getD 0 0)) (own_rank (ds.getD 0 0))))] := k129
      have k130 : Go p e below m W T129 53 #[.val (.ref a1), .val (.ref a2), .val (.int (own_min (Int32.ofNat cs.length) (Int32.ofNat ds.length))), .val (.int (0 : Int32)), .val (.int (cs.getD 0 0)), .val (.int (ds.getD 0 0))] [(.int (own_cmpL cs ds))] := k129.cast (y := (own_cmpL cs ds)) (own_diff inv0 hb0.1 hb0.2 hc37_37)
      exact k130.ireturnI X129 hx Bd.returns (hb hby d_rmcm_53) (BodyLoose.notSynchronized Bd) (by rw [e129]; exact ⟨rfl, N129, rfl⟩) (by decide) (by decide)
  ·
    have k131 : Go p e below m W T24 61 #[.val (.ref a1), .val (.ref a2), .val (.int (own_min (Int32.ofNat cs.length) (Int32.ofNat ds.length))), .val (.int (0 : Int32)), .unset, .unset] [(.ref a1)] := (k27.icmpYes X24 hx (hb hby d_rmcm_16) (XT.ii_ge_t hc16_28) (by decide) (by decide)).aloadN X24 hx (hb hby d_rmcm_60) rfl rfl
    obtain ⟨T132, v132, L132, X132, Q132, k132⟩ := k131.virt (y := (⟨"java/lang/String", "length", "()I"⟩ : MethodName)) (z := (⟨"java/lang/String", "length", "()I"⟩ : MethodName)) (Wd := 0) (cells' := 0) (slots' := 0) (argsL := []) (rest := []) X24 hx hZ hown (by rw [hml]; rfl) (hv 42 rfl) (hv 43 rfl) (notFace_of_selects (args := #[]) (mvT hZ (hv 45 rfl))) (hv 45 rfl) (hv 44 rfl) (hv 46 rfl) (hv 19 rfl) (hb hby d_rmcm_61) (by decide) (rmle l Z a0 hw [] a1 cs cz h0 n0 Z0 O0 SCZ hcz E1 T1) e24 E1 rfl rfl pd_rmcm_0 rfl (Nat.le_of_eq rfl) (by decide) (by decide) rfl rfl (by decide) (by decide)
    obtain ⟨rfl, Nq132, e132q⟩ := Q132
    have N132 := Fr.app N24 Nq132
    have e132 : T132.heap = h0 := e132q
    have k132 : Go p e below m W T132 64 #[.val (.ref a1), .val (.ref a2), .val (.int (own_min (Int32.ofNat cs.length) (Int32.ofNat ds.length))), .val (.int (0 : Int32)), .unset, .unset] [(.int (Int32.ofNat cs.length))] := k132
    have k133 : Go p e below m W T132 65 #[.val (.ref a1), .val (.ref a2), .val (.int (own_min (Int32.ofNat cs.length) (Int32.ofNat ds.length))), .val (.int (0 : Int32)), .unset, .unset] [(.ref a2), (.int (Int32.ofNat cs.length))] := k132.aloadN X132 hx (hb hby d_rmcm_64) rfl rfl
    obtain ⟨T134, v134, L134, X134, Q134, k134⟩ := k133.virt (y := (⟨"java/lang/String", "length", "()I"⟩ : MethodName)) (z := (⟨"java/lang/String", "length", "()I"⟩ : MethodName)) (Wd := 1) (cells' := 0) (slots' := 0) (argsL := []) (rest := [(.int (Int32.ofNat cs.length))]) X132 hx hZ hown (by rw [hml]; rfl) (hv 42 rfl) (hv 43 rfl) (notFace_of_selects (args := #[]) (mvT hZ (hv 45 rfl))) (hv 45 rfl) (hv 44 rfl) (hv 46 rfl) (hv 19 rfl) (hb hby d_rmcm_65) (by decide) (rmle l Z a0 hw [] a2 ds cz h0 n0 Z0 O0 SCZ hcz E2 T2) e132 E2 rfl rfl pd_rmcm_0 rfl (Nat.le_of_eq rfl) (by decide) (by decide) rfl rfl (by decide) (by decide)
    obtain ⟨rfl, Nq134, e134q⟩ := Q134
    have N134 := Fr.app N132 Nq134
    have e134 : T134.heap = h0 := e134q
    have k134 : Go p e below m W T134 68 #[.val (.ref a1), .val (.ref a2), .val (.int (own_min (Int32.ofNat cs.length) (Int32.ofNat ds.length))), .val (.int (0 : Int32)), .unset, .unset] [(.int (Int32.ofNat ds.length)), (.int (Int32.ofNat cs.length))] := k134
    obtain ⟨T135, v135, L135, X135, Q135, k135⟩ := k134.stat (y := (⟨"java/lang/Integer", "compare", "(II)I"⟩ : MethodName)) (Wd := 0) (cells' := 0) (slots' := 0) (argsL := [(.int (Int32.ofNat cs.length)), (.int (Int32.ofNat ds.length))]) (rest := []) X134 hx hZ hown (by rw [hml]; rfl) (hv 57 rfl) (hv 58 rfl) (hv 60 rfl) (hv 59 rfl) (hb hby d_rmcm_68) (by decide) (rmic l Z a0 hw [] (Int32.ofNat cs.length) (Int32.ofNat ds.length) h0 n0 Z0) e134 rfl rfl pd_rmcm_1 rfl (Nat.le_of_eq rfl) (by decide) (by decide) rfl rfl (by decide) (by decide)
    obtain ⟨rfl, Nq135, e135q⟩ := Q135
    have N135 := Fr.app N134 Nq135
    have e135 : T135.heap = h0 := e135q
    have k135 : Go p e below m W T135 71 #[.val (.ref a1), .val (.ref a2), .val (.int (own_min (Int32.ofNat cs.length) (Int32.ofNat ds.length))), .val (.int (0 : Int32)), .unset, .unset] [(.int (own_icmp (Int32.ofNat cs.length) (Int32.ofNat ds.length)))] := k135
    have k136 : Go p e below m W T135 71 #[.val (.ref a1), .val (.ref a2), .val (.int (own_min (Int32.ofNat cs.length) (Int32.ofNat ds.length))), .val (.int (0 : Int32)), .unset, .unset] [(.int (own_cmpL cs ds))] := k135.cast (y := (own_cmpL cs ds)) (own_exit (k := 0) inv0 T1.1 T2.1 (by decide) hc16_28)
    exact k136.ireturnI X135 hx Bd.returns (hb hby d_rmcm_71) (BodyLoose.notSynchronized Bd) (by rw [e135]; exact ⟨rfl, N135, rfl⟩) (by decide) (by decide)

theorem d_rmpu_0 : decode jdk_52_method_4_code 0 = .ok (.getstatic 44, 3) := by decide +kernel
theorem d_rmpu_3 : decode jdk_52_method_4_code 3 = .ok (.ifCond .ne 25, 3) := by decide +kernel
theorem d_rmpu_28 : decode jdk_52_method_4_code 28 = .ok (.iload_n 1, 1) := by decide +kernel
theorem d_rmpu_29 : decode jdk_52_method_4_code 29 = .ok (.iconst 1, 1) := by decide +kernel
theorem d_rmpu_30 : decode jdk_52_method_4_code 30 = .ok (.ishl, 1) := by decide +kernel
theorem d_rmpu_31 : decode jdk_52_method_4_code 31 = .ok (.istore_n 1, 1) := by decide +kernel
theorem d_rmpu_32 : decode jdk_52_method_4_code 32 = .ok (.aload_n 0, 1) := by decide +kernel
theorem d_rmpu_33 : decode jdk_52_method_4_code 33 = .ok (.iload_n 1, 1) := by decide +kernel
theorem d_rmpu_34 : decode jdk_52_method_4_code 34 = .ok (.iinc 1 1, 3) := by decide +kernel
theorem d_rmpu_37 : decode jdk_52_method_4_code 37 = .ok (.iload_n 2, 1) := by decide +kernel
theorem d_rmpu_38 : decode jdk_52_method_4_code 38 = .ok (.getstatic 59, 3) := by decide +kernel
theorem d_rmpu_41 : decode jdk_52_method_4_code 41 = .ok (.ishr, 1) := by decide +kernel
theorem d_rmpu_42 : decode jdk_52_method_4_code 42 = .ok (.i2b, 1) := by decide +kernel
theorem d_rmpu_43 : decode jdk_52_method_4_code 43 = .ok (.bastore, 1) := by decide +kernel
theorem d_rmpu_44 : decode jdk_52_method_4_code 44 = .ok (.aload_n 0, 1) := by decide +kernel
theorem d_rmpu_45 : decode jdk_52_method_4_code 45 = .ok (.iload_n 1, 1) := by decide +kernel
theorem d_rmpu_46 : decode jdk_52_method_4_code 46 = .ok (.iload_n 2, 1) := by decide +kernel
theorem d_rmpu_47 : decode jdk_52_method_4_code 47 = .ok (.getstatic 63, 3) := by decide +kernel
theorem d_rmpu_50 : decode jdk_52_method_4_code 50 = .ok (.ishr, 1) := by decide +kernel
theorem d_rmpu_51 : decode jdk_52_method_4_code 51 = .ok (.i2b, 1) := by decide +kernel
theorem d_rmpu_52 : decode jdk_52_method_4_code 52 = .ok (.bastore, 1) := by decide +kernel
theorem d_rmpu_53 : decode jdk_52_method_4_code 53 = .ok (.return_, 1) := by decide +kernel
theorem ef_rmpu (m : MethodId) (a1 : Addr) (jj : Int32) (cc : Int32) : entryFrame m #[(.ref a1), (.int jj), (.int cc)] 3 = mkF m 0 #[.val (.ref a1), .val (.int jj), .val (.int cc)] [] := by first | (simp [entryFrame, mkF, argsToLocals, Value.category]; done) | rfl
def Q_rmpu (Z : State) (a1 : Addr) (jj : Int32) (cc : Int32) (kb : ClassId) (zz : Int32) (vs : List Value) (ii : Nat) (h0 : Heap) (n0 : Nat) (v : Option Value) (h : Heap) (L : List Loc) : Prop := v = none ∧ Fr n0 L ∧ Keep h0 h [a1] ∧ Arv Z h a1 kb .byte zz ((vs.set ii (.int ((cc >>> ((0 : Int32) &&& 31))).toInt8.toInt32)).set (ii + 1) (.int ((cc >>> ((8 : Int32) &&& 31))).toInt8.toInt32)) (.int (0 : Int32))
set_option maxRecDepth 65536 in
set_option maxHeartbeats 40000000 in
theorem rmpu (l : Launch) (Z : State) (a0 : Array Value) (hw : ∀ d ∈ tables_1, d.before a0 Z = true) (ws : List Jvm.Cond) (a1 : Addr) (jj : Int32) (cc : Int32) (kb : ClassId) (zz : Int32) (vs : List Value) (ii : Nat) (h0 : Heap) (n0 : Nat) (Z0 : n0 ≤ h0.size) (O0 : Old Z n0 h0) (SAD : Sta Z Z.heap "java/lang/StringUTF16" "$assertionsDisabled" "Z" (.int (1 : Int32))) (SHI : Sta Z Z.heap "java/lang/StringUTF16" "HI_BYTE_SHIFT" "I" (.int (0 : Int32))) (SLO : Sta Z Z.heap "java/lang/StringUTF16" "LO_BYTE_SHIFT" "I" (.int (8 : Int32))) (V1 : Arv Z h0 a1 kb .byte zz vs (.int (0 : Int32))) (G1 : n0 ≤ a1) (hz : zz.toNatClampNeg = vs.length) (hj : (jj <<< ((1 : Int32) &&& 31)).toNatClampNeg = ii) (hj0 : ¬ ((jj <<< ((1 : Int32) &&& 31)) < (0 : Int32))) (hi : ii < vs.length) (hk : ((jj <<< ((1 : Int32) &&& 31)) + (1 : Int32)).toNatClampNeg = ii + 1) (hk0 : ¬ (((jj <<< ((1 : Int32) &&& 31)) + (1 : Int32)) < (0 : Int32))) (hi2 : ii + 1 < vs.length) :
    MetFree l (⟨"java/lang/StringUTF16", "putChar", "([BII)V"⟩ : MethodName) (head1 (Jvm.Cond.code (⟨"java/lang/StringUTF16", "putChar", "([BII)V"⟩ : MethodName) jdk_52_method_4_code 3 none :: ws) ({ frames := 0, cells := 0, slots := 0, locals := 0 } : Room)) (fun a U => a = #[(.ref a1), (.int jj), (.int cc)] ∧ Z.Warmed39 U.vm ∧ U.heap = h0) (fun _ _ _ _ _ => True) (fun _ U o U' => ∃ v L, o = .returned v ∧ Q_rmpu Z a1 jj cc kb zz vs ii h0 n0 v U'.heap L ∧ FrameEnd U o U' L ({ frames := 0, cells := 0, slots := 0, locals := 0 } : Room).cells ({ frames := 0, cells := 0, slots := 0, locals := 0 } : Room).slots) := by
  refine MetFree.of_bodySF (plainFor_of_name pn_rmgc) hisR ?_
  intro p e s m args_ below meth c s₁ Bd hml0 hP hK
  obtain ⟨hargs, hZ, hh⟩ := hP
  have hx := Bd.exec
  have hby := Bd.bytes
  have hml : c.maxLocals = 3 := hml0
  have hown : s.vm.findClass "java/lang/StringUTF16" = some m.cls := findClass_of_methodNamed Bd.named
  have hnm := (name_of_methodNamed Bd.named Bd.method).1
  have X0 : Stand p l e ({ frames := 0, cells := 0, slots := 0, locals := 0 } : Room) s m args_ below meth c s₁ [] 0 0 := Stand.of_body Bd
  have e0 : s₁.heap = h0 := by rw [← hh, Bd.state]; rfl
  have N0 := Fr.nil n0
  have hv : ∀ (i : Nat) {d : Jvm.Cond}, tables_1[i]? = some d → d.before a0 Z = true := fun i d q => hw d (List.mem_of_getElem? q)
  have K0 : Keep h0 h0 [a1] := Keep.refl _ _
  have k0 : Go p e below m (s₁.setTop (entryFrame m args_ 3)) s₁ 0 #[.val (.ref a1), .val (.int jj), .val (.int cc)] [] := by rw [hargs]; exact fun t kt => castTop (ef_rmpu m a1 jj cc) kt
  obtain ⟨W, hWW⟩ : ∃ W, W = s₁.setTop (entryFrame m args_ 3) := ⟨_, rfl⟩
  rw [← hWW] at k0 ⊢
  show Done p e below s W (Q_rmpu Z a1 jj cc kb zz vs ii h0 n0) ({ frames := 0, cells := 0, slots := 0, locals := 0 } : Room).cells ({ frames := 0, cells := 0, slots := 0, locals := 0 } : Room).slots
  obtain ⟨T20, X20, e20, k20⟩ := k0.getS X0 hx hZ hown (host := "") (Or.inl (hv 122 rfl)) Via.refl e0 (SAD.ext O0.2) (hb hby d_rmpu_0)
  have k20 : Go p e below m W T20 3 #[.val (.ref a1), .val (.int jj), .val (.int cc)] [(.int (1 : Int32))] := k20
  have k21 : Go p e below m W T20 32 #[.val (.ref a1), .val (.int (jj <<< ((1 : Int32) &&& 31))), .val (.int cc)] [] := ((((k20.ifYes X20 hx (hb hby d_rmpu_3) (XT.i0_ne_t (by decide)) (by decide) (by decide)).iloadN X20 hx (hb hby d_rmpu_28) rfl).iconst X20 hx (hb hby d_rmpu_29) (v := (1 : Int32)) rfl).ishl X20 hx (hb hby d_rmpu_30)).istoreN X20 hx (hb hby d_rmpu_31) rfl
  have k22 : Go p e below m W T20 37 #[.val (.ref a1), .val (.int ((jj <<< ((1 : Int32) &&& 31)) + (1 : Int32))), .val (.int cc)] [(.int (jj <<< ((1 : Int32) &&& 31))), (.ref a1)] := ((k21.aloadN X20 hx (hb hby d_rmpu_32) rfl rfl).iloadN X20 hx (hb hby d_rmpu_33) rfl).iinc X20 hx (hb hby d_rmpu_34) (v := (1 : Int32)) rfl rfl rfl
  have k23 : Go p e below m W T20 38 #[.val (.ref a1), .val (.int ((jj <<< ((1 : Int32) &&& 31)) + (1 : Int32))), .val (.int cc)] [(.int cc), (.int (jj <<< ((1 : Int32) &&& 31))), (.ref a1)] := k22.iloadN X20 hx (hb hby d_rmpu_37) rfl
  obtain ⟨T24, X24, e24, k24⟩ := k23.getS X20 hx hZ hown (host := "") (Or.inl (hv 123 rfl)) Via.refl e20 (SHI.ext O0.2) (hb hby d_rmpu_38)
  have k24 : Go p e below m W T24 41 #[.val (.ref a1), .val (.int ((jj <<< ((1 : Int32) &&& 31)) + (1 : Int32))), .val (.int cc)] [(.int (0 : Int32)), (.int cc), (.int (jj <<< ((1 : Int32) &&& 31))), (.ref a1)] := k24
  have k25 : Go p e below m W T24 43 #[.val (.ref a1), .val (.int ((jj <<< ((1 : Int32) &&& 31)) + (1 : Int32))), .val (.int cc)] [(.int ((cc >>> ((0 : Int32) &&& 31))).toInt8.toInt32), (.int (jj <<< ((1 : Int32) &&& 31))), (.ref a1)] := (k24.ishr X24 hx (hb hby d_rmpu_41)).i2b X24 hx (hb hby d_rmpu_42)
  obtain ⟨T26, h26, l26, X26, e26, W26, V26, N26, k26⟩ := k25.bastore (i := ii) X24 hx hZ e24 V1 hz hj hj0 hi N0 G1 (hb hby d_rmpu_43)
  have k26 : Go p e below m W T26 44 #[.val (.ref a1), .val (.int ((jj <<< ((1 : Int32) &&& 31)) + (1 : Int32))), .val (.int cc)] [] := k26
  have Z26 : n0 ≤ h26.size := (Wr.size W26).symm ▸ Z0
  rw [own_narb] at V26
  have V26 : Arv Z h26 a1 kb .byte zz (vs.set ii (.int ((cc >>> ((0 : Int32) &&& 31))).toInt8.toInt32)) (.int (0 : Int32)) := V26
  have K26 : Keep h0 h26 [a1] := K0.wr W26 (Or.inl (List.mem_of_getElem? (i := 0) rfl))
  have k27 : Go p e below m W T26 47 #[.val (.ref a1), .val (.int ((jj <<< ((1 : Int32) &&& 31)) + (1 : Int32))), .val (.int cc)] [(.int cc), (.int ((jj <<< ((1 : Int32) &&& 31)) + (1 : Int32))), (.ref a1)] := ((k26.aloadN X26 hx (hb hby d_rmpu_44) rfl rfl).iloadN X26 hx (hb hby d_rmpu_45) rfl).iloadN X26 hx (hb hby d_rmpu_46) rfl
  have g_1 := O0.wr W26 G1
  obtain ⟨T28, X28, e28, k28⟩ := k27.getS X26 hx hZ hown (host := "") (Or.inl (hv 124 rfl)) Via.refl e26 (SLO.ext g_1.2) (hb hby d_rmpu_47)
  have k28 : Go p e below m W T28 50 #[.val (.ref a1), .val (.int ((jj <<< ((1 : Int32) &&& 31)) + (1 : Int32))), .val (.int cc)] [(.int (8 : Int32)), (.int cc), (.int ((jj <<< ((1 : Int32) &&& 31)) + (1 : Int32))), (.ref a1)] := k28
  have k29 : Go p e below m W T28 52 #[.val (.ref a1), .val (.int ((jj <<< ((1 : Int32) &&& 31)) + (1 : Int32))), .val (.int cc)] [(.int ((cc >>> ((8 : Int32) &&& 31))).toInt8.toInt32), (.int ((jj <<< ((1 : Int32) &&& 31)) + (1 : Int32))), (.ref a1)] := (k28.ishr X28 hx (hb hby d_rmpu_50)).i2b X28 hx (hb hby d_rmpu_51)
  obtain ⟨T30, h30, l30, X30, e30, W30, V30, N30, k30⟩ := k29.bastore (i := (ii + 1)) X28 hx hZ e28 V26 (by rw [List.length_set]; exact hz) hk hk0 (by rw [List.length_set]; exact hi2) N26 G1 (hb hby d_rmpu_52)
  have k30 : Go p e below m W T30 53 #[.val (.ref a1), .val (.int ((jj <<< ((1 : Int32) &&& 31)) + (1 : Int32))), .val (.int cc)] [] := k30
  have Z30 : n0 ≤ h30.size := (Wr.size W30).symm ▸ Z26
  rw [own_narb] at V30
  have V30 : Arv Z h30 a1 kb .byte zz ((vs.set ii (.int ((cc >>> ((0 : Int32) &&& 31))).toInt8.toInt32)).set (ii + 1) (.int ((cc >>> ((8 : Int32) &&& 31))).toInt8.toInt32)) (.int (0 : Int32)) := V30
  have K30 : Keep h0 h30 [a1] := K26.wr W30 (Or.inl (List.mem_of_getElem? (i := 0) rfl))
  exact k30.return_ X30 hx Bd.returns (hb hby d_rmpu_53) (BodyLoose.notSynchronized Bd) (by rw [e30]; exact ⟨rfl, N30, K30, V30⟩) (by decide) (by decide)

theorem d_rms4_0 : decode jdk_42_method_149_code 0 = .ok (.aload_n 0, 1) := by decide +kernel
theorem d_rms4_1 : decode jdk_42_method_149_code 1 = .ok (.invokespecial 1, 3) := by decide +kernel
theorem d_rms4_4 : decode jdk_42_method_149_code 4 = .ok (.iload_n 3, 1) := by decide +kernel
theorem d_rms4_5 : decode jdk_42_method_149_code 5 = .ok (.ifCond .ne 22, 3) := by decide +kernel
theorem d_rms4_8 : decode jdk_42_method_149_code 8 = .ok (.aload_n 0, 1) := by decide +kernel
theorem d_rms4_9 : decode jdk_42_method_149_code 9 = .ok (.ldc 7, 2) := by decide +kernel
theorem d_rms4_11 : decode jdk_42_method_149_code 11 = .ok (.getfield 9, 3) := by decide +kernel
theorem d_rms4_14 : decode jdk_42_method_149_code 14 = .ok (.putfield 9, 3) := by decide +kernel
theorem d_rms4_17 : decode jdk_42_method_149_code 17 = .ok (.aload_n 0, 1) := by decide +kernel
theorem d_rms4_18 : decode jdk_42_method_149_code 18 = .ok (.ldc 7, 2) := by decide +kernel
theorem d_rms4_20 : decode jdk_42_method_149_code 20 = .ok (.getfield 15, 3) := by decide +kernel
theorem d_rms4_23 : decode jdk_42_method_149_code 23 = .ok (.putfield 15, 3) := by decide +kernel
theorem d_rms4_26 : decode jdk_42_method_149_code 26 = .ok (.return_, 1) := by decide +kernel
theorem ef_rms4 (m : MethodId) (a1 : Addr) (b1 : Addr) : entryFrame m #[(.ref a1), (.ref b1), (.int (0 : Int32)), (.int (0 : Int32)), .null] 6 = mkF m 0 #[.val (.ref a1), .val (.ref b1), .val (.int (0 : Int32)), .val (.int (0 : Int32)), .val .null, .unset] [] := by first | (simp [entryFrame, mkF, argsToLocals, Value.category]; done) | rfl
def Q_rms4 (Z : State) (a1 : Addr) (b1 : Addr) (u0 : Value) (u1 : Value) (h0 : Heap) (n0 : Nat) (v : Option Value) (h : Heap) (L : List Loc) : Prop := ∃ (ot : Addr) (ok : ClassId), v = none ∧ Fr n0 L ∧ Keep h0 h [a1] ∧ Exa Z h a1 "java/lang/String" ∧ Fld Z h a1 "java/lang/String" "value" "[B" (.ref ot) ∧ Fld Z h a1 "java/lang/String" "coder" "B" (.int (0 : Int32)) ∧ Arv Z h ot ok .byte (0 : Int32) [] (.int (0 : Int32))
set_option maxRecDepth 65536 in
set_option maxHeartbeats 40000000 in
theorem rms4 (l : Launch) (Z : State) (a0 : Array Value) (hw : ∀ d ∈ tables_1, d.before a0 Z = true) (ws : List Jvm.Cond) (a1 : Addr) (b1 : Addr) (u0 : Value) (u1 : Value) (h0 : Heap) (n0 : Nat) (Z0 : n0 ≤ h0.size) (E1 : Exa Z h0 a1 "java/lang/String") (G1 : n0 ≤ a1) (F0 : Fld Z h0 a1 "java/lang/String" "value" "[B" u0) (F1 : Fld Z h0 a1 "java/lang/String" "coder" "B" u1) :
    MetFree l (⟨"java/lang/String", "<init>", "([CIILjava/lang/Void;)V"⟩ : MethodName) (head1 (Jvm.Cond.code (⟨"java/lang/String", "<init>", "([CIILjava/lang/Void;)V"⟩ : MethodName) jdk_42_method_149_code 6 none :: ws) ({ frames := 1, cells := 4, slots := 8, locals := 12 } : Room)) (fun a U => a = #[(.ref a1), (.ref b1), (.int (0 : Int32)), (.int (0 : Int32)), .null] ∧ Z.Warmed39 U.vm ∧ U.heap = h0 ∧ CHv Z own_L U.vm h0 ∧ ∀ x ∈ [a1], Safe Z own_L U.vm h0 x) (fun _ _ _ _ _ => True) (fun _ U o U' => ∃ v L, o = .returned v ∧ Q_rms4 Z a1 b1 u0 u1 h0 n0 v U'.heap L ∧ CHr Z own_L U.vm U.heap U'.vm U'.heap ∧ ReturnedEndW U o U' L ({ frames := 1, cells := 4, slots := 8, locals := 12 } : Room).cells ({ frames := 1, cells := 4, slots := 8, locals := 12 } : Room).slots) := by
  refine MetFree.of_bodySF (plainFor_of_name pn_rmci) hisR ?_
  intro p e s m args_ below meth c s₁ Bd hml0 hP hK
  obtain ⟨hargs, hZ, hh, hcv, hsf0⟩ := hP
  have hx := Bd.exec
  have hby := Bd.bytes
  have hml : c.maxLocals = 6 := hml0
  have hown : s.vm.findClass "java/lang/String" = some m.cls := findClass_of_methodNamed Bd.named
  have hnm := (name_of_methodNamed Bd.named Bd.method).1
  have X0 : Stand p l e ({ frames := 1, cells := 4, slots := 8, locals := 12 } : Room) (s.setVm s.vm) m args_ below meth c s₁ [] 0 0 := Stand.of_body Bd
  have e0 : s₁.heap = h0 := by rw [← hh, Bd.state]; rfl
  have N0 := Fr.nil n0
  have C0 : CHr Z own_L s.vm h0 s.vm h0 := CHr.refl hcv
  have hS0 : s.Since s.vm h0.size := (State.WarmedH.refl s).since _
  have hk0 : h0.size ≤ h0.size := Nat.le_refl _
  have own_EL : EW Z a0 own_L := own_EL0 hw
  have own_sa : ∀ a ∈ Bundle.stringAtoms, a.before a0 Z = true := own_sa0 hw
  have hv : ∀ (i : Nat) {d : Jvm.Cond}, tables_1[i]? = some d → d.before a0 Z = true := fun i d q => hw d (List.mem_of_getElem? q)
  have K0 : Keep h0 h0 [a1] := Keep.refl _ _
  have k0 : Go p e below m (s₁.setTop (entryFrame m args_ 6)) s₁ 0 #[.val (.ref a1), .val (.ref b1), .val (.int (0 : Int32)), .val (.int (0 : Int32)), .val .null, .unset] [] := by rw [hargs]; exact fun t kt => castTop (ef_rms4 m a1 b1) kt
  obtain ⟨W, hWW⟩ : ∃ W, W = s₁.setTop (entryFrame m args_ 6) := ⟨_, rfl⟩
  rw [← hWW] at k0 ⊢
  show DoneS p e below Z own_L s W (Q_rms4 Z a1 b1 u0 u1 h0 n0) ({ frames := 1, cells := 4, slots := 8, locals := 12 } : Room).cells ({ frames := 1, cells := 4, slots := 8, locals := 12 } : Room).slots
  have k20 : Go p e below m W s₁ 1 #[.val (.ref a1), .val (.ref b1), .val (.int (0 : Int32)), .val (.int (0 : Int32)), .val .null, .unset] [(.ref a1)] := k0.aloadN X0 hx (hb hby d_rms4_0) rfl rfl
  obtain ⟨T21, X21, e21, k21⟩ := k20.initO (Wd := 0) X0 hx hZ hown (by rw [hml]; rfl) (hv 27 rfl) (hv 28 rfl) (hv 29 rfl) e0 (hb hby d_rms4_1) (Nat.le_of_eq rfl) (by decide) (by decide)
  have k21 : Go p e below m W T21 4 #[.val (.ref a1), .val (.ref b1), .val (.int (0 : Int32)), .val (.int (0 : Int32)), .val .null, .unset] [] := k21
  have k22 : Go p e below m W T21 9 #[.val (.ref a1), .val (.ref b1), .val (.int (0 : Int32)), .val (.int (0 : Int32)), .val .null, .unset] [(.ref a1)] := ((k21.iloadN X21 hx (hb hby d_rms4_4) rfl).ifNo X21 hx (hb hby d_rms4_5) (XT.i0_ne_f (by decide))).aloadN X21 hx (hb hby d_rms4_8) rfl rfl
  obtain ⟨T23, h23, b23, kk23, bb23, kb23, X23, e23, E23, hS23, hq23, hZ23, hown23, fe23, fc23, fv23, fa23, D23, hne23, k23⟩ := k22.ldcS (cells' := 2) (slots' := 4) (n := 0) (vs := []) (z := (0 : Int32)) X21 hx hZ hown (hv 30 rfl) own_sa e21 hS0 hk0 own_EL (by decide) C0.1 own_t0 (by decide) rfl (hb hby d_rms4_9) (by decide) (by decide) rfl rfl (by decide) (by decide)
  have k23 : Go p e below m W T23 11 #[.val (.ref a1), .val (.ref b1), .val (.int (0 : Int32)), .val (.int (0 : Int32)), .val .null, .unset] [(.ref b23), (.ref a1)] := k23
  have Z23 : n0 ≤ h23.size := Nat.le_trans Z0 E23.1
  have C23 := C0.trans D23
  have sf24 := D23.safe E1.lt (hsf0 _ (List.mem_of_getElem? (i := 0) rfl))
  have nl23_a1 := hne23 _ sf24
  have K23 : Keep h0 h23 [a1] := K0.ext E23
  obtain ⟨T25, X25, e25, k25⟩ := k23.getF X23 hx hZ23 hown23 (host := "") (Or.inl (hv 36 rfl)) Via.refl e23 fv23 (hb hby d_rms4_11)
  have k25 : Go p e below m W T25 14 #[.val (.ref a1), .val (.ref b1), .val (.int (0 : Int32)), .val (.int (0 : Int32)), .val .null, .unset] [(.ref bb23), (.ref a1)] := k25
  have g_1 := F0.ext E23
  have g_2 := E1.ext E23
  obtain ⟨T26, h26, l26, X26, e26, W26, N26, k26⟩ := k25.putF X25 hx hZ23 hown23 (host := "") (Or.inl (hv 36 rfl)) Via.refl e25 g_1 g_2 (Or.inr ⟨(hv 32 rfl), rfl, hnm⟩) (hv 18 rfl) (ty := (.array .byte)) (by decide) rfl rfl N0 G1 (hb hby d_rms4_14)
  have k26 : Go p e below m W T26 17 #[.val (.ref a1), .val (.ref b1), .val (.int (0 : Int32)), .val (.int (0 : Int32)), .val .null, .unset] [] := k26
  have Z26 : n0 ≤ h26.size := (Wr.size W26).symm ▸ Z23
  have DC26 := CHr.wr W26 sf24 C23.1
  have C26 := C23.trans DC26
  have hk26 : _ ≤ h26.size := Nat.le_trans hq23 DC26.2.1
  have K26 : Keep h0 h26 [a1] := K23.wr W26 (Or.inl (List.mem_of_getElem? (i := 0) rfl))
  have k27 : Go p e below m W T26 18 #[.val (.ref a1), .val (.ref b1), .val (.int (0 : Int32)), .val (.int (0 : Int32)), .val .null, .unset] [(.ref a1)] := k26.aloadN X26 hx (hb hby d_rms4_17) rfl rfl
  obtain ⟨T28, h28, b28, kk28, bb28, kb28, X28, e28, E28, hS28, hq28, hZ28, hown28, fe28, fc28, fv28, fa28, D28, hne28, k28⟩ := k27.ldcS (cells' := 4) (slots' := 8) (n := 0) (vs := []) (z := (0 : Int32)) X26 hx hZ23 hown23 (hv 30 rfl) own_sa e26 hS23 hk26 own_EL (by decide) C26.1 own_t0 (by decide) rfl (hb hby d_rms4_18) (by decide) (by decide) rfl rfl (by decide) (by decide)
  have k28 : Go p e below m W T28 20 #[.val (.ref a1), .val (.ref b1), .val (.int (0 : Int32)), .val (.int (0 : Int32)), .val .null, .unset] [(.ref b28), (.ref a1)] := k28
  have Z28 : n0 ≤ h28.size := Nat.le_trans Z26 E28.1
  have C28 := C26.trans D28
  have g_3 := g_2.wr W26
  have g_4 := DC26.safe g_2.lt sf24
  have sf29 := D28.safe g_3.lt g_4
  have nl28_a1 := hne28 _ sf29
  have K28 : Keep h0 h28 [a1] := K26.ext E28
  obtain ⟨T30, X30, e30, k30⟩ := k28.getF X28 hx hZ28 hown28 (host := "") (Or.inl (hv 37 rfl)) Via.refl e28 fc28 (hb hby d_rms4_20)
  have k30 : Go p e below m W T30 23 #[.val (.ref a1), .val (.ref b1), .val (.int (0 : Int32)), .val (.int (0 : Int32)), .val .null, .unset] [(.int (0 : Int32)), (.ref a1)] := k30
  have g_5 := ((F1.ext E23).other W26 (Or.inr (slot_ne (Or.inr (hv 33 rfl)) (Or.inr (hv 32 rfl)) (by decide) (by decide : parseFieldDescriptor "B" = some .byte) (by decide : parseFieldDescriptor "[B" = some (.array .byte))))).ext E28
  have g_6 := g_3.ext E28
  obtain ⟨T31, h31, l31, X31, e31, W31, N31, k31⟩ := k30.putF X30 hx hZ28 hown28 (host := "") (Or.inl (hv 37 rfl)) Via.refl e30 g_5 g_6 (Or.inr ⟨(hv 33 rfl), rfl, hnm⟩) (hv 18 rfl) (ty := .byte) (by decide) rfl rfl N26 G1 (hb hby d_rms4_23)
  have k31 : Go p e below m W T31 26 #[.val (.ref a1), .val (.ref b1), .val (.int (0 : Int32)), .val (.int (0 : Int32)), .val .null, .unset] [] := k31
  have Z31 : n0 ≤ h31.size := (Wr.size W31).symm ▸ Z28
  have DC31 := CHr.wr W31 sf29 C28.1
  have C31 := C28.trans DC31
  have hk31 : _ ≤ h31.size := Nat.le_trans hq28 DC31.2.1
  have K31 : Keep h0 h31 [a1] := K28.wr W31 (Or.inl (List.mem_of_getElem? (i := 0) rfl))
  have g_7 := g_6.wr W31
  have g_8 := ((g_1.same W26).ext E28).other W31 (Or.inr (slot_ne (Or.inr (hv 32 rfl)) (Or.inr (hv 33 rfl)) (by decide) (by decide : parseFieldDescriptor "[B" = some (.array .byte)) (by decide : parseFieldDescriptor "B" = some .byte)))
  have g_9 := g_5.same W31
  have g_10 := ((fa23.other W26 (Ne.symm nl23_a1.2)).ext E28).other W31 (Ne.symm nl23_a1.2)
  exact k31.returnS X31 hx hZ28 own_EL hS28 hk31 e31 (by rw [hh]; exact C31) Bd.returns (hb hby d_rms4_26) (BodyLoose.notSynchronized Bd) (by rw [e31]; exact ⟨bb23, kb23, rfl, N31, K31, g_7, g_8, g_9, g_10⟩) (by decide) (by decide)

theorem d_rms1_0 : decode jdk_42_method_3_code 0 = .ok (.aload_n 0, 1) := by decide +kernel
theorem d_rms1_1 : decode jdk_42_method_3_code 1 = .ok (.aload_n 1, 1) := by decide +kernel
theorem d_rms1_2 : decode jdk_42_method_3_code 2 = .ok (.iconst 0, 1) := by decide +kernel
theorem d_rms1_3 : decode jdk_42_method_3_code 3 = .ok (.aload_n 1, 1) := by decide +kernel
theorem d_rms1_4 : decode jdk_42_method_3_code 4 = .ok (.arraylength, 1) := by decide +kernel
theorem d_rms1_5 : decode jdk_42_method_3_code 5 = .ok (.aconst_null, 1) := by decide +kernel
theorem d_rms1_6 : decode jdk_42_method_3_code 6 = .ok (.invokespecial 27, 3) := by decide +kernel
theorem d_rms1_9 : decode jdk_42_method_3_code 9 = .ok (.return_, 1) := by decide +kernel
theorem pd_rms1_0 : parseMethodDescriptor "([CIILjava/lang/Void;)V" = some ⟨[(.array .char), .int, .int, (.object "java/lang/Void")], none⟩ := by decide +kernel
theorem ef_rms1 (m : MethodId) (a1 : Addr) (b1 : Addr) : entryFrame m #[(.ref a1), (.ref b1)] 2 = mkF m 0 #[.val (.ref a1), .val (.ref b1)] [] := by first | (simp [entryFrame, mkF, argsToLocals, Value.category]; done) | rfl
def Q_rms1 (Z : State) (a1 : Addr) (b1 : Addr) (k1 : ClassId) (u0 : Value) (u1 : Value) (h0 : Heap) (n0 : Nat) (v : Option Value) (h : Heap) (L : List Loc) : Prop := ∃ (ot : Addr) (ok : ClassId), v = none ∧ Fr n0 L ∧ Keep h0 h [a1] ∧ Exa Z h a1 "java/lang/String" ∧ Fld Z h a1 "java/lang/String" "value" "[B" (.ref ot) ∧ Fld Z h a1 "java/lang/String" "coder" "B" (.int (0 : Int32)) ∧ Arv Z h ot ok .byte (0 : Int32) [] (.int (0 : Int32))
set_option maxRecDepth 65536 in
set_option maxHeartbeats 40000000 in
theorem rms1 (l : Launch) (Z : State) (a0 : Array Value) (hw : ∀ d ∈ tables_1, d.before a0 Z = true) (ws : List Jvm.Cond) (a1 : Addr) (b1 : Addr) (k1 : ClassId) (u0 : Value) (u1 : Value) (h0 : Heap) (n0 : Nat) (Z0 : n0 ≤ h0.size) (E1 : Exa Z h0 a1 "java/lang/String") (G1 : n0 ≤ a1) (F0 : Fld Z h0 a1 "java/lang/String" "value" "[B" u0) (F1 : Fld Z h0 a1 "java/lang/String" "coder" "B" u1) (V1 : Arv Z h0 b1 k1 .char (0 : Int32) [] (.int (0 : Int32))) :
    MetFree l (⟨"java/lang/String", "<init>", "([C)V"⟩ : MethodName) (head1 (Jvm.Cond.code (⟨"java/lang/String", "<init>", "([C)V"⟩ : MethodName) jdk_42_method_3_code 2 none :: ws) ({ frames := 2, cells := 4, slots := 8, locals := 29 } : Room)) (fun a U => a = #[(.ref a1), (.ref b1)] ∧ Z.Warmed39 U.vm ∧ U.heap = h0 ∧ CHv Z own_L U.vm h0 ∧ ∀ x ∈ [a1], Safe Z own_L U.vm h0 x) (fun _ _ _ _ _ => True) (fun _ U o U' => ∃ v L, o = .returned v ∧ Q_rms1 Z a1 b1 k1 u0 u1 h0 n0 v U'.heap L ∧ CHr Z own_L U.vm U.heap U'.vm U'.heap ∧ ReturnedEndW U o U' L ({ frames := 2, cells := 4, slots := 8, locals := 29 } : Room).cells ({ frames := 2, cells := 4, slots := 8, locals := 29 } : Room).slots) := by
  refine MetFree.of_bodySF (plainFor_of_name pn_rmci) hisR ?_
  intro p e s m args_ below meth c s₁ Bd hml0 hP hK
  obtain ⟨hargs, hZ, hh, hcv, hsf0⟩ := hP
  have hx := Bd.exec
  have hby := Bd.bytes
  have hml : c.maxLocals = 2 := hml0
  have hown : s.vm.findClass "java/lang/String" = some m.cls := findClass_of_methodNamed Bd.named
  have hnm := (name_of_methodNamed Bd.named Bd.method).1
  have X0 : Stand p l e ({ frames := 2, cells := 4, slots := 8, locals := 29 } : Room) (s.setVm s.vm) m args_ below meth c s₁ [] 0 0 := Stand.of_body Bd
  have e0 : s₁.heap = h0 := by rw [← hh, Bd.state]; rfl
  have N0 := Fr.nil n0
  have C0 : CHr Z own_L s.vm h0 s.vm h0 := CHr.refl hcv
  have hS0 : s.Since s.vm h0.size := (State.WarmedH.refl s).since _
  have hk0 : h0.size ≤ h0.size := Nat.le_refl _
  have own_EL : EW Z a0 own_L := own_EL0 hw
  have own_sa : ∀ a ∈ Bundle.stringAtoms, a.before a0 Z = true := own_sa0 hw
  have hv : ∀ (i : Nat) {d : Jvm.Cond}, tables_1[i]? = some d → d.before a0 Z = true := fun i d q => hw d (List.mem_of_getElem? q)
  have K0 : Keep h0 h0 [a1] := Keep.refl _ _
  have k0 : Go p e below m (s₁.setTop (entryFrame m args_ 2)) s₁ 0 #[.val (.ref a1), .val (.ref b1)] [] := by rw [hargs]; exact fun t kt => castTop (ef_rms1 m a1 b1) kt
  obtain ⟨W, hWW⟩ : ∃ W, W = s₁.setTop (entryFrame m args_ 2) := ⟨_, rfl⟩
  rw [← hWW] at k0 ⊢
  show DoneS p e below Z own_L s W (Q_rms1 Z a1 b1 k1 u0 u1 h0 n0) ({ frames := 2, cells := 4, slots := 8, locals := 29 } : Room).cells ({ frames := 2, cells := 4, slots := 8, locals := 29 } : Room).slots
  have k20 : Go p e below m W s₁ 4 #[.val (.ref a1), .val (.ref b1)] [(.ref b1), (.int (0 : Int32)), (.ref b1), (.ref a1)] := (((k0.aloadN X0 hx (hb hby d_rms1_0) rfl rfl).aloadN X0 hx (hb hby d_rms1_1) rfl rfl).iconst X0 hx (hb hby d_rms1_2) (v := (0 : Int32)) rfl).aloadN X0 hx (hb hby d_rms1_3) rfl rfl
  have k21 : Go p e below m W s₁ 6 #[.val (.ref a1), .val (.ref b1)] [.null, (.int (0 : Int32)), (.int (0 : Int32)), (.ref b1), (.ref a1)] := (k20.arraylength X0 hx hZ e0 V1 (hb hby d_rms1_4)).aconstNull X0 hx (hb hby d_rms1_5)
  obtain ⟨T22, v22, L22, X22, Q22, D22, hS22, hZ22, hown22, k22⟩ := k21.specS (y := (⟨"java/lang/String", "<init>", "([CIILjava/lang/Void;)V"⟩ : MethodName)) (b := a1) (Wd := 0) (cells' := 4) (slots' := 8) (xs := [a1]) (argsL := [(.ref b1), (.int (0 : Int32)), (.int (0 : Int32)), .null]) (rest := []) X0 hx hZ hown (by rw [hml]; rfl) rfl (hv 23 rfl) (hv 24 rfl) (hv 26 rfl) (hv 19 rfl) (hb hby d_rms1_6) (by decide) hS0 hk0 own_EL C0.1 (sfS (hsf0 _ (List.mem_of_getElem? (i := 0) rfl)) sf0) (rms4 l Z a0 hw [] a1 b1 u0 u1 h0 n0 Z0 E1 G1 F0 F1) e0 rfl rfl pd_rms1_0 rfl (Nat.le_of_eq rfl) (by decide) (by decide) rfl rfl (by decide) (by decide)
  obtain ⟨ot_22, ok_22, rfl, Nq22, Kq22, q22_0, q22_1, q22_2, q22_3⟩ := Q22
  have N22 := Fr.app N0 Nq22
  obtain ⟨h22, e22⟩ : ∃ h, T22.heap = h := ⟨_, rfl⟩
  rw [e22] at Kq22 q22_0 q22_1 q22_2 q22_3
  have Z22 : n0 ≤ h22.size := Nat.le_trans Z0 Kq22.1
  have K22 : Keep h0 h22 [a1] := K0.trans Kq22 (by intro x q; simp only [List.mem_cons, List.not_mem_nil, or_false] at q; rcases q with rfl; exact (Or.inl (List.mem_of_getElem? (i := 0) rfl)))
  have k22 : Go p e below m W T22 9 #[.val (.ref a1), .val (.ref b1)] [] := k22
  rw [e22] at D22 hS22
  have C22 := C0.trans D22
  exact k22.returnS X22 hx hZ22 own_EL hS22 (Nat.le_refl _) e22 (by rw [hh]; exact C22) Bd.returns (hb hby d_rms1_9) (BodyLoose.notSynchronized Bd) (by rw [e22]; exact ⟨ot_22, ok_22, rfl, N22, K22, q22_0, q22_1, q22_2, q22_3⟩) (by decide) (by decide)

theorem d_rmmk0_0 : decode method_5_code 0 = .ok (.iload_n 1, 1) := by decide +kernel
theorem d_rmmk0_1 : decode method_5_code 1 = .ok (.ifCond .ne 14, 3) := by decide +kernel
theorem d_rmmk0_4 : decode method_5_code 4 = .ok (.new 14, 3) := by decide +kernel
theorem d_rmmk0_7 : decode method_5_code 7 = .ok (.dup, 1) := by decide +kernel
theorem d_rmmk0_8 : decode method_5_code 8 = .ok (.iconst 0, 1) := by decide +kernel
theorem d_rmmk0_9 : decode method_5_code 9 = .ok (.newarray .char, 2) := by decide +kernel
theorem d_rmmk0_11 : decode method_5_code 11 = .ok (.invokespecial 16, 3) := by decide +kernel
theorem d_rmmk0_14 : decode method_5_code 14 = .ok (.areturn, 1) := by decide +kernel
theorem pd_rmmk0_0 : parseMethodDescriptor "([C)V" = some ⟨[(.array .char)], none⟩ := by decide +kernel
theorem ef_rmmk0 (m : MethodId) (b1 : Addr) : entryFrame m #[(.ref b1), (.int (0 : Int32))] 2 = mkF m 0 #[.val (.ref b1), .val (.int (0 : Int32))] [] := by first | (simp [entryFrame, mkF, argsToLocals, Value.category]; done) | rfl
def Q_rmmk0 (Z : State) (b1 : Addr) (k1 : ClassId) (x0 : Int32) (x1 : Int32) (x2 : Int32) (x3 : Int32) (cz : Int32) (h0 : Heap) (n0 : Nat) (v : Option Value) (h : Heap) (L : List Loc) : Prop := ∃ (ro : Addr), v = some (.ref ro) ∧ Fr n0 L ∧ Keep h0 h [] ∧ Exa Z h ro "java/lang/String" ∧ own_Str Z h ro [] ∧ n0 ≤ ro ∧ h0.size ≤ ro
set_option maxRecDepth 65536 in
set_option maxHeartbeats 40000000 in
theorem rmmk0 (l : Launch) (Z : State) (a0 : Array Value) (hw : ∀ d ∈ tables_1, d.before a0 Z = true) (ws : List Jvm.Cond) (b1 : Addr) (k1 : ClassId) (x0 : Int32) (x1 : Int32) (x2 : Int32) (x3 : Int32) (cz : Int32) (h0 : Heap) (n0 : Nat) (Z0 : n0 ≤ h0.size) (O0 : Old Z n0 h0) (SCZ : Sta Z Z.heap "java/lang/String" "COMPACT_STRINGS" "Z" (.int cz)) (hcz : ¬ (cz = (0 : Int32))) (SAD : Sta Z Z.heap "java/lang/StringUTF16" "$assertionsDisabled" "Z" (.int (1 : Int32))) (SHI : Sta Z Z.heap "java/lang/StringUTF16" "HI_BYTE_SHIFT" "I" (.int (0 : Int32))) (SLO : Sta Z Z.heap "java/lang/StringUTF16" "LO_BYTE_SHIFT" "I" (.int (8 : Int32))) (V1 : Arv Z h0 b1 k1 .char (4 : Int32) [(.int x0), (.int x1), (.int x2), (.int x3)] (.int (0 : Int32))) :
    MetFree l (⟨"com/example/promovent/promovent/library/CodePointsComparePinLaw", "make", "([CI)Ljava/lang/String;"⟩ : MethodName) (head1 (Jvm.Cond.code (⟨"com/example/promovent/promovent/library/CodePointsComparePinLaw", "make", "([CI)Ljava/lang/String;"⟩ : MethodName) method_5_code 2 (some (.object "java/lang/String")) :: ws) ({ frames := 3, cells := 6, slots := 12, locals := 43 } : Room)) (fun a U => a = #[(.ref b1), (.int (0 : Int32))] ∧ Z.Warmed39 U.vm ∧ U.heap = h0 ∧ CHv Z own_L U.vm h0 ∧ ∀ x ∈ ([] : List Addr), Safe Z own_L U.vm h0 x) (fun _ _ _ _ _ => True) (fun _ U o U' => ∃ v L, o = .returned v ∧ Q_rmmk0 Z b1 k1 x0 x1 x2 x3 cz h0 n0 v U'.heap L ∧ CHr Z own_L U.vm U.heap U'.vm U'.heap ∧ ReturnedEndW U o U' L ({ frames := 3, cells := 6, slots := 12, locals := 43 } : Room).cells ({ frames := 3, cells := 6, slots := 12, locals := 43 } : Room).slots) := by
  refine MetFree.of_bodySF (plainFor_of_name pn_rmraw) hisR ?_
  intro p e s m args_ below meth c s₁ Bd hml0 hP hK
  obtain ⟨hargs, hZ, hh, hcv, hsf0⟩ := hP
  have hx := Bd.exec
  have hby := Bd.bytes
  have hml : c.maxLocals = 2 := hml0
  have hown : s.vm.findClass "com/example/promovent/promovent/library/CodePointsComparePinLaw" = some m.cls := findClass_of_methodNamed Bd.named
  have hnm := (name_of_methodNamed Bd.named Bd.method).1
  have X0 : Stand p l e ({ frames := 3, cells := 6, slots := 12, locals := 43 } : Room) (s.setVm s.vm) m args_ below meth c s₁ [] 0 0 := Stand.of_body Bd
  have e0 : s₁.heap = h0 := by rw [← hh, Bd.state]; rfl
  have N0 := Fr.nil n0
  have C0 : CHr Z own_L s.vm h0 s.vm h0 := CHr.refl hcv
  have hS0 : s.Since s.vm h0.size := (State.WarmedH.refl s).since _
  have hk0 : h0.size ≤ h0.size := Nat.le_refl _
  have own_EL : EW Z a0 own_L := own_EL0 hw
  have own_sa : ∀ a ∈ Bundle.stringAtoms, a.before a0 Z = true := own_sa0 hw
  have hv : ∀ (i : Nat) {d : Jvm.Cond}, tables_1[i]? = some d → d.before a0 Z = true := fun i d q => hw d (List.mem_of_getElem? q)
  have K0 : Keep h0 h0 [] := Keep.refl _ _
  have k0 : Go p e below m (s₁.setTop (entryFrame m args_ 2)) s₁ 0 #[.val (.ref b1), .val (.int (0 : Int32))] [] := by rw [hargs]; exact fun t kt => castTop (ef_rmmk0 m b1) kt
  obtain ⟨W, hWW⟩ : ∃ W, W = s₁.setTop (entryFrame m args_ 2) := ⟨_, rfl⟩
  rw [← hWW] at k0 ⊢
  show DoneS p e below Z own_L s W (Q_rmmk0 Z b1 k1 x0 x1 x2 x3 cz h0 n0) ({ frames := 3, cells := 6, slots := 12, locals := 43 } : Room).cells ({ frames := 3, cells := 6, slots := 12, locals := 43 } : Room).slots
  have k20 : Go p e below m W s₁ 4 #[.val (.ref b1), .val (.int (0 : Int32))] [] := (k0.iloadN X0 hx (hb hby d_rmmk0_0) rfl).ifNo X0 hx (hb hby d_rmmk0_1) (XT.i0_ne_f (by decide))
  obtain ⟨T21, h21, b21, X21, e21, g21, E21, A21, D21, k21⟩ := k20.newO (cells' := 1) (slots' := 4) X0 hx hZ hown (hv 17 rfl) (hv 18 rfl) (hv 19 rfl) e0 (hb hby d_rmmk0_4) rfl rfl (by decide) (by decide)
  have k21 : Go p e below m W T21 7 #[.val (.ref b1), .val (.int (0 : Int32))] [(.ref b21)] := k21
  have Z21 : n0 ≤ h21.size := Nat.le_trans Z0 E21.1
  have G21 : n0 ≤ b21 := g21 ▸ Z0
  have H21 : h0.size ≤ b21 := g21 ▸ K0.1
  have K21 : Keep h0 h21 [] := K0.ext E21
  have DC21 := CHr.ext E21 C0.1
  have C21 := C0.trans DC21
  have hk21 : _ ≤ h21.size := Nat.le_trans hk0 DC21.2.1
  have f22 : Fld Z h21 b21 "java/lang/String" "value" "[B" .null := D21 (Or.inr (hv 32 rfl)) (ty := (.array .byte)) (by decide)
  have f23 : Fld Z h21 b21 "java/lang/String" "coder" "B" (.int (0 : Int32)) := D21 (Or.inr (hv 33 rfl)) (ty := .byte) (by decide)
  have k24 : Go p e below m W T21 9 #[.val (.ref b1), .val (.int (0 : Int32))] [(.int (0 : Int32)), (.ref b21), (.ref b21)] := (k21.dup X21 hx (hb hby d_rmmk0_7) rfl).iconst X21 hx (hb hby d_rmmk0_8) (v := (0 : Int32)) rfl
  obtain ⟨T25, h25, b25, c25, X25, e25, g25, E25, A25, k25⟩ := k24.newP (cap := 0) (cells' := 2) (slots' := 4) X21 hx hZ (hv 13 rfl) e21 (hb hby d_rmmk0_9) (by decide) (by decide) (by decide) rfl rfl (by decide) (by decide)
  have k25 : Go p e below m W T25 11 #[.val (.ref b1), .val (.int (0 : Int32))] [(.ref b25), (.ref b21), (.ref b21)] := k25
  have Z25 : n0 ≤ h25.size := Nat.le_trans Z21 E25.1
  have G25 : n0 ≤ b25 := g25 ▸ Z21
  have H25 : h0.size ≤ b25 := g25 ▸ K21.1
  have K25 : Keep h0 h25 [] := K21.ext E25
  have DC25 := CHr.ext E25 C21.1
  have C25 := C21.trans DC25
  have hk25 : _ ≤ h25.size := Nat.le_trans hk21 DC25.2.1
  have V25 : Arv Z h25 b25 c25 .char (0 : Int32) [] (.int (0 : Int32)) := A25 0
  have g_1 := Safe.ext E21 C0.1 (Safe.new (x := b21) (Nat.le_of_eq g21.symm))
  have g_2 := DC25.safe A21.lt g_1
  have g_3 := A21.ext E25
  have g_4 := f22.ext E25
  have g_5 := f23.ext E25
  obtain ⟨T26, v26, L26, X26, Q26, D26, hS26, hZ26, hown26, k26⟩ := k25.specS (y := (⟨"java/lang/String", "<init>", "([C)V"⟩ : MethodName)) (b := b21) (Wd := 1) (cells' := 6) (slots' := 12) (xs := [b21]) (argsL := [(.ref b25)]) (rest := [(.ref b21)]) X25 hx hZ hown (by rw [hml]; rfl) rfl (hv 20 rfl) (hv 21 rfl) (hv 22 rfl) (hv 19 rfl) (hb hby d_rmmk0_11) (by decide) hS0 hk25 own_EL C25.1 (sfS g_2 sf0) (rms1 l Z a0 hw [] b21 b25 c25 .null (.int (0 : Int32)) h25 n0 Z25 g_3 G21 g_4 g_5 V25) e25 rfl rfl pd_rmmk0_0 rfl (Nat.le_of_eq rfl) (by decide) (by decide) rfl rfl (by decide) (by decide)
  obtain ⟨ot_26, ok_26, rfl, Nq26, Kq26, q26_0, q26_1, q26_2, q26_3⟩ := Q26
  have N26 := Fr.app N0 Nq26
  obtain ⟨h26, e26⟩ : ∃ h, T26.heap = h := ⟨_, rfl⟩
  rw [e26] at Kq26 q26_0 q26_1 q26_2 q26_3
  have Z26 : n0 ≤ h26.size := Nat.le_trans Z25 Kq26.1
  have K26 : Keep h0 h26 [] := K25.trans Kq26 (by intro x q; simp only [List.mem_cons, List.not_mem_nil, or_false] at q; rcases q with rfl; exact (Or.inr H21))
  have k26 : Go p e below m W T26 14 #[.val (.ref b1), .val (.int (0 : Int32))] [(.ref b21)] := k26
  rw [e26] at D26 hS26
  have C26 := C25.trans D26
  have st27 : own_Str Z h26 b21 [] := ⟨(Nat.le_of_ble_eq_true rfl), own_E0, _, _, _, _, _, q26_1, q26_2, q26_3, (Or.inl ⟨rfl, rfl, rfl, own_N0⟩)⟩
  exact k26.areturnS X26 hx hZ26 own_EL hS26 (Nat.le_refl _) e26 (by rw [hh]; exact C26) Bd.returns rfl rfl (hb hby d_rmmk0_14) (BodyLoose.notSynchronized Bd) (by rw [e26]; exact ⟨b21, rfl, N26, K26, q26_0, st27, G21, H21⟩) (by decide) (by decide)

theorem d_rmbl1_0 : decode jdk_52_method_3_code 0 = .ok (.iload_n 0, 1) := by decide +kernel
theorem d_rmbl1_1 : decode jdk_52_method_3_code 1 = .ok (.ifCond .ge 11, 3) := by decide +kernel
theorem d_rmbl1_12 : decode jdk_52_method_3_code 12 = .ok (.iload_n 0, 1) := by decide +kernel
theorem d_rmbl1_13 : decode jdk_52_method_3_code 13 = .ok (.ldc 20, 2) := by decide +kernel
theorem d_rmbl1_15 : decode jdk_52_method_3_code 15 = .ok (.if_icmp .lt 40, 3) := by decide +kernel
theorem d_rmbl1_55 : decode jdk_52_method_3_code 55 = .ok (.iload_n 0, 1) := by decide +kernel
theorem d_rmbl1_56 : decode jdk_52_method_3_code 56 = .ok (.iconst 1, 1) := by decide +kernel
theorem d_rmbl1_57 : decode jdk_52_method_3_code 57 = .ok (.ishl, 1) := by decide +kernel
theorem d_rmbl1_58 : decode jdk_52_method_3_code 58 = .ok (.ireturn, 1) := by decide +kernel
theorem ef_rmbl1 (m : MethodId)  : entryFrame m #[(.int (1 : Int32))] 1 = mkF m 0 #[.val (.int (1 : Int32))] [] := by first | (simp [entryFrame, mkF, argsToLocals, Value.category]; done) | rfl
def Q_rmbl1 (Z : State)  (h0 : Heap) (n0 : Nat) (v : Option Value) (h : Heap) (L : List Loc) : Prop := v = some (.int (2 : Int32)) ∧ Fr n0 L ∧ h = h0
set_option maxRecDepth 65536 in
set_option maxHeartbeats 40000000 in
theorem rmbl1 (l : Launch) (Z : State) (a0 : Array Value) (hw : ∀ d ∈ tables_1, d.before a0 Z = true) (ws : List Jvm.Cond)  (h0 : Heap) (n0 : Nat) (Z0 : n0 ≤ h0.size)  :
    MetFree l (⟨"java/lang/StringUTF16", "newBytesLength", "(I)I"⟩ : MethodName) (head1 (Jvm.Cond.code (⟨"java/lang/StringUTF16", "newBytesLength", "(I)I"⟩ : MethodName) jdk_52_method_3_code 1 (some .int) :: ws) ({ frames := 0, cells := 0, slots := 0, locals := 0 } : Room)) (fun a U => a = #[(.int (1 : Int32))] ∧ Z.Warmed39 U.vm ∧ U.heap = h0) (fun _ _ _ _ _ => True) (fun _ U o U' => ∃ v L, o = .returned v ∧ Q_rmbl1 Z  h0 n0 v U'.heap L ∧ FrameEnd U o U' L ({ frames := 0, cells := 0, slots := 0, locals := 0 } : Room).cells ({ frames := 0, cells := 0, slots := 0, locals := 0 } : Room).slots) := by
  refine MetFree.of_bodySF (plainFor_of_name pn_rmgc) hisR ?_
  intro p e s m args_ below meth c s₁ Bd hml0 hP hK
  obtain ⟨hargs, hZ, hh⟩ := hP
  have hx := Bd.exec
  have hby := Bd.bytes
  have hml : c.maxLocals = 1 := hml0
  have hown : s.vm.findClass "java/lang/StringUTF16" = some m.cls := findClass_of_methodNamed Bd.named
  have hnm := (name_of_methodNamed Bd.named Bd.method).1
  have X0 : Stand p l e ({ frames := 0, cells := 0, slots := 0, locals := 0 } : Room) s m args_ below meth c s₁ [] 0 0 := Stand.of_body Bd
  have e0 : s₁.heap = h0 := by rw [← hh, Bd.state]; rfl
  have N0 := Fr.nil n0
  have hv : ∀ (i : Nat) {d : Jvm.Cond}, tables_1[i]? = some d → d.before a0 Z = true := fun i d q => hw d (List.mem_of_getElem? q)
  have k0 : Go p e below m (s₁.setTop (entryFrame m args_ 1)) s₁ 0 #[.val (.int (1 : Int32))] [] := by rw [hargs]; exact fun t kt => castTop (ef_rmbl1 m ) kt
  obtain ⟨W, hWW⟩ : ∃ W, W = s₁.setTop (entryFrame m args_ 1) := ⟨_, rfl⟩
  rw [← hWW] at k0 ⊢
  show Done p e below s W (Q_rmbl1 Z  h0 n0) ({ frames := 0, cells := 0, slots := 0, locals := 0 } : Room).cells ({ frames := 0, cells := 0, slots := 0, locals := 0 } : Room).slots
  have k20 : Go p e below m W s₁ 58 #[.val (.int (1 : Int32))] [(.int (2 : Int32))] := ((((((((k0.iloadN X0 hx (hb hby d_rmbl1_0) rfl).ifYes X0 hx (hb hby d_rmbl1_1) (XT.i0_ge_t (by decide)) (by decide) (by decide)).iloadN X0 hx (hb hby d_rmbl1_12) rfl).ldcI X0 hx hZ hown (hv 118 rfl) (hb hby d_rmbl1_13)).icmpYes X0 hx (hb hby d_rmbl1_15) (XT.ii_lt_t (by decide)) (by decide) (by decide)).iloadN X0 hx (hb hby d_rmbl1_55) rfl).iconst X0 hx (hb hby d_rmbl1_56) (v := (1 : Int32)) rfl).ishl X0 hx (hb hby d_rmbl1_57)).cast (y := (2 : Int32)) (by decide)
  exact k20.ireturnI X0 hx Bd.returns (hb hby d_rmbl1_58) (BodyLoose.notSynchronized Bd) (by rw [e0]; exact ⟨rfl, N0, rfl⟩) (by decide) (by decide)

theorem d_rmbf1_0 : decode jdk_52_method_2_code 0 = .ok (.iload_n 0, 1) := by decide +kernel
theorem d_rmbf1_1 : decode jdk_52_method_2_code 1 = .ok (.invokestatic 11, 3) := by decide +kernel
theorem d_rmbf1_4 : decode jdk_52_method_2_code 4 = .ok (.newarray .byte, 2) := by decide +kernel
theorem d_rmbf1_6 : decode jdk_52_method_2_code 6 = .ok (.areturn, 1) := by decide +kernel
theorem pd_rmbf1_0 : parseMethodDescriptor "(I)I" = some ⟨[.int], (some .int)⟩ := by decide +kernel
theorem ef_rmbf1 (m : MethodId)  : entryFrame m #[(.int (1 : Int32))] 1 = mkF m 0 #[.val (.int (1 : Int32))] [] := by first | (simp [entryFrame, mkF, argsToLocals, Value.category]; done) | rfl
def Q_rmbf1 (Z : State)  (h0 : Heap) (n0 : Nat) (v : Option Value) (h : Heap) (L : List Loc) : Prop := ∃ (ob : Addr) (ok : ClassId), v = some (.ref ob) ∧ Fr n0 L ∧ Keep h0 h [] ∧ Arv Z h ob ok .byte (2 : Int32) [(.int (0 : Int32)), (.int (0 : Int32))] (.int (0 : Int32)) ∧ n0 ≤ ob ∧ h0.size ≤ ob
set_option maxRecDepth 65536 in
set_option maxHeartbeats 40000000 in
theorem rmbf1 (l : Launch) (Z : State) (a0 : Array Value) (hw : ∀ d ∈ tables_1, d.before a0 Z = true) (ws : List Jvm.Cond)  (h0 : Heap) (n0 : Nat) (Z0 : n0 ≤ h0.size)  :
    MetFree l (⟨"java/lang/StringUTF16", "newBytesFor", "(I)[B"⟩ : MethodName) (head1 (Jvm.Cond.code (⟨"java/lang/StringUTF16", "newBytesFor", "(I)[B"⟩ : MethodName) jdk_52_method_2_code 1 (some (.array .byte)) :: ws) ({ frames := 1, cells := 1, slots := 2, locals := 12 } : Room)) (fun a U => a = #[(.int (1 : Int32))] ∧ Z.Warmed39 U.vm ∧ U.heap = h0) (fun _ _ _ _ _ => True) (fun _ U o U' => ∃ v L, o = .returned v ∧ Q_rmbf1 Z  h0 n0 v U'.heap L ∧ FrameEnd U o U' L ({ frames := 1, cells := 1, slots := 2, locals := 12 } : Room).cells ({ frames := 1, cells := 1, slots := 2, locals := 12 } : Room).slots) := by
  refine MetFree.of_bodySF (plainFor_of_name pn_rmgc) hisR ?_
  intro p e s m args_ below meth c s₁ Bd hml0 hP hK
  obtain ⟨hargs, hZ, hh⟩ := hP
  have hx := Bd.exec
  have hby := Bd.bytes
  have hml : c.maxLocals = 1 := hml0
  have hown : s.vm.findClass "java/lang/StringUTF16" = some m.cls := findClass_of_methodNamed Bd.named
  have hnm := (name_of_methodNamed Bd.named Bd.method).1
  have X0 : Stand p l e ({ frames := 1, cells := 1, slots := 2, locals := 12 } : Room) s m args_ below meth c s₁ [] 0 0 := Stand.of_body Bd
  have e0 : s₁.heap = h0 := by rw [← hh, Bd.state]; rfl
  have N0 := Fr.nil n0
  have hv : ∀ (i : Nat) {d : Jvm.Cond}, tables_1[i]? = some d → d.before a0 Z = true := fun i d q => hw d (List.mem_of_getElem? q)
  have K0 : Keep h0 h0 [] := Keep.refl _ _
  have k0 : Go p e below m (s₁.setTop (entryFrame m args_ 1)) s₁ 0 #[.val (.int (1 : Int32))] [] := by rw [hargs]; exact fun t kt => castTop (ef_rmbf1 m ) kt
  obtain ⟨W, hWW⟩ : ∃ W, W = s₁.setTop (entryFrame m args_ 1) := ⟨_, rfl⟩
  rw [← hWW] at k0 ⊢
  show Done p e below s W (Q_rmbf1 Z  h0 n0) ({ frames := 1, cells := 1, slots := 2, locals := 12 } : Room).cells ({ frames := 1, cells := 1, slots := 2, locals := 12 } : Room).slots
  have k20 : Go p e below m W s₁ 1 #[.val (.int (1 : Int32))] [(.int (1 : Int32))] := k0.iloadN X0 hx (hb hby d_rmbf1_0) rfl
  obtain ⟨T21, v21, L21, X21, Q21, k21⟩ := k20.stat (y := (⟨"java/lang/StringUTF16", "newBytesLength", "(I)I"⟩ : MethodName)) (Wd := 0) (cells' := 0) (slots' := 0) (argsL := [(.int (1 : Int32))]) (rest := []) X0 hx hZ hown (by rw [hml]; rfl) (hv 115 rfl) (hv 116 rfl) (hv 117 rfl) (hv 70 rfl) (hb hby d_rmbf1_1) (by decide) (rmbl1 l Z a0 hw []  h0 n0 Z0) e0 rfl rfl pd_rmbf1_0 rfl (Nat.le_of_eq rfl) (by decide) (by decide) rfl rfl (by decide) (by decide)
  obtain ⟨rfl, Nq21, e21q⟩ := Q21
  have N21 := Fr.app N0 Nq21
  have e21 : T21.heap = h0 := e21q
  have k21 : Go p e below m W T21 4 #[.val (.int (1 : Int32))] [(.int (2 : Int32))] := k21
  obtain ⟨T22, h22, b22, c22, X22, e22, g22, E22, A22, k22⟩ := k21.newP (cap := 2) (cells' := 1) (slots' := 2) X21 hx hZ (hv 31 rfl) e21 (hb hby d_rmbf1_4) (by decide) (by decide) (by decide) rfl rfl (by decide) (by decide)
  have k22 : Go p e below m W T22 6 #[.val (.int (1 : Int32))] [(.ref b22)] := k22
  have Z22 : n0 ≤ h22.size := Nat.le_trans Z0 E22.1
  have G22 : n0 ≤ b22 := g22 ▸ Z0
  have H22 : h0.size ≤ b22 := g22 ▸ K0.1
  have K22 : Keep h0 h22 [] := K0.ext E22
  have V22 : Arv Z h22 b22 c22 .byte (2 : Int32) [(.int (0 : Int32)), (.int (0 : Int32))] (.int (0 : Int32)) := A22 2
  exact k22.areturn X22 hx Bd.returns rfl rfl (hb hby d_rmbf1_6) (BodyLoose.notSynchronized Bd) (by rw [e22]; exact ⟨b22, c22, rfl, N21, K22, V22, G22, H22⟩) (by decide) (by decide)

theorem d_rmtb1_0 : decode jdk_52_method_14_code 0 = .ok (.iload_n 2, 1) := by decide +kernel
theorem d_rmtb1_1 : decode jdk_52_method_14_code 1 = .ok (.invokestatic 107, 3) := by decide +kernel
theorem d_rmtb1_4 : decode jdk_52_method_14_code 4 = .ok (.astore_n 3, 1) := by decide +kernel
theorem d_rmtb1_5 : decode jdk_52_method_14_code 5 = .ok (.iconst 0, 1) := by decide +kernel
theorem d_rmtb1_6 : decode jdk_52_method_14_code 6 = .ok (.istore 4, 2) := by decide +kernel
theorem d_rmtb1_8 : decode jdk_52_method_14_code 8 = .ok (.iload 4, 2) := by decide +kernel
theorem d_rmtb1_10 : decode jdk_52_method_14_code 10 = .ok (.iload_n 2, 1) := by decide +kernel
theorem d_rmtb1_11 : decode jdk_52_method_14_code 11 = .ok (.if_icmp .ge 21, 3) := by decide +kernel
theorem d_rmtb1_14 : decode jdk_52_method_14_code 14 = .ok (.aload_n 3, 1) := by decide +kernel
theorem d_rmtb1_15 : decode jdk_52_method_14_code 15 = .ok (.iload 4, 2) := by decide +kernel
theorem d_rmtb1_17 : decode jdk_52_method_14_code 17 = .ok (.aload_n 0, 1) := by decide +kernel
theorem d_rmtb1_18 : decode jdk_52_method_14_code 18 = .ok (.iload_n 1, 1) := by decide +kernel
theorem d_rmtb1_19 : decode jdk_52_method_14_code 19 = .ok (.caload, 1) := by decide +kernel
theorem d_rmtb1_20 : decode jdk_52_method_14_code 20 = .ok (.invokestatic 111, 3) := by decide +kernel
theorem d_rmtb1_23 : decode jdk_52_method_14_code 23 = .ok (.iinc 1 1, 3) := by decide +kernel
theorem d_rmtb1_26 : decode jdk_52_method_14_code 26 = .ok (.iinc 4 1, 3) := by decide +kernel
theorem d_rmtb1_29 : decode jdk_52_method_14_code 29 = .ok (.goto (-21), 3) := by decide +kernel
theorem d_rmtb1_32 : decode jdk_52_method_14_code 32 = .ok (.aload_n 3, 1) := by decide +kernel
theorem d_rmtb1_33 : decode jdk_52_method_14_code 33 = .ok (.areturn, 1) := by decide +kernel
theorem pd_rmtb1_0 : parseMethodDescriptor "(I)[B" = some ⟨[.int], (some (.array .byte))⟩ := by decide +kernel
theorem pd_rmtb1_1 : parseMethodDescriptor "([BII)V" = some ⟨[(.array .byte), .int, .int], none⟩ := by decide +kernel
theorem ef_rmtb1 (m : MethodId) (b1 : Addr) : entryFrame m #[(.ref b1), (.int (0 : Int32)), (.int (1 : Int32))] 5 = mkF m 0 #[.val (.ref b1), .val (.int (0 : Int32)), .val (.int (1 : Int32)), .unset, .unset] [] := by first | (simp [entryFrame, mkF, argsToLocals, Value.category]; done) | rfl
def Q_rmtb1 (Z : State) (b1 : Addr) (k1 : ClassId) (x0 : Int32) (h0 : Heap) (n0 : Nat) (v : Option Value) (h : Heap) (L : List Loc) : Prop := ∃ (ob : Addr) (ok : ClassId), v = some (.ref ob) ∧ Fr n0 L ∧ Keep h0 h [] ∧ Arv Z h ob ok .byte (2 : Int32) [(.int (own_b0 x0)), (.int (own_b1 x0))] (.int (0 : Int32)) ∧ n0 ≤ ob ∧ h0.size ≤ ob
set_option maxRecDepth 65536 in
set_option maxHeartbeats 40000000 in
theorem rmtb1 (l : Launch) (Z : State) (a0 : Array Value) (hw : ∀ d ∈ tables_1, d.before a0 Z = true) (ws : List Jvm.Cond) (b1 : Addr) (k1 : ClassId) (x0 : Int32) (h0 : Heap) (n0 : Nat) (Z0 : n0 ≤ h0.size) (O0 : Old Z n0 h0) (SAD : Sta Z Z.heap "java/lang/StringUTF16" "$assertionsDisabled" "Z" (.int (1 : Int32))) (SHI : Sta Z Z.heap "java/lang/StringUTF16" "HI_BYTE_SHIFT" "I" (.int (0 : Int32))) (SLO : Sta Z Z.heap "java/lang/StringUTF16" "LO_BYTE_SHIFT" "I" (.int (8 : Int32))) (V1 : Arv Z h0 b1 k1 .char (1 : Int32) [(.int x0)] (.int (0 : Int32))) :
    MetFree l (⟨"java/lang/StringUTF16", "toBytes", "([CII)[B"⟩ : MethodName) (head1 (Jvm.Cond.code (⟨"java/lang/StringUTF16", "toBytes", "([CII)[B"⟩ : MethodName) jdk_52_method_14_code 5 (some (.array .byte)) :: ws) ({ frames := 2, cells := 1, slots := 2, locals := 24 } : Room)) (fun a U => a = #[(.ref b1), (.int (0 : Int32)), (.int (1 : Int32))] ∧ Z.Warmed39 U.vm ∧ U.heap = h0) (fun _ _ _ _ _ => True) (fun _ U o U' => ∃ v L, o = .returned v ∧ Q_rmtb1 Z b1 k1 x0 h0 n0 v U'.heap L ∧ FrameEnd U o U' L ({ frames := 2, cells := 1, slots := 2, locals := 24 } : Room).cells ({ frames := 2, cells := 1, slots := 2, locals := 24 } : Room).slots) := by
  refine MetFree.of_bodySF (plainFor_of_name pn_rmgc) hisR ?_
  intro p e s m args_ below meth c s₁ Bd hml0 hP hK
  obtain ⟨hargs, hZ, hh⟩ := hP
  have hx := Bd.exec
  have hby := Bd.bytes
  have hml : c.maxLocals = 5 := hml0
  have hown : s.vm.findClass "java/lang/StringUTF16" = some m.cls := findClass_of_methodNamed Bd.named
  have hnm := (name_of_methodNamed Bd.named Bd.method).1
  have X0 : Stand p l e ({ frames := 2, cells := 1, slots := 2, locals := 24 } : Room) s m args_ below meth c s₁ [] 0 0 := Stand.of_body Bd
  have e0 : s₁.heap = h0 := by rw [← hh, Bd.state]; rfl
  have N0 := Fr.nil n0
  have hv : ∀ (i : Nat) {d : Jvm.Cond}, tables_1[i]? = some d → d.before a0 Z = true := fun i d q => hw d (List.mem_of_getElem? q)
  have K0 : Keep h0 h0 [] := Keep.refl _ _
  have k0 : Go p e below m (s₁.setTop (entryFrame m args_ 5)) s₁ 0 #[.val (.ref b1), .val (.int (0 : Int32)), .val (.int (1 : Int32)), .unset, .unset] [] := by rw [hargs]; exact fun t kt => castTop (ef_rmtb1 m b1) kt
  obtain ⟨W, hWW⟩ : ∃ W, W = s₁.setTop (entryFrame m args_ 5) := ⟨_, rfl⟩
  rw [← hWW] at k0 ⊢
  show Done p e below s W (Q_rmtb1 Z b1 k1 x0 h0 n0) ({ frames := 2, cells := 1, slots := 2, locals := 24 } : Room).cells ({ frames := 2, cells := 1, slots := 2, locals := 24 } : Room).slots
  have k20 : Go p e below m W s₁ 1 #[.val (.ref b1), .val (.int (0 : Int32)), .val (.int (1 : Int32)), .unset, .unset] [(.int (1 : Int32))] := k0.iloadN X0 hx (hb hby d_rmtb1_0) rfl
  obtain ⟨T21, v21, L21, X21, Q21, k21⟩ := k20.stat (y := (⟨"java/lang/StringUTF16", "newBytesFor", "(I)[B"⟩ : MethodName)) (Wd := 0) (cells' := 1) (slots' := 2) (argsL := [(.int (1 : Int32))]) (rest := []) X0 hx hZ hown (by rw [hml]; rfl) (hv 112 rfl) (hv 113 rfl) (hv 114 rfl) (hv 70 rfl) (hb hby d_rmtb1_1) (by decide) (rmbf1 l Z a0 hw []  h0 n0 Z0) e0 rfl rfl pd_rmtb1_0 rfl (Nat.le_of_eq rfl) (by decide) (by decide) rfl rfl (by decide) (by decide)
  obtain ⟨ob_21, ok_21, rfl, Nq21, Kq21, q21_0, q21_1, q21_2⟩ := Q21
  have N21 := Fr.app N0 Nq21
  obtain ⟨h21, e21⟩ : ∃ h, T21.heap = h := ⟨_, rfl⟩
  rw [e21] at Kq21 q21_0
  have Z21 : n0 ≤ h21.size := Nat.le_trans Z0 Kq21.1
  have K21 : Keep h0 h21 [] := K0.trans Kq21 (fun x q => absurd q List.not_mem_nil)
  have H22 : h0.size ≤ ob_21 := Nat.le_trans K0.1 q21_2
  have k21 : Go p e below m W T21 4 #[.val (.ref b1), .val (.int (0 : Int32)), .val (.int (1 : Int32)), .unset, .unset] [(.ref ob_21)] := k21
  have k23 : Go p e below m W T21 5 #[.val (.ref b1), .val (.int (0 : Int32)), .val (.int (1 : Int32)), .val (.ref ob_21), .unset] [] := k21.astoreN X21 hx (hb hby d_rmtb1_4) rfl rfl
  have k24 : Go p e below m W T21 8 #[.val (.ref b1), .val (.int (0 : Int32)), .val (.int (1 : Int32)), .val (.ref ob_21), .val (.int (0 : Int32))] [] := (k23.iconst X21 hx (hb hby d_rmtb1_5) (v := (0 : Int32)) rfl).istore X21 hx (hb hby d_rmtb1_6) rfl
  have k25 : Go p e below m W T21 19 #[.val (.ref b1), .val (.int (0 : Int32)), .val (.int (1 : Int32)), .val (.ref ob_21), .val (.int (0 : Int32))] [(.int (0 : Int32)), (.ref b1), (.int (0 : Int32)), (.ref ob_21)] := ((((((k24.iload X21 hx (hb hby d_rmtb1_8) rfl).iloadN X21 hx (hb hby d_rmtb1_10) rfl).icmpNo X21 hx (hb hby d_rmtb1_11) (XT.ii_ge_f (by decide))).aloadN X21 hx (hb hby d_rmtb1_14) rfl rfl).iload X21 hx (hb hby d_rmtb1_15) rfl).aloadN X21 hx (hb hby d_rmtb1_17) rfl rfl).iloadN X21 hx (hb hby d_rmtb1_18) rfl
  have g_1 := V1.keep Kq21 (List.not_mem_nil)
  have k26 : Go p e below m W T21 20 #[.val (.ref b1), .val (.int (0 : Int32)), .val (.int (1 : Int32)), .val (.ref ob_21), .val (.int (0 : Int32))] [(.int x0), (.int (0 : Int32)), (.ref ob_21)] := k25.caload (i := 0) (n := 1) X21 hx hZ e21 g_1 rfl rfl (by decide) (by decide) rfl (hb hby d_rmtb1_19)
  have g_2 := O0.keep Kq21 (fun x q => absurd q List.not_mem_nil)
  obtain ⟨T27, v27, L27, X27, Q27, k27⟩ := k26.stat (y := (⟨"java/lang/StringUTF16", "putChar", "([BII)V"⟩ : MethodName)) (Wd := 0) (cells' := 1) (slots' := 2) (argsL := [(.ref ob_21), (.int (0 : Int32)), (.int x0)]) (rest := []) X21 hx hZ hown (by rw [hml]; rfl) (hv 119 rfl) (hv 120 rfl) (hv 121 rfl) (hv 70 rfl) (hb hby d_rmtb1_20) (by decide) (rmpu l Z a0 hw [] ob_21 (0 : Int32) x0 ok_21 (2 : Int32) ([(.int (0 : Int32)), (.int (0 : Int32))]) 0 h21 n0 Z21 g_2 SAD SHI SLO q21_0 q21_1 rfl (by decide) (by decide) (Nat.le_of_ble_eq_true rfl) (by decide) (by decide) (Nat.le_of_ble_eq_true rfl)) e21 rfl rfl pd_rmtb1_1 rfl (Nat.le_of_eq rfl) (by decide) (by decide) rfl rfl (by decide) (by decide)
  obtain ⟨rfl, Nq27, Kq27, q27_0⟩ := Q27
  have N27 := Fr.app N21 Nq27
  obtain ⟨h27, e27⟩ : ∃ h, T27.heap = h := ⟨_, rfl⟩
  rw [e27] at Kq27 q27_0
  have Z27 : n0 ≤ h27.size := Nat.le_trans Z21 Kq27.1
  have K27 : Keep h0 h27 [] := K21.trans Kq27 (by intro x q; simp only [List.mem_cons, List.not_mem_nil, or_false] at q; rcases q with rfl; exact (Or.inr H22))
  have k27 : Go p e below m W T27 23 #[.val (.ref b1), .val (.int (0 : Int32)), .val (.int (1 : Int32)), .val (.ref ob_21), .val (.int (0 : Int32))] [] := k27
  have vt27 : Arv Z h27 ob_21 ok_21 .byte (2 : Int32) [(.int (own_b0 x0)), (.int (own_b1 x0))] (.int (0 : Int32)) := q27_0
  have k28 : Go p e below m W T27 26 #[.val (.ref b1), .val (.int (1 : Int32)), .val (.int (1 : Int32)), .val (.ref ob_21), .val (.int (0 : Int32))] [] := k27.iinc X27 hx (hb hby d_rmtb1_23) (v := (1 : Int32)) rfl rfl rfl
  have k29 : Go p e below m W T27 29 #[.val (.ref b1), .val (.int (1 : Int32)), .val (.int (1 : Int32)), .val (.ref ob_21), .val (.int (1 : Int32))] [] := k28.iinc X27 hx (hb hby d_rmtb1_26) (v := (1 : Int32)) rfl rfl rfl
  have k30 : Go p e below m W T27 33 #[.val (.ref b1), .val (.int (1 : Int32)), .val (.int (1 : Int32)), .val (.ref ob_21), .val (.int (1 : Int32))] [(.ref ob_21)] := ((((k29.goto X27 hx (hb hby d_rmtb1_29) (by decide) (by decide)).iload X27 hx (hb hby d_rmtb1_8) rfl).iloadN X27 hx (hb hby d_rmtb1_10) rfl).icmpYes X27 hx (hb hby d_rmtb1_11) (XT.ii_ge_t (by decide)) (by decide) (by decide)).aloadN X27 hx (hb hby d_rmtb1_32) rfl rfl
  exact k30.areturn X27 hx Bd.returns rfl rfl (hb hby d_rmtb1_33) (BodyLoose.notSynchronized Bd) (by rw [e27]; exact ⟨ob_21, ok_21, rfl, N27, K27, vt27, q21_1, H22⟩) (by decide) (by decide)

theorem d_rmcv1_0 : decode jdk_52_method_21_code 0 = .ok (.iconst 0, 1) := by decide +kernel
theorem d_rmcv1_1 : decode jdk_52_method_21_code 1 = .ok (.istore 5, 2) := by decide +kernel
theorem d_rmcv1_3 : decode jdk_52_method_21_code 3 = .ok (.iload 5, 2) := by decide +kernel
theorem d_rmcv1_5 : decode jdk_52_method_21_code 5 = .ok (.iload 4, 2) := by decide +kernel
theorem d_rmcv1_7 : decode jdk_52_method_21_code 7 = .ok (.if_icmp .ge 37, 3) := by decide +kernel
theorem d_rmcv1_10 : decode jdk_52_method_21_code 10 = .ok (.aload_n 0, 1) := by decide +kernel
theorem d_rmcv1_11 : decode jdk_52_method_21_code 11 = .ok (.iload_n 1, 1) := by decide +kernel
theorem d_rmcv1_12 : decode jdk_52_method_21_code 12 = .ok (.caload, 1) := by decide +kernel
theorem d_rmcv1_13 : decode jdk_52_method_21_code 13 = .ok (.istore 6, 2) := by decide +kernel
theorem d_rmcv1_15 : decode jdk_52_method_21_code 15 = .ok (.iload 6, 2) := by decide +kernel
theorem d_rmcv1_17 : decode jdk_52_method_21_code 17 = .ok (.sipush 255, 3) := by decide +kernel
theorem d_rmcv1_20 : decode jdk_52_method_21_code 20 = .ok (.if_icmp .le 6, 3) := by decide +kernel
theorem d_rmcv1_23 : decode jdk_52_method_21_code 23 = .ok (.iload 5, 2) := by decide +kernel
theorem d_rmcv1_25 : decode jdk_52_method_21_code 25 = .ok (.ireturn, 1) := by decide +kernel
theorem d_rmcv1_26 : decode jdk_52_method_21_code 26 = .ok (.aload_n 2, 1) := by decide +kernel
theorem d_rmcv1_27 : decode jdk_52_method_21_code 27 = .ok (.iload_n 3, 1) := by decide +kernel
theorem d_rmcv1_28 : decode jdk_52_method_21_code 28 = .ok (.iload 6, 2) := by decide +kernel
theorem d_rmcv1_30 : decode jdk_52_method_21_code 30 = .ok (.i2b, 1) := by decide +kernel
theorem d_rmcv1_31 : decode jdk_52_method_21_code 31 = .ok (.bastore, 1) := by decide +kernel
theorem d_rmcv1_32 : decode jdk_52_method_21_code 32 = .ok (.iinc 1 1, 3) := by decide +kernel
theorem d_rmcv1_35 : decode jdk_52_method_21_code 35 = .ok (.iinc 3 1, 3) := by decide +kernel
theorem d_rmcv1_38 : decode jdk_52_method_21_code 38 = .ok (.iinc 5 1, 3) := by decide +kernel
theorem d_rmcv1_41 : decode jdk_52_method_21_code 41 = .ok (.goto (-38), 3) := by decide +kernel
theorem d_rmcv1_44 : decode jdk_52_method_21_code 44 = .ok (.iload 4, 2) := by decide +kernel
theorem d_rmcv1_46 : decode jdk_52_method_21_code 46 = .ok (.ireturn, 1) := by decide +kernel
theorem ef_rmcv1 (m : MethodId) (b1 : Addr) (b2 : Addr) : entryFrame m #[(.ref b1), (.int (0 : Int32)), (.ref b2), (.int (0 : Int32)), (.int (1 : Int32))] 7 = mkF m 0 #[.val (.ref b1), .val (.int (0 : Int32)), .val (.ref b2), .val (.int (0 : Int32)), .val (.int (1 : Int32)), .unset, .unset] [] := by first | (simp [entryFrame, mkF, argsToLocals, Value.category]; done) | rfl
def Q_rmcv1 (Z : State) (b1 : Addr) (b2 : Addr) (k1 : ClassId) (k2 : ClassId) (x0 : Int32) (h0 : Heap) (n0 : Nat) (v : Option Value) (h : Heap) (L : List Loc) : Prop := ∃ (ro : Int32) (vs : List Value), v = some (.int ro) ∧ Fr n0 L ∧ Keep h0 h [b2] ∧ ((((255 : Int32) < x0) ∧ ro = (0 : Int32)) ∨ ((¬ ((255 : Int32) < x0)) ∧ ro = (1 : Int32) ∧ vs = [(.int (x0).toInt8.toInt32)])) ∧ Arv Z h b2 k2 .byte (1 : Int32) vs (.int (0 : Int32))
set_option maxRecDepth 65536 in
set_option maxHeartbeats 40000000 in
theorem rmcv1 (l : Launch) (Z : State) (a0 : Array Value) (hw : ∀ d ∈ tables_1, d.before a0 Z = true) (ws : List Jvm.Cond) (b1 : Addr) (b2 : Addr) (k1 : ClassId) (k2 : ClassId) (x0 : Int32) (h0 : Heap) (n0 : Nat) (Z0 : n0 ≤ h0.size) (V1 : Arv Z h0 b1 k1 .char (1 : Int32) [(.int x0)] (.int (0 : Int32))) (V2 : Arv Z h0 b2 k2 .byte (1 : Int32) [(.int (0 : Int32))] (.int (0 : Int32))) (G2 : n0 ≤ b2) (N1 : b1 ≠ b2) :
    MetFree l (⟨"java/lang/StringUTF16", "compress", "([CI[BII)I"⟩ : MethodName) (head1 (Jvm.Cond.code (⟨"java/lang/StringUTF16", "compress", "([CI[BII)I"⟩ : MethodName) jdk_52_method_21_code 7 (some .int) :: ws) ({ frames := 0, cells := 0, slots := 0, locals := 0 } : Room)) (fun a U => a = #[(.ref b1), (.int (0 : Int32)), (.ref b2), (.int (0 : Int32)), (.int (1 : Int32))] ∧ Z.Warmed39 U.vm ∧ U.heap = h0) (fun _ _ _ _ _ => True) (fun _ U o U' => ∃ v L, o = .returned v ∧ Q_rmcv1 Z b1 b2 k1 k2 x0 h0 n0 v U'.heap L ∧ FrameEnd U o U' L ({ frames := 0, cells := 0, slots := 0, locals := 0 } : Room).cells ({ frames := 0, cells := 0, slots := 0, locals := 0 } : Room).slots) := by
  refine MetFree.of_bodySF (plainFor_of_name pn_rmgc) hisR ?_
  intro p e s m args_ below meth c s₁ Bd hml0 hP hK
  obtain ⟨hargs, hZ, hh⟩ := hP
  have hx := Bd.exec
  have hby := Bd.bytes
  have hml : c.maxLocals = 7 := hml0
  have hown : s.vm.findClass "java/lang/StringUTF16" = some m.cls := findClass_of_methodNamed Bd.named
  have hnm := (name_of_methodNamed Bd.named Bd.method).1
  have X0 : Stand p l e ({ frames := 0, cells := 0, slots := 0, locals := 0 } : Room) s m args_ below meth c s₁ [] 0 0 := Stand.of_body Bd
  have e0 : s₁.heap = h0 := by rw [← hh, Bd.state]; rfl
  have N0 := Fr.nil n0
  have hv : ∀ (i : Nat) {d : Jvm.Cond}, tables_1[i]? = some d → d.before a0 Z = true := fun i d q => hw d (List.mem_of_getElem? q)
  have K0 : Keep h0 h0 [b2] := Keep.refl _ _
  have k0 : Go p e below m (s₁.setTop (entryFrame m args_ 7)) s₁ 0 #[.val (.ref b1), .val (.int (0 : Int32)), .val (.ref b2), .val (.int (0 : Int32)), .val (.int (1 : Int32)), .unset, .unset] [] := by rw [hargs]; exact fun t kt => castTop (ef_rmcv1 m b1 b2) kt
  obtain ⟨W, hWW⟩ : ∃ W, W = s₁.setTop (entryFrame m args_ 7) := ⟨_, rfl⟩
  rw [← hWW] at k0 ⊢
  show Done p e below s W (Q_rmcv1 Z b1 b2 k1 k2 x0 h0 n0) ({ frames := 0, cells := 0, slots := 0, locals := 0 } : Room).cells ({ frames := 0, cells := 0, slots := 0, locals := 0 } : Room).slots
  have k20 : Go p e below m W s₁ 3 #[.val (.ref b1), .val (.int (0 : Int32)), .val (.ref b2), .val (.int (0 : Int32)), .val (.int (1 : Int32)), .val (.int (0 : Int32)), .unset] [] := (k0.iconst X0 hx (hb hby d_rmcv1_0) (v := (0 : Int32)) rfl).istore X0 hx (hb hby d_rmcv1_1) rfl
  have k21 : Go p e below m W s₁ 12 #[.val (.ref b1), .val (.int (0 : Int32)), .val (.ref b2), .val (.int (0 : Int32)), .val (.int (1 : Int32)), .val (.int (0 : Int32)), .unset] [(.int (0 : Int32)), (.ref b1)] := ((((k20.iload X0 hx (hb hby d_rmcv1_3) rfl).iload X0 hx (hb hby d_rmcv1_5) rfl).icmpNo X0 hx (hb hby d_rmcv1_7) (XT.ii_ge_f (by decide))).aloadN X0 hx (hb hby d_rmcv1_10) rfl rfl).iloadN X0 hx (hb hby d_rmcv1_11) rfl
  have k22 : Go p e below m W s₁ 15 #[.val (.ref b1), .val (.int (0 : Int32)), .val (.ref b2), .val (.int (0 : Int32)), .val (.int (1 : Int32)), .val (.int (0 : Int32)), .val (.int x0)] [] := (k21.caload (i := 0) (n := 1) X0 hx hZ e0 V1 rfl rfl (by decide) (by decide) rfl (hb hby d_rmcv1_12)).istore X0 hx (hb hby d_rmcv1_13) rfl
  have k23 : Go p e below m W s₁ 20 #[.val (.ref b1), .val (.int (0 : Int32)), .val (.ref b2), .val (.int (0 : Int32)), .val (.int (1 : Int32)), .val (.int (0 : Int32)), .val (.int x0)] [(.int (255 : Int32)), (.int x0)] := (k22.iload X0 hx (hb hby d_rmcv1_15) rfl).sipush X0 hx (hb hby d_rmcv1_17) (v := (255 : Int32)) rfl
  by_cases hc20_24 : (255 : Int32) < x0
  ·
    have k25 : Go p e below m W s₁ 25 #[.val (.ref b1), .val (.int (0 : Int32)), .val (.ref b2), .val (.int (0 : Int32)), .val (.int (1 : Int32)), .val (.int (0 : Int32)), .val (.int x0)] [(.int (0 : Int32))] := (k23.icmpNo X0 hx (hb hby d_rmcv1_20) (XT.ii_le_f hc20_24)).iload X0 hx (hb hby d_rmcv1_23) rfl
    exact k25.ireturnI X0 hx Bd.returns (hb hby d_rmcv1_25) (BodyLoose.notSynchronized Bd) (by rw [e0]; exact ⟨(0 : Int32), [(.int (0 : Int32))], rfl, N0, K0, (Or.inl ⟨hc20_24, rfl⟩), V2⟩) (by decide) (by decide)
  ·
    have k26 : Go p e below m W s₁ 31 #[.val (.ref b1), .val (.int (0 : Int32)), .val (.ref b2), .val (.int (0 : Int32)), .val (.int (1 : Int32)), .val (.int (0 : Int32)), .val (.int x0)] [(.int (x0).toInt8.toInt32), (.int (0 : Int32)), (.ref b2)] := ((((k23.icmpYes X0 hx (hb hby d_rmcv1_20) (XT.ii_le_t hc20_24) (by decide) (by decide)).aloadN X0 hx (hb hby d_rmcv1_26) rfl rfl).iloadN X0 hx (hb hby d_rmcv1_27) rfl).iload X0 hx (hb hby d_rmcv1_28) rfl).i2b X0 hx (hb hby d_rmcv1_30)
    obtain ⟨T27, h27, l27, X27, e27, W27, V27, N27, k27⟩ := k26.bastore (i := 0) X0 hx hZ e0 V2 rfl rfl (by decide) (Nat.le_of_ble_eq_true rfl) N0 G2 (hb hby d_rmcv1_31)
    have k27 : Go p e below m W T27 32 #[.val (.ref b1), .val (.int (0 : Int32)), .val (.ref b2), .val (.int (0 : Int32)), .val (.int (1 : Int32)), .val (.int (0 : Int32)), .val (.int x0)] [] := k27
    have Z27 : n0 ≤ h27.size := (Wr.size W27).symm ▸ Z0
    rw [own_narb] at V27
    have V27 : Arv Z h27 b2 k2 .byte (1 : Int32) [(.int (x0).toInt8.toInt32)] (.int (0 : Int32)) := V27
    have K27 : Keep h0 h27 [b2] := K0.wr W27 (Or.inl (List.mem_of_getElem? (i := 0) rfl))
    have k28 : Go p e below m W T27 35 #[.val (.ref b1), .val (.int (1 : Int32)), .val (.ref b2), .val (.int (0 : Int32)), .val (.int (1 : Int32)), .val (.int (0 : Int32)), .val (.int x0)] [] := k27.iinc X27 hx (hb hby d_rmcv1_32) (v := (1 : Int32)) rfl rfl rfl
    have k29 : Go p e below m W T27 38 #[.val (.ref b1), .val (.int (1 : Int32)), .val (.ref b2), .val (.int (1 : Int32)), .val (.int (1 : Int32)), .val (.int (0 : Int32)), .val (.int x0)] [] := k28.iinc X27 hx (hb hby d_rmcv1_35) (v := (1 : Int32)) rfl rfl rfl
    have k30 : Go p e below m W T27 41 #[.val (.ref b1), .val (.int (1 : Int32)), .val (.ref b2), .val (.int (1 : Int32)), .val (.int (1 : Int32)), .val (.int (1 : Int32)), .val (.int x0)] [] := k29.iinc X27 hx (hb hby d_rmcv1_38) (v := (1 : Int32)) rfl rfl rfl
    have k31 : Go p e below m W T27 46 #[.val (.ref b1), .val (.int (1 : Int32)), .val (.ref b2), .val (.int (1 : Int32)), .val (.int (1 : Int32)), .val (.int (1 : Int32)), .val (.int x0)] [(.int (1 : Int32))] := ((((k30.goto X27 hx (hb hby d_rmcv1_41) (by decide) (by decide)).iload X27 hx (hb hby d_rmcv1_3) rfl).iload X27 hx (hb hby d_rmcv1_5) rfl).icmpYes X27 hx (hb hby d_rmcv1_7) (XT.ii_ge_t (by decide)) (by decide) (by decide)).iload X27 hx (hb hby d_rmcv1_44) rfl
    exact k31.ireturnI X27 hx Bd.returns (hb hby d_rmcv1_46) (BodyLoose.notSynchronized Bd) (by rw [e27]; exact ⟨(1 : Int32), [(.int (x0).toInt8.toInt32)], rfl, N27, K27, (Or.inr ⟨hc20_24, rfl, rfl⟩), V27⟩) (by decide) (by decide)

theorem d_rmcw1_0 : decode jdk_52_method_16_code 0 = .ok (.iload_n 2, 1) := by decide +kernel
theorem d_rmcw1_1 : decode jdk_52_method_16_code 1 = .ok (.newarray .byte, 2) := by decide +kernel
theorem d_rmcw1_3 : decode jdk_52_method_16_code 3 = .ok (.astore_n 3, 1) := by decide +kernel
theorem d_rmcw1_4 : decode jdk_52_method_16_code 4 = .ok (.aload_n 0, 1) := by decide +kernel
theorem d_rmcw1_5 : decode jdk_52_method_16_code 5 = .ok (.iload_n 1, 1) := by decide +kernel
theorem d_rmcw1_6 : decode jdk_52_method_16_code 6 = .ok (.aload_n 3, 1) := by decide +kernel
theorem d_rmcw1_7 : decode jdk_52_method_16_code 7 = .ok (.iconst 0, 1) := by decide +kernel
theorem d_rmcw1_8 : decode jdk_52_method_16_code 8 = .ok (.iload_n 2, 1) := by decide +kernel
theorem d_rmcw1_9 : decode jdk_52_method_16_code 9 = .ok (.invokestatic 115, 3) := by decide +kernel
theorem d_rmcw1_12 : decode jdk_52_method_16_code 12 = .ok (.istore 4, 2) := by decide +kernel
theorem d_rmcw1_14 : decode jdk_52_method_16_code 14 = .ok (.iload 4, 2) := by decide +kernel
theorem d_rmcw1_16 : decode jdk_52_method_16_code 16 = .ok (.iload_n 2, 1) := by decide +kernel
theorem d_rmcw1_17 : decode jdk_52_method_16_code 17 = .ok (.if_icmp .eq 40, 3) := by decide +kernel
theorem d_rmcw1_20 : decode jdk_52_method_16_code 20 = .ok (.aload_n 0, 1) := by decide +kernel
theorem d_rmcw1_21 : decode jdk_52_method_16_code 21 = .ok (.iload_n 1, 1) := by decide +kernel
theorem d_rmcw1_22 : decode jdk_52_method_16_code 22 = .ok (.iload_n 2, 1) := by decide +kernel
theorem d_rmcw1_23 : decode jdk_52_method_16_code 23 = .ok (.invokestatic 119, 3) := by decide +kernel
theorem d_rmcw1_26 : decode jdk_52_method_16_code 26 = .ok (.astore 5, 2) := by decide +kernel
theorem d_rmcw1_28 : decode jdk_52_method_16_code 28 = .ok (.aload 5, 2) := by decide +kernel
theorem d_rmcw1_30 : decode jdk_52_method_16_code 30 = .ok (.iload 4, 2) := by decide +kernel
theorem d_rmcw1_32 : decode jdk_52_method_16_code 32 = .ok (.invokestatic 71, 3) := by decide +kernel
theorem d_rmcw1_35 : decode jdk_52_method_16_code 35 = .ok (.sipush 255, 3) := by decide +kernel
theorem d_rmcw1_38 : decode jdk_52_method_16_code 38 = .ok (.if_icmp .gt 16, 3) := by decide +kernel
theorem d_rmcw1_54 : decode jdk_52_method_16_code 54 = .ok (.aload 5, 2) := by decide +kernel
theorem d_rmcw1_56 : decode jdk_52_method_16_code 56 = .ok (.areturn, 1) := by decide +kernel
theorem d_rmcw1_57 : decode jdk_52_method_16_code 57 = .ok (.aload_n 3, 1) := by decide +kernel
theorem d_rmcw1_58 : decode jdk_52_method_16_code 58 = .ok (.areturn, 1) := by decide +kernel
theorem pd_rmcw1_0 : parseMethodDescriptor "([CI[BII)I" = some ⟨[(.array .char), .int, (.array .byte), .int, .int], (some .int)⟩ := by decide +kernel
theorem pd_rmcw1_1 : parseMethodDescriptor "([CII)[B" = some ⟨[(.array .char), .int, .int], (some (.array .byte))⟩ := by decide +kernel
theorem ef_rmcw1 (m : MethodId) (b1 : Addr) : entryFrame m #[(.ref b1), (.int (0 : Int32)), (.int (1 : Int32))] 6 = mkF m 0 #[.val (.ref b1), .val (.int (0 : Int32)), .val (.int (1 : Int32)), .unset, .unset, .unset] [] := by first | (simp [entryFrame, mkF, argsToLocals, Value.category]; done) | rfl
def Q_rmcw1 (Z : State) (b1 : Addr) (k1 : ClassId) (x0 : Int32) (h0 : Heap) (n0 : Nat) (v : Option Value) (h : Heap) (L : List Loc) : Prop := ∃ (ob : Addr) (ok : ClassId) (zz : Int32) (vs : List Value), v = some (.ref ob) ∧ Fr n0 L ∧ Keep h0 h [] ∧ (((¬ ((255 : Int32) < x0)) ∧ zz = (1 : Int32) ∧ vs = [(.int (x0).toInt8.toInt32)]) ∨ (zz = (2 : Int32) ∧ vs = [(.int (own_b0 x0)), (.int (own_b1 x0))])) ∧ Arv Z h ob ok .byte zz vs (.int (0 : Int32)) ∧ n0 ≤ ob ∧ h0.size ≤ ob
set_option maxRecDepth 65536 in
set_option maxHeartbeats 40000000 in
theorem rmcw1 (l : Launch) (Z : State) (a0 : Array Value) (hw : ∀ d ∈ tables_1, d.before a0 Z = true) (ws : List Jvm.Cond) (b1 : Addr) (k1 : ClassId) (x0 : Int32) (h0 : Heap) (n0 : Nat) (Z0 : n0 ≤ h0.size) (O0 : Old Z n0 h0) (SAD : Sta Z Z.heap "java/lang/StringUTF16" "$assertionsDisabled" "Z" (.int (1 : Int32))) (SHI : Sta Z Z.heap "java/lang/StringUTF16" "HI_BYTE_SHIFT" "I" (.int (0 : Int32))) (SLO : Sta Z Z.heap "java/lang/StringUTF16" "LO_BYTE_SHIFT" "I" (.int (8 : Int32))) (V1 : Arv Z h0 b1 k1 .char (1 : Int32) [(.int x0)] (.int (0 : Int32))) (R0 : own_rk x0) :
    MetFree l (⟨"java/lang/StringUTF16", "compress", "([CII)[B"⟩ : MethodName) (head1 (Jvm.Cond.code (⟨"java/lang/StringUTF16", "compress", "([CII)[B"⟩ : MethodName) jdk_52_method_16_code 6 (some (.array .byte)) :: ws) ({ frames := 3, cells := 2, slots := 3, locals := 40 } : Room)) (fun a U => a = #[(.ref b1), (.int (0 : Int32)), (.int (1 : Int32))] ∧ Z.Warmed39 U.vm ∧ U.heap = h0) (fun _ _ _ _ _ => True) (fun _ U o U' => ∃ v L, o = .returned v ∧ Q_rmcw1 Z b1 k1 x0 h0 n0 v U'.heap L ∧ FrameEnd U o U' L ({ frames := 3, cells := 2, slots := 3, locals := 40 } : Room).cells ({ frames := 3, cells := 2, slots := 3, locals := 40 } : Room).slots) := by
  refine MetFree.of_bodySF (plainFor_of_name pn_rmgc) hisR ?_
  intro p e s m args_ below meth c s₁ Bd hml0 hP hK
  obtain ⟨hargs, hZ, hh⟩ := hP
  have hx := Bd.exec
  have hby := Bd.bytes
  have hml : c.maxLocals = 6 := hml0
  have hown : s.vm.findClass "java/lang/StringUTF16" = some m.cls := findClass_of_methodNamed Bd.named
  have hnm := (name_of_methodNamed Bd.named Bd.method).1
  have X0 : Stand p l e ({ frames := 3, cells := 2, slots := 3, locals := 40 } : Room) s m args_ below meth c s₁ [] 0 0 := Stand.of_body Bd
  have e0 : s₁.heap = h0 := by rw [← hh, Bd.state]; rfl
  have N0 := Fr.nil n0
  have hv : ∀ (i : Nat) {d : Jvm.Cond}, tables_1[i]? = some d → d.before a0 Z = true := fun i d q => hw d (List.mem_of_getElem? q)
  have K0 : Keep h0 h0 [] := Keep.refl _ _
  have k0 : Go p e below m (s₁.setTop (entryFrame m args_ 6)) s₁ 0 #[.val (.ref b1), .val (.int (0 : Int32)), .val (.int (1 : Int32)), .unset, .unset, .unset] [] := by rw [hargs]; exact fun t kt => castTop (ef_rmcw1 m b1) kt
  obtain ⟨W, hWW⟩ : ∃ W, W = s₁.setTop (entryFrame m args_ 6) := ⟨_, rfl⟩
  rw [← hWW] at k0 ⊢
  show Done p e below s W (Q_rmcw1 Z b1 k1 x0 h0 n0) ({ frames := 3, cells := 2, slots := 3, locals := 40 } : Room).cells ({ frames := 3, cells := 2, slots := 3, locals := 40 } : Room).slots
  have k20 : Go p e below m W s₁ 1 #[.val (.ref b1), .val (.int (0 : Int32)), .val (.int (1 : Int32)), .unset, .unset, .unset] [(.int (1 : Int32))] := k0.iloadN X0 hx (hb hby d_rmcw1_0) rfl
  obtain ⟨T21, h21, b21, c21, X21, e21, g21, E21, A21, k21⟩ := k20.newP (cap := 1) (cells' := 1) (slots' := 1) X0 hx hZ (hv 31 rfl) e0 (hb hby d_rmcw1_1) (by decide) (by decide) (by decide) rfl rfl (by decide) (by decide)
  have k21 : Go p e below m W T21 3 #[.val (.ref b1), .val (.int (0 : Int32)), .val (.int (1 : Int32)), .unset, .unset, .unset] [(.ref b21)] := k21
  have Z21 : n0 ≤ h21.size := Nat.le_trans Z0 E21.1
  have G21 : n0 ≤ b21 := g21 ▸ Z0
  have H21 : h0.size ≤ b21 := g21 ▸ K0.1
  have K21 : Keep h0 h21 [] := K0.ext E21
  have V21 : Arv Z h21 b21 c21 .byte (1 : Int32) [(.int (0 : Int32))] (.int (0 : Int32)) := A21 1
  have k22 : Go p e below m W T21 4 #[.val (.ref b1), .val (.int (0 : Int32)), .val (.int (1 : Int32)), .val (.ref b21), .unset, .unset] [] := k21.astoreN X21 hx (hb hby d_rmcw1_3) rfl rfl
  have k23 : Go p e below m W T21 9 #[.val (.ref b1), .val (.int (0 : Int32)), .val (.int (1 : Int32)), .val (.ref b21), .unset, .unset] [(.int (1 : Int32)), (.int (0 : Int32)), (.ref b21), (.int (0 : Int32)), (.ref b1)] := ((((k22.aloadN X21 hx (hb hby d_rmcw1_4) rfl rfl).iloadN X21 hx (hb hby d_rmcw1_5) rfl).aloadN X21 hx (hb hby d_rmcw1_6) rfl rfl).iconst X21 hx (hb hby d_rmcw1_7) (v := (0 : Int32)) rfl).iloadN X21 hx (hb hby d_rmcw1_8) rfl
  have g_1 := V1.ext E21
  have g_2 := (show b1 ≠ b21 from Nat.ne_of_lt (g21 ▸ V1.lt))
  obtain ⟨T24, v24, L24, X24, Q24, k24⟩ := k23.stat (y := (⟨"java/lang/StringUTF16", "compress", "([CI[BII)I"⟩ : MethodName)) (Wd := 0) (cells' := 1) (slots' := 1) (argsL := [(.ref b1), (.int (0 : Int32)), (.ref b21), (.int (0 : Int32)), (.int (1 : Int32))]) (rest := []) X21 hx hZ hown (by rw [hml]; rfl) (hv 72 rfl) (hv 73 rfl) (hv 74 rfl) (hv 70 rfl) (hb hby d_rmcw1_9) (by decide) (rmcv1 l Z a0 hw [] b1 b21 k1 c21 x0 h21 n0 Z21 g_1 V21 G21 g_2) e21 rfl rfl pd_rmcw1_0 rfl (Nat.le_of_eq rfl) (by decide) (by decide) rfl rfl (by decide) (by decide)
  obtain ⟨ro_24, vs_24, rfl, Nq24, Kq24, p24_0, q24_0⟩ := Q24
  have N24 := Fr.app N0 Nq24
  obtain ⟨h24, e24⟩ : ∃ h, T24.heap = h := ⟨_, rfl⟩
  rw [e24] at Kq24 q24_0
  have Z24 : n0 ≤ h24.size := Nat.le_trans Z21 Kq24.1
  have K24 : Keep h0 h24 [] := K21.trans Kq24 (by intro x q; simp only [List.mem_cons, List.not_mem_nil, or_false] at q; rcases q with rfl; exact (Or.inr H21))
  have k24 : Go p e below m W T24 12 #[.val (.ref b1), .val (.int (0 : Int32)), .val (.int (1 : Int32)), .val (.ref b21), .unset, .unset] [(.int ro_24)] := k24
  rcases p24_0 with ⟨hs25, q26⟩ | ⟨hs27, q28, q29⟩
  ·
    subst ro_24
    have k30 : Go p e below m W T24 14 #[.val (.ref b1), .val (.int (0 : Int32)), .val (.int (1 : Int32)), .val (.ref b21), .val (.int (0 : Int32)), .unset] [] := k24.istore X24 hx (hb hby d_rmcw1_12) rfl
    have k31 : Go p e below m W T24 23 #[.val (.ref b1), .val (.int (0 : Int32)), .val (.int (1 : Int32)), .val (.ref b21), .val (.int (0 : Int32)), .unset] [(.int (1 : Int32)), (.int (0 : Int32)), (.ref b1)] := (((((k30.iload X24 hx (hb hby d_rmcw1_14) rfl).iloadN X24 hx (hb hby d_rmcw1_16) rfl).icmpNo X24 hx (hb hby d_rmcw1_17) (XT.ii_eq_f (by decide))).aloadN X24 hx (hb hby d_rmcw1_20) rfl rfl).iloadN X24 hx (hb hby d_rmcw1_21) rfl).iloadN X24 hx (hb hby d_rmcw1_22) rfl
    have g_3 := (O0.ext E21).keep Kq24 (by intro x q; simp only [List.mem_cons, List.not_mem_nil, or_false] at q; rcases q with rfl; exact G21)
    have g_4 := g_1.keep Kq24 (by simp only [List.mem_cons, List.not_mem_nil, or_false, not_or]; exact g_2)
    obtain ⟨T32, v32, L32, X32, Q32, k32⟩ := k31.stat (y := (⟨"java/lang/StringUTF16", "toBytes", "([CII)[B"⟩ : MethodName)) (Wd := 0) (cells' := 2) (slots' := 3) (argsL := [(.ref b1), (.int (0 : Int32)), (.int (1 : Int32))]) (rest := []) X24 hx hZ hown (by rw [hml]; rfl) (hv 109 rfl) (hv 110 rfl) (hv 111 rfl) (hv 70 rfl) (hb hby d_rmcw1_23) (by decide) (rmtb1 l Z a0 hw [] b1 k1 x0 h24 n0 Z24 g_3 SAD SHI SLO g_4) e24 rfl rfl pd_rmcw1_1 rfl (Nat.le_of_eq rfl) (by decide) (by decide) rfl rfl (by decide) (by decide)
    obtain ⟨ob_32, ok_32, rfl, Nq32, Kq32, q32_0, q32_1, q32_2⟩ := Q32
    have N32 := Fr.app N24 Nq32
    obtain ⟨h32, e32⟩ : ∃ h, T32.heap = h := ⟨_, rfl⟩
    rw [e32] at Kq32 q32_0
    have Z32 : n0 ≤ h32.size := Nat.le_trans Z24 Kq32.1
    have K32 : Keep h0 h32 [] := K24.trans Kq32 (fun x q => absurd q List.not_mem_nil)
    have H33 : h0.size ≤ ob_32 := Nat.le_trans K24.1 q32_2
    have k32 : Go p e below m W T32 26 #[.val (.ref b1), .val (.int (0 : Int32)), .val (.int (1 : Int32)), .val (.ref b21), .val (.int (0 : Int32)), .unset] [(.ref ob_32)] := k32
    have k34 : Go p e below m W T32 28 #[.val (.ref b1), .val (.int (0 : Int32)), .val (.int (1 : Int32)), .val (.ref b21), .val (.int (0 : Int32)), .val (.ref ob_32)] [] := k32.astore X32 hx (hb hby d_rmcw1_26) rfl rfl
    have k35 : Go p e below m W T32 32 #[.val (.ref b1), .val (.int (0 : Int32)), .val (.int (1 : Int32)), .val (.ref b21), .val (.int (0 : Int32)), .val (.ref ob_32)] [(.int (0 : Int32)), (.ref ob_32)] := (k34.aload X32 hx (hb hby d_rmcw1_28) rfl rfl).iload X32 hx (hb hby d_rmcw1_30) rfl
    have g_5 := g_3.keep Kq32 (fun x q => absurd q List.not_mem_nil)
    obtain ⟨T36, v36, L36, X36, Q36, k36⟩ := k35.stat (y := (⟨"java/lang/StringUTF16", "getChar", "([BI)C"⟩ : MethodName)) (Wd := 0) (cells' := 2) (slots' := 3) (argsL := [(.ref ob_32), (.int (0 : Int32))]) (rest := []) X32 hx hZ hown (by rw [hml]; rfl) (hv 125 rfl) (hv 126 rfl) (hv 127 rfl) (hv 70 rfl) (hb hby d_rmcw1_32) (by decide) (rmgc l Z a0 hw [] ob_32 (0 : Int32) ok_32 (2 : Int32) ([(.int (own_b0 x0)), (.int (own_b1 x0))]) 2 0 (own_b0 x0) (own_b1 x0) x0 h32 n0 Z32 g_5 SAD SHI SLO q32_0 (by decide) (by decide) (by decide) (by decide) rfl (by decide) (by decide) (by decide) rfl (own_chr R0) R0) e32 rfl rfl pd_rmua_1 rfl (Nat.le_of_eq rfl) (by decide) (by decide) rfl rfl (by decide) (by decide)
    obtain ⟨rfl, Nq36, e36q⟩ := Q36
    have N36 := Fr.app N32 Nq36
    have e36 : T36.heap = h32 := e36q
    have k36 : Go p e below m W T36 35 #[.val (.ref b1), .val (.int (0 : Int32)), .val (.int (1 : Int32)), .val (.ref b21), .val (.int (0 : Int32)), .val (.ref ob_32)] [(.int x0)] := k36
    have k37 : Go p e below m W T36 56 #[.val (.ref b1), .val (.int (0 : Int32)), .val (.int (1 : Int32)), .val (.ref b21), .val (.int (0 : Int32)), .val (.ref ob_32)] [(.ref ob_32)] := ((k36.sipush X36 hx (hb hby d_rmcw1_35) (v := (255 : Int32)) rfl).icmpYes X36 hx (hb hby d_rmcw1_38) (XT.ii_gt_t hs25) (by decide) (by decide)).aload X36 hx (hb hby d_rmcw1_54) rfl rfl
    exact k37.areturn X36 hx Bd.returns rfl rfl (hb hby d_rmcw1_56) (BodyLoose.notSynchronized Bd) (by rw [e36]; exact ⟨ob_32, ok_32, (2 : Int32), [(.int (own_b0 x0)), (.int (own_b1 x0))], rfl, N36, K32, (Or.inr ⟨rfl, rfl⟩), q32_0, q32_1, H33⟩) (by decide) (by decide)
  ·
    subst ro_24
    subst vs_24
    have k38 : Go p e below m W T24 14 #[.val (.ref b1), .val (.int (0 : Int32)), .val (.int (1 : Int32)), .val (.ref b21), .val (.int (1 : Int32)), .unset] [] := k24.istore X24 hx (hb hby d_rmcw1_12) rfl
    have k39 : Go p e below m W T24 58 #[.val (.ref b1), .val (.int (0 : Int32)), .val (.int (1 : Int32)), .val (.ref b21), .val (.int (1 : Int32)), .unset] [(.ref b21)] := (((k38.iload X24 hx (hb hby d_rmcw1_14) rfl).iloadN X24 hx (hb hby d_rmcw1_16) rfl).icmpYes X24 hx (hb hby d_rmcw1_17) (XT.ii_eq_t (by decide)) (by decide) (by decide)).aloadN X24 hx (hb hby d_rmcw1_57) rfl rfl
    exact k39.areturn X24 hx Bd.returns rfl rfl (hb hby d_rmcw1_58) (BodyLoose.notSynchronized Bd) (by rw [e24]; exact ⟨b21, c21, (1 : Int32), [(.int (x0).toInt8.toInt32)], rfl, N24, K24, (Or.inl ⟨hs27, rfl, rfl⟩), q24_0, G21, H21⟩) (by decide) (by decide)

theorem d_rmcf1_1_0 : decode jdk_52_method_15_code 0 = .ok (.iload_n 1, 1) := by decide +kernel
theorem d_rmcf1_1_1 : decode jdk_52_method_15_code 1 = .ok (.aload_n 0, 1) := by decide +kernel
theorem d_rmcf1_1_2 : decode jdk_52_method_15_code 2 = .ok (.arraylength, 1) := by decide +kernel
theorem d_rmcf1_1_3 : decode jdk_52_method_15_code 3 = .ok (.isub, 1) := by decide +kernel
theorem d_rmcf1_1_4 : decode jdk_52_method_15_code 4 = .ok (.bipush 31, 2) := by decide +kernel
theorem d_rmcf1_1_6 : decode jdk_52_method_15_code 6 = .ok (.iushr, 1) := by decide +kernel
theorem d_rmcf1_1_7 : decode jdk_52_method_15_code 7 = .ok (.i2b, 1) := by decide +kernel
theorem d_rmcf1_1_8 : decode jdk_52_method_15_code 8 = .ok (.ireturn, 1) := by decide +kernel
theorem ef_rmcf1_1 (m : MethodId) (a1 : Addr) : entryFrame m #[(.ref a1), (.int (1 : Int32))] 2 = mkF m 0 #[.val (.ref a1), .val (.int (1 : Int32))] [] := by first | (simp [entryFrame, mkF, argsToLocals, Value.category]; done) | rfl
def Q_rmcf1_1 (Z : State) (a1 : Addr) (kb : ClassId) (vs : List Value) (h0 : Heap) (n0 : Nat) (v : Option Value) (h : Heap) (L : List Loc) : Prop := v = some (.int (0 : Int32)) ∧ Fr n0 L ∧ h = h0
set_option maxRecDepth 65536 in
set_option maxHeartbeats 40000000 in
theorem rmcf1_1 (l : Launch) (Z : State) (a0 : Array Value) (hw : ∀ d ∈ tables_1, d.before a0 Z = true) (ws : List Jvm.Cond) (a1 : Addr) (kb : ClassId) (vs : List Value) (h0 : Heap) (n0 : Nat) (Z0 : n0 ≤ h0.size) (V1 : Arv Z h0 a1 kb .byte (1 : Int32) vs (.int (0 : Int32))) :
    MetFree l (⟨"java/lang/StringUTF16", "coderFromArrayLen", "([BI)B"⟩ : MethodName) (head1 (Jvm.Cond.code (⟨"java/lang/StringUTF16", "coderFromArrayLen", "([BI)B"⟩ : MethodName) jdk_52_method_15_code 2 (some .byte) :: ws) ({ frames := 0, cells := 0, slots := 0, locals := 0 } : Room)) (fun a U => a = #[(.ref a1), (.int (1 : Int32))] ∧ Z.Warmed39 U.vm ∧ U.heap = h0) (fun _ _ _ _ _ => True) (fun _ U o U' => ∃ v L, o = .returned v ∧ Q_rmcf1_1 Z a1 kb vs h0 n0 v U'.heap L ∧ FrameEnd U o U' L ({ frames := 0, cells := 0, slots := 0, locals := 0 } : Room).cells ({ frames := 0, cells := 0, slots := 0, locals := 0 } : Room).slots) := by
  refine MetFree.of_bodySF (plainFor_of_name pn_rmgc) hisR ?_
  intro p e s m args_ below meth c s₁ Bd hml0 hP hK
  obtain ⟨hargs, hZ, hh⟩ := hP
  have hx := Bd.exec
  have hby := Bd.bytes
  have hml : c.maxLocals = 2 := hml0
  have hown : s.vm.findClass "java/lang/StringUTF16" = some m.cls := findClass_of_methodNamed Bd.named
  have hnm := (name_of_methodNamed Bd.named Bd.method).1
  have X0 : Stand p l e ({ frames := 0, cells := 0, slots := 0, locals := 0 } : Room) s m args_ below meth c s₁ [] 0 0 := Stand.of_body Bd
  have e0 : s₁.heap = h0 := by rw [← hh, Bd.state]; rfl
  have N0 := Fr.nil n0
  have hv : ∀ (i : Nat) {d : Jvm.Cond}, tables_1[i]? = some d → d.before a0 Z = true := fun i d q => hw d (List.mem_of_getElem? q)
  have k0 : Go p e below m (s₁.setTop (entryFrame m args_ 2)) s₁ 0 #[.val (.ref a1), .val (.int (1 : Int32))] [] := by rw [hargs]; exact fun t kt => castTop (ef_rmcf1_1 m a1) kt
  obtain ⟨W, hWW⟩ : ∃ W, W = s₁.setTop (entryFrame m args_ 2) := ⟨_, rfl⟩
  rw [← hWW] at k0 ⊢
  show Done p e below s W (Q_rmcf1_1 Z a1 kb vs h0 n0) ({ frames := 0, cells := 0, slots := 0, locals := 0 } : Room).cells ({ frames := 0, cells := 0, slots := 0, locals := 0 } : Room).slots
  have k20 : Go p e below m W s₁ 2 #[.val (.ref a1), .val (.int (1 : Int32))] [(.ref a1), (.int (1 : Int32))] := (k0.iloadN X0 hx (hb hby d_rmcf1_1_0) rfl).aloadN X0 hx (hb hby d_rmcf1_1_1) rfl rfl
  have k21 : Go p e below m W s₁ 8 #[.val (.ref a1), .val (.int (1 : Int32))] [(.int (0 : Int32))] := (((((((k20.arraylength X0 hx hZ e0 V1 (hb hby d_rmcf1_1_2)).isub X0 hx (hb hby d_rmcf1_1_3)).cast (y := (0 : Int32)) (by decide)).bipush X0 hx (hb hby d_rmcf1_1_4) (v := (31 : Int32)) rfl).iushr X0 hx (hb hby d_rmcf1_1_6)).cast (y := (0 : Int32)) (by decide)).i2b X0 hx (hb hby d_rmcf1_1_7)).cast (y := (0 : Int32)) (by decide)
  exact k21.ireturnN X0 hx (t := .byte) Bd.returns (by simp) rfl (hb hby d_rmcf1_1_8) (BodyLoose.notSynchronized Bd) (by rw [e0]; exact ⟨rfl, N0, rfl⟩) (by decide) (by decide)

theorem ef_rmcf1_2 (m : MethodId) (a1 : Addr) : entryFrame m #[(.ref a1), (.int (1 : Int32))] 2 = mkF m 0 #[.val (.ref a1), .val (.int (1 : Int32))] [] := by first | (simp [entryFrame, mkF, argsToLocals, Value.category]; done) | rfl
def Q_rmcf1_2 (Z : State) (a1 : Addr) (kb : ClassId) (vs : List Value) (h0 : Heap) (n0 : Nat) (v : Option Value) (h : Heap) (L : List Loc) : Prop := v = some (.int (1 : Int32)) ∧ Fr n0 L ∧ h = h0
set_option maxRecDepth 65536 in
set_option maxHeartbeats 40000000 in
theorem rmcf1_2 (l : Launch) (Z : State) (a0 : Array Value) (hw : ∀ d ∈ tables_1, d.before a0 Z = true) (ws : List Jvm.Cond) (a1 : Addr) (kb : ClassId) (vs : List Value) (h0 : Heap) (n0 : Nat) (Z0 : n0 ≤ h0.size) (V1 : Arv Z h0 a1 kb .byte (2 : Int32) vs (.int (0 : Int32))) :
    MetFree l (⟨"java/lang/StringUTF16", "coderFromArrayLen", "([BI)B"⟩ : MethodName) (head1 (Jvm.Cond.code (⟨"java/lang/StringUTF16", "coderFromArrayLen", "([BI)B"⟩ : MethodName) jdk_52_method_15_code 2 (some .byte) :: ws) ({ frames := 0, cells := 0, slots := 0, locals := 0 } : Room)) (fun a U => a = #[(.ref a1), (.int (1 : Int32))] ∧ Z.Warmed39 U.vm ∧ U.heap = h0) (fun _ _ _ _ _ => True) (fun _ U o U' => ∃ v L, o = .returned v ∧ Q_rmcf1_2 Z a1 kb vs h0 n0 v U'.heap L ∧ FrameEnd U o U' L ({ frames := 0, cells := 0, slots := 0, locals := 0 } : Room).cells ({ frames := 0, cells := 0, slots := 0, locals := 0 } : Room).slots) := by
  refine MetFree.of_bodySF (plainFor_of_name pn_rmgc) hisR ?_
  intro p e s m args_ below meth c s₁ Bd hml0 hP hK
  obtain ⟨hargs, hZ, hh⟩ := hP
  have hx := Bd.exec
  have hby := Bd.bytes
  have hml : c.maxLocals = 2 := hml0
  have hown : s.vm.findClass "java/lang/StringUTF16" = some m.cls := findClass_of_methodNamed Bd.named
  have hnm := (name_of_methodNamed Bd.named Bd.method).1
  have X0 : Stand p l e ({ frames := 0, cells := 0, slots := 0, locals := 0 } : Room) s m args_ below meth c s₁ [] 0 0 := Stand.of_body Bd
  have e0 : s₁.heap = h0 := by rw [← hh, Bd.state]; rfl
  have N0 := Fr.nil n0
  have hv : ∀ (i : Nat) {d : Jvm.Cond}, tables_1[i]? = some d → d.before a0 Z = true := fun i d q => hw d (List.mem_of_getElem? q)
  have k0 : Go p e below m (s₁.setTop (entryFrame m args_ 2)) s₁ 0 #[.val (.ref a1), .val (.int (1 : Int32))] [] := by rw [hargs]; exact fun t kt => castTop (ef_rmcf1_2 m a1) kt
  obtain ⟨W, hWW⟩ : ∃ W, W = s₁.setTop (entryFrame m args_ 2) := ⟨_, rfl⟩
  rw [← hWW] at k0 ⊢
  show Done p e below s W (Q_rmcf1_2 Z a1 kb vs h0 n0) ({ frames := 0, cells := 0, slots := 0, locals := 0 } : Room).cells ({ frames := 0, cells := 0, slots := 0, locals := 0 } : Room).slots
  have k20 : Go p e below m W s₁ 2 #[.val (.ref a1), .val (.int (1 : Int32))] [(.ref a1), (.int (1 : Int32))] := (k0.iloadN X0 hx (hb hby d_rmcf1_1_0) rfl).aloadN X0 hx (hb hby d_rmcf1_1_1) rfl rfl
  have k21 : Go p e below m W s₁ 8 #[.val (.ref a1), .val (.int (1 : Int32))] [(.int (1 : Int32))] := (((((((k20.arraylength X0 hx hZ e0 V1 (hb hby d_rmcf1_1_2)).isub X0 hx (hb hby d_rmcf1_1_3)).cast (y := (-1 : Int32)) (by decide)).bipush X0 hx (hb hby d_rmcf1_1_4) (v := (31 : Int32)) rfl).iushr X0 hx (hb hby d_rmcf1_1_6)).cast (y := (1 : Int32)) (by decide)).i2b X0 hx (hb hby d_rmcf1_1_7)).cast (y := (1 : Int32)) (by decide)
  exact k21.ireturnN X0 hx (t := .byte) Bd.returns (by simp) rfl (hb hby d_rmcf1_1_8) (BodyLoose.notSynchronized Bd) (by rw [e0]; exact ⟨rfl, N0, rfl⟩) (by decide) (by decide)

theorem d_rms4_27 : decode jdk_42_method_149_code 27 = .ok (.getstatic 38, 3) := by decide +kernel
theorem d_rms4_30 : decode jdk_42_method_149_code 30 = .ok (.ifCond .eq 28, 3) := by decide +kernel
theorem d_rms4_33 : decode jdk_42_method_149_code 33 = .ok (.aload_n 1, 1) := by decide +kernel
theorem d_rms4_34 : decode jdk_42_method_149_code 34 = .ok (.iload_n 2, 1) := by decide +kernel
theorem d_rms4_35 : decode jdk_42_method_149_code 35 = .ok (.iload_n 3, 1) := by decide +kernel
theorem d_rms4_36 : decode jdk_42_method_149_code 36 = .ok (.invokestatic 177, 3) := by decide +kernel
theorem d_rms4_39 : decode jdk_42_method_149_code 39 = .ok (.astore 5, 2) := by decide +kernel
theorem d_rms4_41 : decode jdk_42_method_149_code 41 = .ok (.aload_n 0, 1) := by decide +kernel
theorem d_rms4_42 : decode jdk_42_method_149_code 42 = .ok (.aload 5, 2) := by decide +kernel
theorem d_rms4_44 : decode jdk_42_method_149_code 44 = .ok (.iload_n 3, 1) := by decide +kernel
theorem d_rms4_45 : decode jdk_42_method_149_code 45 = .ok (.invokestatic 47, 3) := by decide +kernel
theorem d_rms4_48 : decode jdk_42_method_149_code 48 = .ok (.putfield 15, 3) := by decide +kernel
theorem d_rms4_51 : decode jdk_42_method_149_code 51 = .ok (.aload_n 0, 1) := by decide +kernel
theorem d_rms4_52 : decode jdk_42_method_149_code 52 = .ok (.aload 5, 2) := by decide +kernel
theorem d_rms4_54 : decode jdk_42_method_149_code 54 = .ok (.putfield 9, 3) := by decide +kernel
theorem d_rms4_57 : decode jdk_42_method_149_code 57 = .ok (.return_, 1) := by decide +kernel
theorem pd_rmi4_1_1 : parseMethodDescriptor "([BI)B" = some ⟨[(.array .byte), .int], (some .byte)⟩ := by decide +kernel
theorem ef_rmi4_1 (m : MethodId) (a1 : Addr) (b1 : Addr) : entryFrame m #[(.ref a1), (.ref b1), (.int (0 : Int32)), (.int (1 : Int32)), .null] 6 = mkF m 0 #[.val (.ref a1), .val (.ref b1), .val (.int (0 : Int32)), .val (.int (1 : Int32)), .val .null, .unset] [] := by first | (simp [entryFrame, mkF, argsToLocals, Value.category]; done) | rfl
def Q_rmi4_1 (Z : State) (a1 : Addr) (b1 : Addr) (k1 : ClassId) (x0 : Int32) (u0 : Value) (u1 : Value) (cz : Int32) (h0 : Heap) (n0 : Nat) (v : Option Value) (h : Heap) (L : List Loc) : Prop := ∃ (ot : Addr) (ok : ClassId) (zz : Int32) (cd : Int32) (vs : List Value), v = none ∧ Fr n0 L ∧ Keep h0 h [a1] ∧ (own_Enc [x0] zz cd vs) ∧ Exa Z h a1 "java/lang/String" ∧ Fld Z h a1 "java/lang/String" "value" "[B" (.ref ot) ∧ Fld Z h a1 "java/lang/String" "coder" "B" (.int cd) ∧ Arv Z h ot ok .byte zz vs (.int (0 : Int32))
set_option maxRecDepth 65536 in
set_option maxHeartbeats 40000000 in
theorem rmi4_1 (l : Launch) (Z : State) (a0 : Array Value) (hw : ∀ d ∈ tables_1, d.before a0 Z = true) (ws : List Jvm.Cond) (a1 : Addr) (b1 : Addr) (k1 : ClassId) (x0 : Int32) (u0 : Value) (u1 : Value) (cz : Int32) (h0 : Heap) (n0 : Nat) (Z0 : n0 ≤ h0.size) (O0 : Old Z n0 h0) (SCZ : Sta Z Z.heap "java/lang/String" "COMPACT_STRINGS" "Z" (.int cz)) (hcz : ¬ (cz = (0 : Int32))) (SAD : Sta Z Z.heap "java/lang/StringUTF16" "$assertionsDisabled" "Z" (.int (1 : Int32))) (SHI : Sta Z Z.heap "java/lang/StringUTF16" "HI_BYTE_SHIFT" "I" (.int (0 : Int32))) (SLO : Sta Z Z.heap "java/lang/StringUTF16" "LO_BYTE_SHIFT" "I" (.int (8 : Int32))) (E1 : Exa Z h0 a1 "java/lang/String") (G1 : n0 ≤ a1) (F0 : Fld Z h0 a1 "java/lang/String" "value" "[B" u0) (F1 : Fld Z h0 a1 "java/lang/String" "coder" "B" u1) (V1 : Arv Z h0 b1 k1 .char (1 : Int32) [(.int x0)] (.int (0 : Int32))) (R0 : own_rk x0) :
    MetFree l (⟨"java/lang/String", "<init>", "([CIILjava/lang/Void;)V"⟩ : MethodName) (head1 (Jvm.Cond.code (⟨"java/lang/String", "<init>", "([CIILjava/lang/Void;)V"⟩ : MethodName) jdk_42_method_149_code 6 none :: ws) ({ frames := 4, cells := 2, slots := 3, locals := 57 } : Room)) (fun a U => a = #[(.ref a1), (.ref b1), (.int (0 : Int32)), (.int (1 : Int32)), .null] ∧ Z.Warmed39 U.vm ∧ U.heap = h0) (fun _ _ _ _ _ => True) (fun _ U o U' => ∃ v L, o = .returned v ∧ Q_rmi4_1 Z a1 b1 k1 x0 u0 u1 cz h0 n0 v U'.heap L ∧ FrameEnd U o U' L ({ frames := 4, cells := 2, slots := 3, locals := 57 } : Room).cells ({ frames := 4, cells := 2, slots := 3, locals := 57 } : Room).slots) := by
  refine MetFree.of_bodySF (plainFor_of_name pn_rmci) hisR ?_
  intro p e s m args_ below meth c s₁ Bd hml0 hP hK
  obtain ⟨hargs, hZ, hh⟩ := hP
  have hx := Bd.exec
  have hby := Bd.bytes
  have hml : c.maxLocals = 6 := hml0
  have hown : s.vm.findClass "java/lang/String" = some m.cls := findClass_of_methodNamed Bd.named
  have hnm := (name_of_methodNamed Bd.named Bd.method).1
  have X0 : Stand p l e ({ frames := 4, cells := 2, slots := 3, locals := 57 } : Room) s m args_ below meth c s₁ [] 0 0 := Stand.of_body Bd
  have e0 : s₁.heap = h0 := by rw [← hh, Bd.state]; rfl
  have N0 := Fr.nil n0
  have hv : ∀ (i : Nat) {d : Jvm.Cond}, tables_1[i]? = some d → d.before a0 Z = true := fun i d q => hw d (List.mem_of_getElem? q)
  have K0 : Keep h0 h0 [a1] := Keep.refl _ _
  have k0 : Go p e below m (s₁.setTop (entryFrame m args_ 6)) s₁ 0 #[.val (.ref a1), .val (.ref b1), .val (.int (0 : Int32)), .val (.int (1 : Int32)), .val .null, .unset] [] := by rw [hargs]; exact fun t kt => castTop (ef_rmi4_1 m a1 b1) kt
  obtain ⟨W, hWW⟩ : ∃ W, W = s₁.setTop (entryFrame m args_ 6) := ⟨_, rfl⟩
  rw [← hWW] at k0 ⊢
  show Done p e below s W (Q_rmi4_1 Z a1 b1 k1 x0 u0 u1 cz h0 n0) ({ frames := 4, cells := 2, slots := 3, locals := 57 } : Room).cells ({ frames := 4, cells := 2, slots := 3, locals := 57 } : Room).slots
  have k20 : Go p e below m W s₁ 1 #[.val (.ref a1), .val (.ref b1), .val (.int (0 : Int32)), .val (.int (1 : Int32)), .val .null, .unset] [(.ref a1)] := k0.aloadN X0 hx (hb hby d_rms4_0) rfl rfl
  obtain ⟨T21, X21, e21, k21⟩ := k20.initO (Wd := 0) X0 hx hZ hown (by rw [hml]; rfl) (hv 27 rfl) (hv 28 rfl) (hv 29 rfl) e0 (hb hby d_rms4_1) (Nat.le_of_eq rfl) (by decide) (by decide)
  have k21 : Go p e below m W T21 4 #[.val (.ref a1), .val (.ref b1), .val (.int (0 : Int32)), .val (.int (1 : Int32)), .val .null, .unset] [] := k21
  have k22 : Go p e below m W T21 27 #[.val (.ref a1), .val (.ref b1), .val (.int (0 : Int32)), .val (.int (1 : Int32)), .val .null, .unset] [] := (k21.iloadN X21 hx (hb hby d_rms4_4) rfl).ifYes X21 hx (hb hby d_rms4_5) (XT.i0_ne_t (by decide)) (by decide) (by decide)
  obtain ⟨T23, X23, e23, k23⟩ := k22.getS X21 hx hZ hown (host := "") (Or.inl (hv 52 rfl)) Via.refl e21 (SCZ.ext O0.2) (hb hby d_rms4_27)
  have k23 : Go p e below m W T23 30 #[.val (.ref a1), .val (.ref b1), .val (.int (0 : Int32)), .val (.int (1 : Int32)), .val .null, .unset] [(.int cz)] := k23
  have k24 : Go p e below m W T23 36 #[.val (.ref a1), .val (.ref b1), .val (.int (0 : Int32)), .val (.int (1 : Int32)), .val .null, .unset] [(.int (1 : Int32)), (.int (0 : Int32)), (.ref b1)] := (((k23.ifNo X23 hx (hb hby d_rms4_30) (XT.i0_eq_f hcz)).aloadN X23 hx (hb hby d_rms4_33) rfl rfl).iloadN X23 hx (hb hby d_rms4_34) rfl).iloadN X23 hx (hb hby d_rms4_35) rfl
  obtain ⟨T25, v25, L25, X25, Q25, k25⟩ := k24.stat (y := (⟨"java/lang/StringUTF16", "compress", "([CII)[B"⟩ : MethodName)) (Wd := 0) (cells' := 2) (slots' := 3) (argsL := [(.ref b1), (.int (0 : Int32)), (.int (1 : Int32))]) (rest := []) X23 hx hZ hown (by rw [hml]; rfl) (hv 68 rfl) (hv 69 rfl) (hv 71 rfl) (hv 70 rfl) (hb hby d_rms4_36) (by decide) (rmcw1 l Z a0 hw [] b1 k1 x0 h0 n0 Z0 O0 SAD SHI SLO V1 R0) e23 rfl rfl pd_rmcw1_1 rfl (Nat.le_of_eq rfl) (by decide) (by decide) rfl rfl (by decide) (by decide)
  obtain ⟨ob_25, ok_25, zz_25, vs_25, rfl, Nq25, Kq25, p25_0, q25_0, q25_1, q25_2⟩ := Q25
  have N25 := Fr.app N0 Nq25
  obtain ⟨h25, e25⟩ : ∃ h, T25.heap = h := ⟨_, rfl⟩
  rw [e25] at Kq25 q25_0
  have Z25 : n0 ≤ h25.size := Nat.le_trans Z0 Kq25.1
  have K25 : Keep h0 h25 [a1] := K0.trans Kq25 (fun x q => absurd q List.not_mem_nil)
  have H26 : h0.size ≤ ob_25 := Nat.le_trans K0.1 q25_2
  have k25 : Go p e below m W T25 39 #[.val (.ref a1), .val (.ref b1), .val (.int (0 : Int32)), .val (.int (1 : Int32)), .val .null, .unset] [(.ref ob_25)] := k25
  rcases p25_0 with ⟨hs27, q28, q29⟩ | ⟨q30, q31⟩
  ·
    subst zz_25
    subst vs_25
    have k32 : Go p e below m W T25 41 #[.val (.ref a1), .val (.ref b1), .val (.int (0 : Int32)), .val (.int (1 : Int32)), .val .null, .val (.ref ob_25)] [] := k25.astore X25 hx (hb hby d_rms4_39) rfl rfl
    have k33 : Go p e below m W T25 45 #[.val (.ref a1), .val (.ref b1), .val (.int (0 : Int32)), .val (.int (1 : Int32)), .val .null, .val (.ref ob_25)] [(.int (1 : Int32)), (.ref ob_25), (.ref a1)] := ((k32.aloadN X25 hx (hb hby d_rms4_41) rfl rfl).aload X25 hx (hb hby d_rms4_42) rfl rfl).iloadN X25 hx (hb hby d_rms4_44) rfl
    obtain ⟨T34, v34, L34, X34, Q34, k34⟩ := k33.stat (y := (⟨"java/lang/StringUTF16", "coderFromArrayLen", "([BI)B"⟩ : MethodName)) (Wd := 1) (cells' := 2) (slots' := 3) (argsL := [(.ref ob_25), (.int (1 : Int32))]) (rest := [(.ref a1)]) X25 hx hZ hown (by rw [hml]; rfl) (hv 75 rfl) (hv 76 rfl) (hv 77 rfl) (hv 70 rfl) (hb hby d_rms4_45) (by decide) (rmcf1_1 l Z a0 hw [] ob_25 ok_25 ([(.int (x0).toInt8.toInt32)]) h25 n0 Z25 q25_0) e25 rfl rfl pd_rmi4_1_1 rfl (Nat.le_of_eq rfl) (by decide) (by decide) rfl rfl (by decide) (by decide)
    obtain ⟨rfl, Nq34, e34q⟩ := Q34
    have N34 := Fr.app N25 Nq34
    have e34 : T34.heap = h25 := e34q
    have k34 : Go p e below m W T34 48 #[.val (.ref a1), .val (.ref b1), .val (.int (0 : Int32)), .val (.int (1 : Int32)), .val .null, .val (.ref ob_25)] [(.int (0 : Int32)), (.ref a1)] := k34
    have g_1 := F1.keep Kq25 (List.not_mem_nil)
    have g_2 := E1.keep Kq25
    obtain ⟨T35, h35, l35, X35, e35, W35, N35, k35⟩ := k34.putF X34 hx hZ hown (host := "") (Or.inl (hv 37 rfl)) Via.refl e34 g_1 g_2 (Or.inr ⟨(hv 33 rfl), rfl, hnm⟩) (hv 18 rfl) (ty := .byte) (by decide) rfl rfl N34 G1 (hb hby d_rms4_48)
    have k35 : Go p e below m W T35 51 #[.val (.ref a1), .val (.ref b1), .val (.int (0 : Int32)), .val (.int (1 : Int32)), .val .null, .val (.ref ob_25)] [] := k35
    have Z35 : n0 ≤ h35.size := (Wr.size W35).symm ▸ Z25
    have K35 : Keep h0 h35 [a1] := K25.wr W35 (Or.inl (List.mem_of_getElem? (i := 0) rfl))
    have k36 : Go p e below m W T35 54 #[.val (.ref a1), .val (.ref b1), .val (.int (0 : Int32)), .val (.int (1 : Int32)), .val .null, .val (.ref ob_25)] [(.ref ob_25), (.ref a1)] := (k35.aloadN X35 hx (hb hby d_rms4_51) rfl rfl).aload X35 hx (hb hby d_rms4_52) rfl rfl
    have g_3 := (F0.keep Kq25 (List.not_mem_nil)).other W35 (Or.inr (slot_ne (Or.inr (hv 32 rfl)) (Or.inr (hv 33 rfl)) (by decide) (by decide : parseFieldDescriptor "[B" = some (.array .byte)) (by decide : parseFieldDescriptor "B" = some .byte)))
    have g_4 := g_2.wr W35
    obtain ⟨T37, h37, l37, X37, e37, W37, N37, k37⟩ := k36.putF X35 hx hZ hown (host := "") (Or.inl (hv 36 rfl)) Via.refl e35 g_3 g_4 (Or.inr ⟨(hv 32 rfl), rfl, hnm⟩) (hv 18 rfl) (ty := (.array .byte)) (by decide) rfl rfl N35 G1 (hb hby d_rms4_54)
    have k37 : Go p e below m W T37 57 #[.val (.ref a1), .val (.ref b1), .val (.int (0 : Int32)), .val (.int (1 : Int32)), .val .null, .val (.ref ob_25)] [] := k37
    have Z37 : n0 ≤ h37.size := (Wr.size W37).symm ▸ Z35
    have K37 : Keep h0 h37 [a1] := K35.wr W37 (Or.inl (List.mem_of_getElem? (i := 0) rfl))
    have g_5 := g_4.wr W37
    have g_6 := g_3.same W37
    have g_7 := (g_1.same W35).other W37 (Or.inr (slot_ne (Or.inr (hv 33 rfl)) (Or.inr (hv 32 rfl)) (by decide) (by decide : parseFieldDescriptor "B" = some .byte) (by decide : parseFieldDescriptor "[B" = some (.array .byte))))
    have g_8 := (show a1 ≠ ob_25 from Nat.ne_of_lt (Nat.lt_of_lt_of_le E1.lt q25_2))
    have g_9 := (q25_0.other W35 (Ne.symm g_8)).other W37 (Ne.symm g_8)
    exact k37.return_ X37 hx Bd.returns (hb hby d_rms4_57) (BodyLoose.notSynchronized Bd) (by rw [e37]; exact ⟨ob_25, ok_25, (1 : Int32), (0 : Int32), [(.int (x0).toInt8.toInt32)], rfl, N37, K37, (Or.inl ⟨rfl, rfl, rfl, (own_N1 hs27 own_N0)⟩), g_5, g_6, g_7, g_9⟩) (by decide) (by decide)
  ·
    subst zz_25
    subst vs_25
    have k38 : Go p e below m W T25 41 #[.val (.ref a1), .val (.ref b1), .val (.int (0 : Int32)), .val (.int (1 : Int32)), .val .null, .val (.ref ob_25)] [] := k25.astore X25 hx (hb hby d_rms4_39) rfl rfl
    have k39 : Go p e below m W T25 45 #[.val (.ref a1), .val (.ref b1), .val (.int (0 : Int32)), .val (.int (1 : Int32)), .val .null, .val (.ref ob_25)] [(.int (1 : Int32)), (.ref ob_25), (.ref a1)] := ((k38.aloadN X25 hx (hb hby d_rms4_41) rfl rfl).aload X25 hx (hb hby d_rms4_42) rfl rfl).iloadN X25 hx (hb hby d_rms4_44) rfl
    obtain ⟨T40, v40, L40, X40, Q40, k40⟩ := k39.stat (y := (⟨"java/lang/StringUTF16", "coderFromArrayLen", "([BI)B"⟩ : MethodName)) (Wd := 1) (cells' := 2) (slots' := 3) (argsL := [(.ref ob_25), (.int (1 : Int32))]) (rest := [(.ref a1)]) X25 hx hZ hown (by rw [hml]; rfl) (hv 75 rfl) (hv 76 rfl) (hv 77 rfl) (hv 70 rfl) (hb hby d_rms4_45) (by decide) (rmcf1_2 l Z a0 hw [] ob_25 ok_25 ([(.int (own_b0 x0)), (.int (own_b1 x0))]) h25 n0 Z25 q25_0) e25 rfl rfl pd_rmi4_1_1 rfl (Nat.le_of_eq rfl) (by decide) (by decide) rfl rfl (by decide) (by decide)
    obtain ⟨rfl, Nq40, e40q⟩ := Q40
    have N40 := Fr.app N25 Nq40
    have e40 : T40.heap = h25 := e40q
    have k40 : Go p e below m W T40 48 #[.val (.ref a1), .val (.ref b1), .val (.int (0 : Int32)), .val (.int (1 : Int32)), .val .null, .val (.ref ob_25)] [(.int (1 : Int32)), (.ref a1)] := k40
    have g_10 := F1.keep Kq25 (List.not_mem_nil)
    have g_11 := E1.keep Kq25
    obtain ⟨T41, h41, l41, X41, e41, W41, N41, k41⟩ := k40.putF X40 hx hZ hown (host := "") (Or.inl (hv 37 rfl)) Via.refl e40 g_10 g_11 (Or.inr ⟨(hv 33 rfl), rfl, hnm⟩) (hv 18 rfl) (ty := .byte) (by decide) rfl rfl N40 G1 (hb hby d_rms4_48)
    have k41 : Go p e below m W T41 51 #[.val (.ref a1), .val (.ref b1), .val (.int (0 : Int32)), .val (.int (1 : Int32)), .val .null, .val (.ref ob_25)] [] := k41
    have Z41 : n0 ≤ h41.size := (Wr.size W41).symm ▸ Z25
    have K41 : Keep h0 h41 [a1] := K25.wr W41 (Or.inl (List.mem_of_getElem? (i := 0) rfl))
    have k42 : Go p e below m W T41 54 #[.val (.ref a1), .val (.ref b1), .val (.int (0 : Int32)), .val (.int (1 : Int32)), .val .null, .val (.ref ob_25)] [(.ref ob_25), (.ref a1)] := (k41.aloadN X41 hx (hb hby d_rms4_51) rfl rfl).aload X41 hx (hb hby d_rms4_52) rfl rfl
    have g_12 := (F0.keep Kq25 (List.not_mem_nil)).other W41 (Or.inr (slot_ne (Or.inr (hv 32 rfl)) (Or.inr (hv 33 rfl)) (by decide) (by decide : parseFieldDescriptor "[B" = some (.array .byte)) (by decide : parseFieldDescriptor "B" = some .byte)))
    have g_13 := g_11.wr W41
    obtain ⟨T43, h43, l43, X43, e43, W43, N43, k43⟩ := k42.putF X41 hx hZ hown (host := "") (Or.inl (hv 36 rfl)) Via.refl e41 g_12 g_13 (Or.inr ⟨(hv 32 rfl), rfl, hnm⟩) (hv 18 rfl) (ty := (.array .byte)) (by decide) rfl rfl N41 G1 (hb hby d_rms4_54)
    have k43 : Go p e below m W T43 57 #[.val (.ref a1), .val (.ref b1), .val (.int (0 : Int32)), .val (.int (1 : Int32)), .val .null, .val (.ref ob_25)] [] := k43
    have Z43 : n0 ≤ h43.size := (Wr.size W43).symm ▸ Z41
    have K43 : Keep h0 h43 [a1] := K41.wr W43 (Or.inl (List.mem_of_getElem? (i := 0) rfl))
    have g_14 := g_13.wr W43
    have g_15 := g_12.same W43
    have g_16 := (g_10.same W41).other W43 (Or.inr (slot_ne (Or.inr (hv 33 rfl)) (Or.inr (hv 32 rfl)) (by decide) (by decide : parseFieldDescriptor "B" = some .byte) (by decide : parseFieldDescriptor "[B" = some (.array .byte))))
    have g_17 := (show a1 ≠ ob_25 from Nat.ne_of_lt (Nat.lt_of_lt_of_le E1.lt q25_2))
    have g_18 := (q25_0.other W41 (Ne.symm g_17)).other W43 (Ne.symm g_17)
    exact k43.return_ X43 hx Bd.returns (hb hby d_rms4_57) (BodyLoose.notSynchronized Bd) (by rw [e43]; exact ⟨ob_25, ok_25, (2 : Int32), (1 : Int32), [(.int (own_b0 x0)), (.int (own_b1 x0))], rfl, N43, K43, (Or.inr ⟨rfl, rfl, rfl⟩), g_14, g_15, g_16, g_18⟩) (by decide) (by decide)

theorem ef_rmi1_1 (m : MethodId) (a1 : Addr) (b1 : Addr) : entryFrame m #[(.ref a1), (.ref b1)] 2 = mkF m 0 #[.val (.ref a1), .val (.ref b1)] [] := by first | (simp [entryFrame, mkF, argsToLocals, Value.category]; done) | rfl
def Q_rmi1_1 (Z : State) (a1 : Addr) (b1 : Addr) (k1 : ClassId) (x0 : Int32) (u0 : Value) (u1 : Value) (cz : Int32) (h0 : Heap) (n0 : Nat) (v : Option Value) (h : Heap) (L : List Loc) : Prop := ∃ (ot : Addr) (ok : ClassId) (zz : Int32) (cd : Int32) (vs : List Value), v = none ∧ Fr n0 L ∧ Keep h0 h [a1] ∧ (own_Enc [x0] zz cd vs) ∧ Exa Z h a1 "java/lang/String" ∧ Fld Z h a1 "java/lang/String" "value" "[B" (.ref ot) ∧ Fld Z h a1 "java/lang/String" "coder" "B" (.int cd) ∧ Arv Z h ot ok .byte zz vs (.int (0 : Int32))
set_option maxRecDepth 65536 in
set_option maxHeartbeats 40000000 in
theorem rmi1_1 (l : Launch) (Z : State) (a0 : Array Value) (hw : ∀ d ∈ tables_1, d.before a0 Z = true) (ws : List Jvm.Cond) (a1 : Addr) (b1 : Addr) (k1 : ClassId) (x0 : Int32) (u0 : Value) (u1 : Value) (cz : Int32) (h0 : Heap) (n0 : Nat) (Z0 : n0 ≤ h0.size) (O0 : Old Z n0 h0) (SCZ : Sta Z Z.heap "java/lang/String" "COMPACT_STRINGS" "Z" (.int cz)) (hcz : ¬ (cz = (0 : Int32))) (SAD : Sta Z Z.heap "java/lang/StringUTF16" "$assertionsDisabled" "Z" (.int (1 : Int32))) (SHI : Sta Z Z.heap "java/lang/StringUTF16" "HI_BYTE_SHIFT" "I" (.int (0 : Int32))) (SLO : Sta Z Z.heap "java/lang/StringUTF16" "LO_BYTE_SHIFT" "I" (.int (8 : Int32))) (E1 : Exa Z h0 a1 "java/lang/String") (G1 : n0 ≤ a1) (F0 : Fld Z h0 a1 "java/lang/String" "value" "[B" u0) (F1 : Fld Z h0 a1 "java/lang/String" "coder" "B" u1) (V1 : Arv Z h0 b1 k1 .char (1 : Int32) [(.int x0)] (.int (0 : Int32))) (R0 : own_rk x0) :
    MetFree l (⟨"java/lang/String", "<init>", "([C)V"⟩ : MethodName) (head1 (Jvm.Cond.code (⟨"java/lang/String", "<init>", "([C)V"⟩ : MethodName) jdk_42_method_3_code 2 none :: ws) ({ frames := 5, cells := 2, slots := 3, locals := 74 } : Room)) (fun a U => a = #[(.ref a1), (.ref b1)] ∧ Z.Warmed39 U.vm ∧ U.heap = h0) (fun _ _ _ _ _ => True) (fun _ U o U' => ∃ v L, o = .returned v ∧ Q_rmi1_1 Z a1 b1 k1 x0 u0 u1 cz h0 n0 v U'.heap L ∧ FrameEnd U o U' L ({ frames := 5, cells := 2, slots := 3, locals := 74 } : Room).cells ({ frames := 5, cells := 2, slots := 3, locals := 74 } : Room).slots) := by
  refine MetFree.of_bodySF (plainFor_of_name pn_rmci) hisR ?_
  intro p e s m args_ below meth c s₁ Bd hml0 hP hK
  obtain ⟨hargs, hZ, hh⟩ := hP
  have hx := Bd.exec
  have hby := Bd.bytes
  have hml : c.maxLocals = 2 := hml0
  have hown : s.vm.findClass "java/lang/String" = some m.cls := findClass_of_methodNamed Bd.named
  have hnm := (name_of_methodNamed Bd.named Bd.method).1
  have X0 : Stand p l e ({ frames := 5, cells := 2, slots := 3, locals := 74 } : Room) s m args_ below meth c s₁ [] 0 0 := Stand.of_body Bd
  have e0 : s₁.heap = h0 := by rw [← hh, Bd.state]; rfl
  have N0 := Fr.nil n0
  have hv : ∀ (i : Nat) {d : Jvm.Cond}, tables_1[i]? = some d → d.before a0 Z = true := fun i d q => hw d (List.mem_of_getElem? q)
  have K0 : Keep h0 h0 [a1] := Keep.refl _ _
  have k0 : Go p e below m (s₁.setTop (entryFrame m args_ 2)) s₁ 0 #[.val (.ref a1), .val (.ref b1)] [] := by rw [hargs]; exact fun t kt => castTop (ef_rmi1_1 m a1 b1) kt
  obtain ⟨W, hWW⟩ : ∃ W, W = s₁.setTop (entryFrame m args_ 2) := ⟨_, rfl⟩
  rw [← hWW] at k0 ⊢
  show Done p e below s W (Q_rmi1_1 Z a1 b1 k1 x0 u0 u1 cz h0 n0) ({ frames := 5, cells := 2, slots := 3, locals := 74 } : Room).cells ({ frames := 5, cells := 2, slots := 3, locals := 74 } : Room).slots
  have k20 : Go p e below m W s₁ 4 #[.val (.ref a1), .val (.ref b1)] [(.ref b1), (.int (0 : Int32)), (.ref b1), (.ref a1)] := (((k0.aloadN X0 hx (hb hby d_rms1_0) rfl rfl).aloadN X0 hx (hb hby d_rms1_1) rfl rfl).iconst X0 hx (hb hby d_rms1_2) (v := (0 : Int32)) rfl).aloadN X0 hx (hb hby d_rms1_3) rfl rfl
  have k21 : Go p e below m W s₁ 6 #[.val (.ref a1), .val (.ref b1)] [.null, (.int (1 : Int32)), (.int (0 : Int32)), (.ref b1), (.ref a1)] := (k20.arraylength X0 hx hZ e0 V1 (hb hby d_rms1_4)).aconstNull X0 hx (hb hby d_rms1_5)
  obtain ⟨T22, v22, L22, X22, Q22, k22⟩ := k21.spec (y := (⟨"java/lang/String", "<init>", "([CIILjava/lang/Void;)V"⟩ : MethodName)) (b := a1) (Wd := 0) (cells' := 2) (slots' := 3) (argsL := [(.ref b1), (.int (0 : Int32)), (.int (1 : Int32)), .null]) (rest := []) X0 hx hZ hown (by rw [hml]; rfl) rfl (hv 23 rfl) (hv 24 rfl) (hv 26 rfl) (hv 19 rfl) (hb hby d_rms1_6) (by decide) (rmi4_1 l Z a0 hw [] a1 b1 k1 x0 u0 u1 cz h0 n0 Z0 O0 SCZ hcz SAD SHI SLO E1 G1 F0 F1 V1 R0) e0 rfl rfl pd_rms1_0 rfl (Nat.le_of_eq rfl) (by decide) (by decide) rfl rfl (by decide) (by decide)
  obtain ⟨ot_22, ok_22, zz_22, cd_22, vs_22, rfl, Nq22, Kq22, p22_0, q22_0, q22_1, q22_2, q22_3⟩ := Q22
  have N22 := Fr.app N0 Nq22
  obtain ⟨h22, e22⟩ : ∃ h, T22.heap = h := ⟨_, rfl⟩
  rw [e22] at Kq22 q22_0 q22_1 q22_2 q22_3
  have Z22 : n0 ≤ h22.size := Nat.le_trans Z0 Kq22.1
  have K22 : Keep h0 h22 [a1] := K0.trans Kq22 (by intro x q; simp only [List.mem_cons, List.not_mem_nil, or_false] at q; rcases q with rfl; exact (Or.inl (List.mem_of_getElem? (i := 0) rfl)))
  have k22 : Go p e below m W T22 9 #[.val (.ref a1), .val (.ref b1)] [] := k22
  exact k22.return_ X22 hx Bd.returns (hb hby d_rms1_9) (BodyLoose.notSynchronized Bd) (by rw [e22]; exact ⟨ot_22, ok_22, zz_22, cd_22, vs_22, rfl, N22, K22, p22_0, q22_0, q22_1, q22_2, q22_3⟩) (by decide) (by decide)

theorem d_rmmk0_15 : decode method_5_code 15 = .ok (.iload_n 1, 1) := by decide +kernel
theorem d_rmmk0_16 : decode method_5_code 16 = .ok (.iconst 1, 1) := by decide +kernel
theorem d_rmmk0_17 : decode method_5_code 17 = .ok (.if_icmp .ne 20, 3) := by decide +kernel
theorem d_rmmk0_20 : decode method_5_code 20 = .ok (.new 14, 3) := by decide +kernel
theorem d_rmmk0_23 : decode method_5_code 23 = .ok (.dup, 1) := by decide +kernel
theorem d_rmmk0_24 : decode method_5_code 24 = .ok (.iconst 1, 1) := by decide +kernel
theorem d_rmmk0_25 : decode method_5_code 25 = .ok (.newarray .char, 2) := by decide +kernel
theorem d_rmmk0_27 : decode method_5_code 27 = .ok (.dup, 1) := by decide +kernel
theorem d_rmmk0_28 : decode method_5_code 28 = .ok (.iconst 0, 1) := by decide +kernel
theorem d_rmmk0_29 : decode method_5_code 29 = .ok (.aload_n 0, 1) := by decide +kernel
theorem d_rmmk0_30 : decode method_5_code 30 = .ok (.iconst 0, 1) := by decide +kernel
theorem d_rmmk0_31 : decode method_5_code 31 = .ok (.caload, 1) := by decide +kernel
theorem d_rmmk0_32 : decode method_5_code 32 = .ok (.castore, 1) := by decide +kernel
theorem d_rmmk0_33 : decode method_5_code 33 = .ok (.invokespecial 16, 3) := by decide +kernel
theorem d_rmmk0_36 : decode method_5_code 36 = .ok (.areturn, 1) := by decide +kernel
theorem ef_rmmk1 (m : MethodId) (b1 : Addr) : entryFrame m #[(.ref b1), (.int (1 : Int32))] 2 = mkF m 0 #[.val (.ref b1), .val (.int (1 : Int32))] [] := by first | (simp [entryFrame, mkF, argsToLocals, Value.category]; done) | rfl
def Q_rmmk1 (Z : State) (b1 : Addr) (k1 : ClassId) (x0 : Int32) (x1 : Int32) (x2 : Int32) (x3 : Int32) (cz : Int32) (h0 : Heap) (n0 : Nat) (v : Option Value) (h : Heap) (L : List Loc) : Prop := ∃ (ro : Addr), v = some (.ref ro) ∧ Fr n0 L ∧ Keep h0 h [] ∧ Exa Z h ro "java/lang/String" ∧ own_Str Z h ro [x0] ∧ n0 ≤ ro ∧ h0.size ≤ ro
set_option maxRecDepth 65536 in
set_option maxHeartbeats 40000000 in
theorem rmmk1 (l : Launch) (Z : State) (a0 : Array Value) (hw : ∀ d ∈ tables_1, d.before a0 Z = true) (ws : List Jvm.Cond) (b1 : Addr) (k1 : ClassId) (x0 : Int32) (x1 : Int32) (x2 : Int32) (x3 : Int32) (cz : Int32) (h0 : Heap) (n0 : Nat) (Z0 : n0 ≤ h0.size) (O0 : Old Z n0 h0) (SCZ : Sta Z Z.heap "java/lang/String" "COMPACT_STRINGS" "Z" (.int cz)) (hcz : ¬ (cz = (0 : Int32))) (SAD : Sta Z Z.heap "java/lang/StringUTF16" "$assertionsDisabled" "Z" (.int (1 : Int32))) (SHI : Sta Z Z.heap "java/lang/StringUTF16" "HI_BYTE_SHIFT" "I" (.int (0 : Int32))) (SLO : Sta Z Z.heap "java/lang/StringUTF16" "LO_BYTE_SHIFT" "I" (.int (8 : Int32))) (V1 : Arv Z h0 b1 k1 .char (4 : Int32) [(.int x0), (.int x1), (.int x2), (.int x3)] (.int (0 : Int32))) (R0 : own_rk x0) :
    MetFree l (⟨"com/example/promovent/promovent/library/CodePointsComparePinLaw", "make", "([CI)Ljava/lang/String;"⟩ : MethodName) (head1 (Jvm.Cond.code (⟨"com/example/promovent/promovent/library/CodePointsComparePinLaw", "make", "([CI)Ljava/lang/String;"⟩ : MethodName) method_5_code 2 (some (.object "java/lang/String")) :: ws) ({ frames := 6, cells := 4, slots := 8, locals := 88 } : Room)) (fun a U => a = #[(.ref b1), (.int (1 : Int32))] ∧ Z.Warmed39 U.vm ∧ U.heap = h0) (fun _ _ _ _ _ => True) (fun _ U o U' => ∃ v L, o = .returned v ∧ Q_rmmk1 Z b1 k1 x0 x1 x2 x3 cz h0 n0 v U'.heap L ∧ FrameEnd U o U' L ({ frames := 6, cells := 4, slots := 8, locals := 88 } : Room).cells ({ frames := 6, cells := 4, slots := 8, locals := 88 } : Room).slots) := by
  refine MetFree.of_bodySF (plainFor_of_name pn_rmraw) hisR ?_
  intro p e s m args_ below meth c s₁ Bd hml0 hP hK
  obtain ⟨hargs, hZ, hh⟩ := hP
  have hx := Bd.exec
  have hby := Bd.bytes
  have hml : c.maxLocals = 2 := hml0
  have hown : s.vm.findClass "com/example/promovent/promovent/library/CodePointsComparePinLaw" = some m.cls := findClass_of_methodNamed Bd.named
  have hnm := (name_of_methodNamed Bd.named Bd.method).1
  have X0 : Stand p l e ({ frames := 6, cells := 4, slots := 8, locals := 88 } : Room) s m args_ below meth c s₁ [] 0 0 := Stand.of_body Bd
  have e0 : s₁.heap = h0 := by rw [← hh, Bd.state]; rfl
  have N0 := Fr.nil n0
  have hv : ∀ (i : Nat) {d : Jvm.Cond}, tables_1[i]? = some d → d.before a0 Z = true := fun i d q => hw d (List.mem_of_getElem? q)
  have K0 : Keep h0 h0 [] := Keep.refl _ _
  have k0 : Go p e below m (s₁.setTop (entryFrame m args_ 2)) s₁ 0 #[.val (.ref b1), .val (.int (1 : Int32))] [] := by rw [hargs]; exact fun t kt => castTop (ef_rmmk1 m b1) kt
  obtain ⟨W, hWW⟩ : ∃ W, W = s₁.setTop (entryFrame m args_ 2) := ⟨_, rfl⟩
  rw [← hWW] at k0 ⊢
  show Done p e below s W (Q_rmmk1 Z b1 k1 x0 x1 x2 x3 cz h0 n0) ({ frames := 6, cells := 4, slots := 8, locals := 88 } : Room).cells ({ frames := 6, cells := 4, slots := 8, locals := 88 } : Room).slots
  have k20 : Go p e below m W s₁ 20 #[.val (.ref b1), .val (.int (1 : Int32))] [] := ((((k0.iloadN X0 hx (hb hby d_rmmk0_0) rfl).ifYes X0 hx (hb hby d_rmmk0_1) (XT.i0_ne_t (by decide)) (by decide) (by decide)).iloadN X0 hx (hb hby d_rmmk0_15) rfl).iconst X0 hx (hb hby d_rmmk0_16) (v := (1 : Int32)) rfl).icmpNo X0 hx (hb hby d_rmmk0_17) (XT.ii_ne_f (by decide))
  obtain ⟨T21, h21, b21, X21, e21, g21, E21, A21, D21, k21⟩ := k20.newO (cells' := 1) (slots' := 4) X0 hx hZ hown (hv 17 rfl) (hv 18 rfl) (hv 19 rfl) e0 (hb hby d_rmmk0_20) rfl rfl (by decide) (by decide)
  have k21 : Go p e below m W T21 23 #[.val (.ref b1), .val (.int (1 : Int32))] [(.ref b21)] := k21
  have Z21 : n0 ≤ h21.size := Nat.le_trans Z0 E21.1
  have G21 : n0 ≤ b21 := g21 ▸ Z0
  have H21 : h0.size ≤ b21 := g21 ▸ K0.1
  have K21 : Keep h0 h21 [] := K0.ext E21
  have f22 : Fld Z h21 b21 "java/lang/String" "value" "[B" .null := D21 (Or.inr (hv 32 rfl)) (ty := (.array .byte)) (by decide)
  have f23 : Fld Z h21 b21 "java/lang/String" "coder" "B" (.int (0 : Int32)) := D21 (Or.inr (hv 33 rfl)) (ty := .byte) (by decide)
  have k24 : Go p e below m W T21 25 #[.val (.ref b1), .val (.int (1 : Int32))] [(.int (1 : Int32)), (.ref b21), (.ref b21)] := (k21.dup X21 hx (hb hby d_rmmk0_23) rfl).iconst X21 hx (hb hby d_rmmk0_24) (v := (1 : Int32)) rfl
  obtain ⟨T25, h25, b25, c25, X25, e25, g25, E25, A25, k25⟩ := k24.newP (cap := 1) (cells' := 2) (slots' := 5) X21 hx hZ (hv 13 rfl) e21 (hb hby d_rmmk0_25) (by decide) (by decide) (by decide) rfl rfl (by decide) (by decide)
  have k25 : Go p e below m W T25 27 #[.val (.ref b1), .val (.int (1 : Int32))] [(.ref b25), (.ref b21), (.ref b21)] := k25
  have Z25 : n0 ≤ h25.size := Nat.le_trans Z21 E25.1
  have G25 : n0 ≤ b25 := g25 ▸ Z21
  have H25 : h0.size ≤ b25 := g25 ▸ K21.1
  have K25 : Keep h0 h25 [] := K21.ext E25
  have V25 : Arv Z h25 b25 c25 .char (1 : Int32) [(.int (0 : Int32))] (.int (0 : Int32)) := A25 1
  have k26 : Go p e below m W T25 31 #[.val (.ref b1), .val (.int (1 : Int32))] [(.int (0 : Int32)), (.ref b1), (.int (0 : Int32)), (.ref b25), (.ref b25), (.ref b21), (.ref b21)] := (((k25.dup X25 hx (hb hby d_rmmk0_27) rfl).iconst X25 hx (hb hby d_rmmk0_28) (v := (0 : Int32)) rfl).aloadN X25 hx (hb hby d_rmmk0_29) rfl rfl).iconst X25 hx (hb hby d_rmmk0_30) (v := (0 : Int32)) rfl
  have g_1 := (V1.ext E21).ext E25
  have k27 : Go p e below m W T25 32 #[.val (.ref b1), .val (.int (1 : Int32))] [(.int x0), (.int (0 : Int32)), (.ref b25), (.ref b25), (.ref b21), (.ref b21)] := k26.caload (i := 0) (n := 4) X25 hx hZ e25 g_1 rfl rfl (by decide) (by decide) rfl (hb hby d_rmmk0_31)
  obtain ⟨T28, h28, l28, X28, e28, W28, V28, N28, k28⟩ := k27.castore (i := 0) X25 hx hZ e25 V25 rfl rfl (by decide) (Nat.le_of_ble_eq_true rfl) N0 G25 (hb hby d_rmmk0_32)
  have k28 : Go p e below m W T28 33 #[.val (.ref b1), .val (.int (1 : Int32))] [(.ref b25), (.ref b21), (.ref b21)] := k28
  have Z28 : n0 ≤ h28.size := (Wr.size W28).symm ▸ Z25
  rw [own_narr R0] at V28
  have V28 : Arv Z h28 b25 c25 .char (1 : Int32) [(.int x0)] (.int (0 : Int32)) := V28
  have K28 : Keep h0 h28 [] := K25.wr W28 (Or.inr H25)
  have g_2 := ((O0.ext E21).ext E25).wr W28 G25
  have g_3 := (A21.ext E25).wr W28
  have g_4 := (show b21 ≠ b25 from Nat.ne_of_lt (g25 ▸ A21.lt))
  have g_5 := (f22.ext E25).other W28 (Or.inl g_4)
  have g_6 := (f23.ext E25).other W28 (Or.inl g_4)
  obtain ⟨T29, v29, L29, X29, Q29, k29⟩ := k28.spec (y := (⟨"java/lang/String", "<init>", "([C)V"⟩ : MethodName)) (b := b21) (Wd := 1) (cells' := 4) (slots' := 8) (argsL := [(.ref b25)]) (rest := [(.ref b21)]) X28 hx hZ hown (by rw [hml]; rfl) rfl (hv 20 rfl) (hv 21 rfl) (hv 22 rfl) (hv 19 rfl) (hb hby d_rmmk0_33) (by decide) (rmi1_1 l Z a0 hw [] b21 b25 c25 x0 .null (.int (0 : Int32)) cz h28 n0 Z28 g_2 SCZ hcz SAD SHI SLO g_3 G21 g_5 g_6 V28 R0) e28 rfl rfl pd_rmmk0_0 rfl (Nat.le_of_eq rfl) (by decide) (by decide) rfl rfl (by decide) (by decide)
  obtain ⟨ot_29, ok_29, zz_29, cd_29, vs_29, rfl, Nq29, Kq29, p29_0, q29_0, q29_1, q29_2, q29_3⟩ := Q29
  have N29 := Fr.app N28 Nq29
  obtain ⟨h29, e29⟩ : ∃ h, T29.heap = h := ⟨_, rfl⟩
  rw [e29] at Kq29 q29_0 q29_1 q29_2 q29_3
  have Z29 : n0 ≤ h29.size := Nat.le_trans Z28 Kq29.1
  have K29 : Keep h0 h29 [] := K28.trans Kq29 (by intro x q; simp only [List.mem_cons, List.not_mem_nil, or_false] at q; rcases q with rfl; exact (Or.inr H21))
  have k29 : Go p e below m W T29 36 #[.val (.ref b1), .val (.int (1 : Int32))] [(.ref b21)] := k29
  have st30 : own_Str Z h29 b21 [x0] := ⟨(Nat.le_of_ble_eq_true rfl), (own_E1 R0 own_E0), _, _, _, _, _, q29_1, q29_2, q29_3, p29_0⟩
  exact k29.areturn X29 hx Bd.returns rfl rfl (hb hby d_rmmk0_36) (BodyLoose.notSynchronized Bd) (by rw [e29]; exact ⟨b21, rfl, N29, K29, q29_0, st30, G21, H21⟩) (by decide) (by decide)

theorem ef_rmbl2 (m : MethodId)  : entryFrame m #[(.int (2 : Int32))] 1 = mkF m 0 #[.val (.int (2 : Int32))] [] := by first | (simp [entryFrame, mkF, argsToLocals, Value.category]; done) | rfl
def Q_rmbl2 (Z : State)  (h0 : Heap) (n0 : Nat) (v : Option Value) (h : Heap) (L : List Loc) : Prop := v = some (.int (4 : Int32)) ∧ Fr n0 L ∧ h = h0
set_option maxRecDepth 65536 in
set_option maxHeartbeats 40000000 in
theorem rmbl2 (l : Launch) (Z : State) (a0 : Array Value) (hw : ∀ d ∈ tables_1, d.before a0 Z = true) (ws : List Jvm.Cond)  (h0 : Heap) (n0 : Nat) (Z0 : n0 ≤ h0.size)  :
    MetFree l (⟨"java/lang/StringUTF16", "newBytesLength", "(I)I"⟩ : MethodName) (head1 (Jvm.Cond.code (⟨"java/lang/StringUTF16", "newBytesLength", "(I)I"⟩ : MethodName) jdk_52_method_3_code 1 (some .int) :: ws) ({ frames := 0, cells := 0, slots := 0, locals := 0 } : Room)) (fun a U => a = #[(.int (2 : Int32))] ∧ Z.Warmed39 U.vm ∧ U.heap = h0) (fun _ _ _ _ _ => True) (fun _ U o U' => ∃ v L, o = .returned v ∧ Q_rmbl2 Z  h0 n0 v U'.heap L ∧ FrameEnd U o U' L ({ frames := 0, cells := 0, slots := 0, locals := 0 } : Room).cells ({ frames := 0, cells := 0, slots := 0, locals := 0 } : Room).slots) := by
  refine MetFree.of_bodySF (plainFor_of_name pn_rmgc) hisR ?_
  intro p e s m args_ below meth c s₁ Bd hml0 hP hK
  obtain ⟨hargs, hZ, hh⟩ := hP
  have hx := Bd.exec
  have hby := Bd.bytes
  have hml : c.maxLocals = 1 := hml0
  have hown : s.vm.findClass "java/lang/StringUTF16" = some m.cls := findClass_of_methodNamed Bd.named
  have hnm := (name_of_methodNamed Bd.named Bd.method).1
  have X0 : Stand p l e ({ frames := 0, cells := 0, slots := 0, locals := 0 } : Room) s m args_ below meth c s₁ [] 0 0 := Stand.of_body Bd
  have e0 : s₁.heap = h0 := by rw [← hh, Bd.state]; rfl
  have N0 := Fr.nil n0
  have hv : ∀ (i : Nat) {d : Jvm.Cond}, tables_1[i]? = some d → d.before a0 Z = true := fun i d q => hw d (List.mem_of_getElem? q)
  have k0 : Go p e below m (s₁.setTop (entryFrame m args_ 1)) s₁ 0 #[.val (.int (2 : Int32))] [] := by rw [hargs]; exact fun t kt => castTop (ef_rmbl2 m ) kt
  obtain ⟨W, hWW⟩ : ∃ W, W = s₁.setTop (entryFrame m args_ 1) := ⟨_, rfl⟩
  rw [← hWW] at k0 ⊢
  show Done p e below s W (Q_rmbl2 Z  h0 n0) ({ frames := 0, cells := 0, slots := 0, locals := 0 } : Room).cells ({ frames := 0, cells := 0, slots := 0, locals := 0 } : Room).slots
  have k20 : Go p e below m W s₁ 58 #[.val (.int (2 : Int32))] [(.int (4 : Int32))] := ((((((((k0.iloadN X0 hx (hb hby d_rmbl1_0) rfl).ifYes X0 hx (hb hby d_rmbl1_1) (XT.i0_ge_t (by decide)) (by decide) (by decide)).iloadN X0 hx (hb hby d_rmbl1_12) rfl).ldcI X0 hx hZ hown (hv 118 rfl) (hb hby d_rmbl1_13)).icmpYes X0 hx (hb hby d_rmbl1_15) (XT.ii_lt_t (by decide)) (by decide) (by decide)).iloadN X0 hx (hb hby d_rmbl1_55) rfl).iconst X0 hx (hb hby d_rmbl1_56) (v := (1 : Int32)) rfl).ishl X0 hx (hb hby d_rmbl1_57)).cast (y := (4 : Int32)) (by decide)
  exact k20.ireturnI X0 hx Bd.returns (hb hby d_rmbl1_58) (BodyLoose.notSynchronized Bd) (by rw [e0]; exact ⟨rfl, N0, rfl⟩) (by decide) (by decide)

theorem ef_rmbf2 (m : MethodId)  : entryFrame m #[(.int (2 : Int32))] 1 = mkF m 0 #[.val (.int (2 : Int32))] [] := by first | (simp [entryFrame, mkF, argsToLocals, Value.category]; done) | rfl
def Q_rmbf2 (Z : State)  (h0 : Heap) (n0 : Nat) (v : Option Value) (h : Heap) (L : List Loc) : Prop := ∃ (ob : Addr) (ok : ClassId), v = some (.ref ob) ∧ Fr n0 L ∧ Keep h0 h [] ∧ Arv Z h ob ok .byte (4 : Int32) [(.int (0 : Int32)), (.int (0 : Int32)), (.int (0 : Int32)), (.int (0 : Int32))] (.int (0 : Int32)) ∧ n0 ≤ ob ∧ h0.size ≤ ob
set_option maxRecDepth 65536 in
set_option maxHeartbeats 40000000 in
theorem rmbf2 (l : Launch) (Z : State) (a0 : Array Value) (hw : ∀ d ∈ tables_1, d.before a0 Z = true) (ws : List Jvm.Cond)  (h0 : Heap) (n0 : Nat) (Z0 : n0 ≤ h0.size)  :
    MetFree l (⟨"java/lang/StringUTF16", "newBytesFor", "(I)[B"⟩ : MethodName) (head1 (Jvm.Cond.code (⟨"java/lang/StringUTF16", "newBytesFor", "(I)[B"⟩ : MethodName) jdk_52_method_2_code 1 (some (.array .byte)) :: ws) ({ frames := 1, cells := 1, slots := 4, locals := 12 } : Room)) (fun a U => a = #[(.int (2 : Int32))] ∧ Z.Warmed39 U.vm ∧ U.heap = h0) (fun _ _ _ _ _ => True) (fun _ U o U' => ∃ v L, o = .returned v ∧ Q_rmbf2 Z  h0 n0 v U'.heap L ∧ FrameEnd U o U' L ({ frames := 1, cells := 1, slots := 4, locals := 12 } : Room).cells ({ frames := 1, cells := 1, slots := 4, locals := 12 } : Room).slots) := by
  refine MetFree.of_bodySF (plainFor_of_name pn_rmgc) hisR ?_
  intro p e s m args_ below meth c s₁ Bd hml0 hP hK
  obtain ⟨hargs, hZ, hh⟩ := hP
  have hx := Bd.exec
  have hby := Bd.bytes
  have hml : c.maxLocals = 1 := hml0
  have hown : s.vm.findClass "java/lang/StringUTF16" = some m.cls := findClass_of_methodNamed Bd.named
  have hnm := (name_of_methodNamed Bd.named Bd.method).1
  have X0 : Stand p l e ({ frames := 1, cells := 1, slots := 4, locals := 12 } : Room) s m args_ below meth c s₁ [] 0 0 := Stand.of_body Bd
  have e0 : s₁.heap = h0 := by rw [← hh, Bd.state]; rfl
  have N0 := Fr.nil n0
  have hv : ∀ (i : Nat) {d : Jvm.Cond}, tables_1[i]? = some d → d.before a0 Z = true := fun i d q => hw d (List.mem_of_getElem? q)
  have K0 : Keep h0 h0 [] := Keep.refl _ _
  have k0 : Go p e below m (s₁.setTop (entryFrame m args_ 1)) s₁ 0 #[.val (.int (2 : Int32))] [] := by rw [hargs]; exact fun t kt => castTop (ef_rmbf2 m ) kt
  obtain ⟨W, hWW⟩ : ∃ W, W = s₁.setTop (entryFrame m args_ 1) := ⟨_, rfl⟩
  rw [← hWW] at k0 ⊢
  show Done p e below s W (Q_rmbf2 Z  h0 n0) ({ frames := 1, cells := 1, slots := 4, locals := 12 } : Room).cells ({ frames := 1, cells := 1, slots := 4, locals := 12 } : Room).slots
  have k20 : Go p e below m W s₁ 1 #[.val (.int (2 : Int32))] [(.int (2 : Int32))] := k0.iloadN X0 hx (hb hby d_rmbf1_0) rfl
  obtain ⟨T21, v21, L21, X21, Q21, k21⟩ := k20.stat (y := (⟨"java/lang/StringUTF16", "newBytesLength", "(I)I"⟩ : MethodName)) (Wd := 0) (cells' := 0) (slots' := 0) (argsL := [(.int (2 : Int32))]) (rest := []) X0 hx hZ hown (by rw [hml]; rfl) (hv 115 rfl) (hv 116 rfl) (hv 117 rfl) (hv 70 rfl) (hb hby d_rmbf1_1) (by decide) (rmbl2 l Z a0 hw []  h0 n0 Z0) e0 rfl rfl pd_rmbf1_0 rfl (Nat.le_of_eq rfl) (by decide) (by decide) rfl rfl (by decide) (by decide)
  obtain ⟨rfl, Nq21, e21q⟩ := Q21
  have N21 := Fr.app N0 Nq21
  have e21 : T21.heap = h0 := e21q
  have k21 : Go p e below m W T21 4 #[.val (.int (2 : Int32))] [(.int (4 : Int32))] := k21
  obtain ⟨T22, h22, b22, c22, X22, e22, g22, E22, A22, k22⟩ := k21.newP (cap := 4) (cells' := 1) (slots' := 4) X21 hx hZ (hv 31 rfl) e21 (hb hby d_rmbf1_4) (by decide) (by decide) (by decide) rfl rfl (by decide) (by decide)
  have k22 : Go p e below m W T22 6 #[.val (.int (2 : Int32))] [(.ref b22)] := k22
  have Z22 : n0 ≤ h22.size := Nat.le_trans Z0 E22.1
  have G22 : n0 ≤ b22 := g22 ▸ Z0
  have H22 : h0.size ≤ b22 := g22 ▸ K0.1
  have K22 : Keep h0 h22 [] := K0.ext E22
  have V22 : Arv Z h22 b22 c22 .byte (4 : Int32) [(.int (0 : Int32)), (.int (0 : Int32)), (.int (0 : Int32)), (.int (0 : Int32))] (.int (0 : Int32)) := A22 4
  exact k22.areturn X22 hx Bd.returns rfl rfl (hb hby d_rmbf1_6) (BodyLoose.notSynchronized Bd) (by rw [e22]; exact ⟨b22, c22, rfl, N21, K22, V22, G22, H22⟩) (by decide) (by decide)

theorem ef_rmtb2 (m : MethodId) (b1 : Addr) : entryFrame m #[(.ref b1), (.int (0 : Int32)), (.int (2 : Int32))] 5 = mkF m 0 #[.val (.ref b1), .val (.int (0 : Int32)), .val (.int (2 : Int32)), .unset, .unset] [] := by first | (simp [entryFrame, mkF, argsToLocals, Value.category]; done) | rfl
def Q_rmtb2 (Z : State) (b1 : Addr) (k1 : ClassId) (x0 : Int32) (x1 : Int32) (h0 : Heap) (n0 : Nat) (v : Option Value) (h : Heap) (L : List Loc) : Prop := ∃ (ob : Addr) (ok : ClassId), v = some (.ref ob) ∧ Fr n0 L ∧ Keep h0 h [] ∧ Arv Z h ob ok .byte (4 : Int32) [(.int (own_b0 x0)), (.int (own_b1 x0)), (.int (own_b0 x1)), (.int (own_b1 x1))] (.int (0 : Int32)) ∧ n0 ≤ ob ∧ h0.size ≤ ob
set_option maxRecDepth 65536 in
set_option maxHeartbeats 40000000 in
theorem rmtb2 (l : Launch) (Z : State) (a0 : Array Value) (hw : ∀ d ∈ tables_1, d.before a0 Z = true) (ws : List Jvm.Cond) (b1 : Addr) (k1 : ClassId) (x0 : Int32) (x1 : Int32) (h0 : Heap) (n0 : Nat) (Z0 : n0 ≤ h0.size) (O0 : Old Z n0 h0) (SAD : Sta Z Z.heap "java/lang/StringUTF16" "$assertionsDisabled" "Z" (.int (1 : Int32))) (SHI : Sta Z Z.heap "java/lang/StringUTF16" "HI_BYTE_SHIFT" "I" (.int (0 : Int32))) (SLO : Sta Z Z.heap "java/lang/StringUTF16" "LO_BYTE_SHIFT" "I" (.int (8 : Int32))) (V1 : Arv Z h0 b1 k1 .char (2 : Int32) [(.int x0), (.int x1)] (.int (0 : Int32))) :
    MetFree l (⟨"java/lang/StringUTF16", "toBytes", "([CII)[B"⟩ : MethodName) (head1 (Jvm.Cond.code (⟨"java/lang/StringUTF16", "toBytes", "([CII)[B"⟩ : MethodName) jdk_52_method_14_code 5 (some (.array .byte)) :: ws) ({ frames := 2, cells := 1, slots := 4, locals := 24 } : Room)) (fun a U => a = #[(.ref b1), (.int (0 : Int32)), (.int (2 : Int32))] ∧ Z.Warmed39 U.vm ∧ U.heap = h0) (fun _ _ _ _ _ => True) (fun _ U o U' => ∃ v L, o = .returned v ∧ Q_rmtb2 Z b1 k1 x0 x1 h0 n0 v U'.heap L ∧ FrameEnd U o U' L ({ frames := 2, cells := 1, slots := 4, locals := 24 } : Room).cells ({ frames := 2, cells := 1, slots := 4, locals := 24 } : Room).slots) := by
  refine MetFree.of_bodySF (plainFor_of_name pn_rmgc) hisR ?_
  intro p e s m args_ below meth c s₁ Bd hml0 hP hK
  obtain ⟨hargs, hZ, hh⟩ := hP
  have hx := Bd.exec
  have hby := Bd.bytes
  have hml : c.maxLocals = 5 := hml0
  have hown : s.vm.findClass "java/lang/StringUTF16" = some m.cls := findClass_of_methodNamed Bd.named
  have hnm := (name_of_methodNamed Bd.named Bd.method).1
  have X0 : Stand p l e ({ frames := 2, cells := 1, slots := 4, locals := 24 } : Room) s m args_ below meth c s₁ [] 0 0 := Stand.of_body Bd
  have e0 : s₁.heap = h0 := by rw [← hh, Bd.state]; rfl
  have N0 := Fr.nil n0
  have hv : ∀ (i : Nat) {d : Jvm.Cond}, tables_1[i]? = some d → d.before a0 Z = true := fun i d q => hw d (List.mem_of_getElem? q)
  have K0 : Keep h0 h0 [] := Keep.refl _ _
  have k0 : Go p e below m (s₁.setTop (entryFrame m args_ 5)) s₁ 0 #[.val (.ref b1), .val (.int (0 : Int32)), .val (.int (2 : Int32)), .unset, .unset] [] := by rw [hargs]; exact fun t kt => castTop (ef_rmtb2 m b1) kt
  obtain ⟨W, hWW⟩ : ∃ W, W = s₁.setTop (entryFrame m args_ 5) := ⟨_, rfl⟩
  rw [← hWW] at k0 ⊢
  show Done p e below s W (Q_rmtb2 Z b1 k1 x0 x1 h0 n0) ({ frames := 2, cells := 1, slots := 4, locals := 24 } : Room).cells ({ frames := 2, cells := 1, slots := 4, locals := 24 } : Room).slots
  have k20 : Go p e below m W s₁ 1 #[.val (.ref b1), .val (.int (0 : Int32)), .val (.int (2 : Int32)), .unset, .unset] [(.int (2 : Int32))] := k0.iloadN X0 hx (hb hby d_rmtb1_0) rfl
  obtain ⟨T21, v21, L21, X21, Q21, k21⟩ := k20.stat (y := (⟨"java/lang/StringUTF16", "newBytesFor", "(I)[B"⟩ : MethodName)) (Wd := 0) (cells' := 1) (slots' := 4) (argsL := [(.int (2 : Int32))]) (rest := []) X0 hx hZ hown (by rw [hml]; rfl) (hv 112 rfl) (hv 113 rfl) (hv 114 rfl) (hv 70 rfl) (hb hby d_rmtb1_1) (by decide) (rmbf2 l Z a0 hw []  h0 n0 Z0) e0 rfl rfl pd_rmtb1_0 rfl (Nat.le_of_eq rfl) (by decide) (by decide) rfl rfl (by decide) (by decide)
  obtain ⟨ob_21, ok_21, rfl, Nq21, Kq21, q21_0, q21_1, q21_2⟩ := Q21
  have N21 := Fr.app N0 Nq21
  obtain ⟨h21, e21⟩ : ∃ h, T21.heap = h := ⟨_, rfl⟩
  rw [e21] at Kq21 q21_0
  have Z21 : n0 ≤ h21.size := Nat.le_trans Z0 Kq21.1
  have K21 : Keep h0 h21 [] := K0.trans Kq21 (fun x q => absurd q List.not_mem_nil)
  have H22 : h0.size ≤ ob_21 := Nat.le_trans K0.1 q21_2
  have k21 : Go p e below m W T21 4 #[.val (.ref b1), .val (.int (0 : Int32)), .val (.int (2 : Int32)), .unset, .unset] [(.ref ob_21)] := k21
  have k23 : Go p e below m W T21 5 #[.val (.ref b1), .val (.int (0 : Int32)), .val (.int (2 : Int32)), .val (.ref ob_21), .unset] [] := k21.astoreN X21 hx (hb hby d_rmtb1_4) rfl rfl
  have k24 : Go p e below m W T21 8 #[.val (.ref b1), .val (.int (0 : Int32)), .val (.int (2 : Int32)), .val (.ref ob_21), .val (.int (0 : Int32))] [] := (k23.iconst X21 hx (hb hby d_rmtb1_5) (v := (0 : Int32)) rfl).istore X21 hx (hb hby d_rmtb1_6) rfl
  have k25 : Go p e below m W T21 19 #[.val (.ref b1), .val (.int (0 : Int32)), .val (.int (2 : Int32)), .val (.ref ob_21), .val (.int (0 : Int32))] [(.int (0 : Int32)), (.ref b1), (.int (0 : Int32)), (.ref ob_21)] := ((((((k24.iload X21 hx (hb hby d_rmtb1_8) rfl).iloadN X21 hx (hb hby d_rmtb1_10) rfl).icmpNo X21 hx (hb hby d_rmtb1_11) (XT.ii_ge_f (by decide))).aloadN X21 hx (hb hby d_rmtb1_14) rfl rfl).iload X21 hx (hb hby d_rmtb1_15) rfl).aloadN X21 hx (hb hby d_rmtb1_17) rfl rfl).iloadN X21 hx (hb hby d_rmtb1_18) rfl
  have g_1 := V1.keep Kq21 (List.not_mem_nil)
  have k26 : Go p e below m W T21 20 #[.val (.ref b1), .val (.int (0 : Int32)), .val (.int (2 : Int32)), .val (.ref ob_21), .val (.int (0 : Int32))] [(.int x0), (.int (0 : Int32)), (.ref ob_21)] := k25.caload (i := 0) (n := 2) X21 hx hZ e21 g_1 rfl rfl (by decide) (by decide) rfl (hb hby d_rmtb1_19)
  have g_2 := O0.keep Kq21 (fun x q => absurd q List.not_mem_nil)
  obtain ⟨T27, v27, L27, X27, Q27, k27⟩ := k26.stat (y := (⟨"java/lang/StringUTF16", "putChar", "([BII)V"⟩ : MethodName)) (Wd := 0) (cells' := 1) (slots' := 4) (argsL := [(.ref ob_21), (.int (0 : Int32)), (.int x0)]) (rest := []) X21 hx hZ hown (by rw [hml]; rfl) (hv 119 rfl) (hv 120 rfl) (hv 121 rfl) (hv 70 rfl) (hb hby d_rmtb1_20) (by decide) (rmpu l Z a0 hw [] ob_21 (0 : Int32) x0 ok_21 (4 : Int32) ([(.int (0 : Int32)), (.int (0 : Int32)), (.int (0 : Int32)), (.int (0 : Int32))]) 0 h21 n0 Z21 g_2 SAD SHI SLO q21_0 q21_1 rfl (by decide) (by decide) (Nat.le_of_ble_eq_true rfl) (by decide) (by decide) (Nat.le_of_ble_eq_true rfl)) e21 rfl rfl pd_rmtb1_1 rfl (Nat.le_of_eq rfl) (by decide) (by decide) rfl rfl (by decide) (by decide)
  obtain ⟨rfl, Nq27, Kq27, q27_0⟩ := Q27
  have N27 := Fr.app N21 Nq27
  obtain ⟨h27, e27⟩ : ∃ h, T27.heap = h := ⟨_, rfl⟩
  rw [e27] at Kq27 q27_0
  have Z27 : n0 ≤ h27.size := Nat.le_trans Z21 Kq27.1
  have K27 : Keep h0 h27 [] := K21.trans Kq27 (by intro x q; simp only [List.mem_cons, List.not_mem_nil, or_false] at q; rcases q with rfl; exact (Or.inr H22))
  have k27 : Go p e below m W T27 23 #[.val (.ref b1), .val (.int (0 : Int32)), .val (.int (2 : Int32)), .val (.ref ob_21), .val (.int (0 : Int32))] [] := k27
  have vt27 : Arv Z h27 ob_21 ok_21 .byte (4 : Int32) [(.int (own_b0 x0)), (.int (own_b1 x0)), (.int (0 : Int32)), (.int (0 : Int32))] (.int (0 : Int32)) := q27_0
  have k28 : Go p e below m W T27 26 #[.val (.ref b1), .val (.int (1 : Int32)), .val (.int (2 : Int32)), .val (.ref ob_21), .val (.int (0 : Int32))] [] := k27.iinc X27 hx (hb hby d_rmtb1_23) (v := (1 : Int32)) rfl rfl rfl
  have k29 : Go p e below m W T27 29 #[.val (.ref b1), .val (.int (1 : Int32)), .val (.int (2 : Int32)), .val (.ref ob_21), .val (.int (1 : Int32))] [] := k28.iinc X27 hx (hb hby d_rmtb1_26) (v := (1 : Int32)) rfl rfl rfl
  have k30 : Go p e below m W T27 19 #[.val (.ref b1), .val (.int (1 : Int32)), .val (.int (2 : Int32)), .val (.ref ob_21), .val (.int (1 : Int32))] [(.int (1 : Int32)), (.ref b1), (.int (1 : Int32)), (.ref ob_21)] := (((((((k29.goto X27 hx (hb hby d_rmtb1_29) (by decide) (by decide)).iload X27 hx (hb hby d_rmtb1_8) rfl).iloadN X27 hx (hb hby d_rmtb1_10) rfl).icmpNo X27 hx (hb hby d_rmtb1_11) (XT.ii_ge_f (by decide))).aloadN X27 hx (hb hby d_rmtb1_14) rfl rfl).iload X27 hx (hb hby d_rmtb1_15) rfl).aloadN X27 hx (hb hby d_rmtb1_17) rfl rfl).iloadN X27 hx (hb hby d_rmtb1_18) rfl
  have g_3 := (show b1 ≠ ob_21 from Nat.ne_of_lt (Nat.lt_of_lt_of_le V1.lt q21_2))
  have g_4 := g_1.keep Kq27 (by simp only [List.mem_cons, List.not_mem_nil, or_false, not_or]; exact g_3)
  have k31 : Go p e below m W T27 20 #[.val (.ref b1), .val (.int (1 : Int32)), .val (.int (2 : Int32)), .val (.ref ob_21), .val (.int (1 : Int32))] [(.int x1), (.int (1 : Int32)), (.ref ob_21)] := k30.caload (i := 1) (n := 2) X27 hx hZ e27 g_4 rfl rfl (by decide) (by decide) rfl (hb hby d_rmtb1_19)
  have g_5 := g_2.keep Kq27 (by intro x q; simp only [List.mem_cons, List.not_mem_nil, or_false] at q; rcases q with rfl; exact q21_1)
  obtain ⟨T32, v32, L32, X32, Q32, k32⟩ := k31.stat (y := (⟨"java/lang/StringUTF16", "putChar", "([BII)V"⟩ : MethodName)) (Wd := 0) (cells' := 1) (slots' := 4) (argsL := [(.ref ob_21), (.int (1 : Int32)), (.int x1)]) (rest := []) X27 hx hZ hown (by rw [hml]; rfl) (hv 119 rfl) (hv 120 rfl) (hv 121 rfl) (hv 70 rfl) (hb hby d_rmtb1_20) (by decide) (rmpu l Z a0 hw [] ob_21 (1 : Int32) x1 ok_21 (4 : Int32) ([(.int (own_b0 x0)), (.int (own_b1 x0)), (.int (0 : Int32)), (.int (0 : Int32))]) 2 h27 n0 Z27 g_5 SAD SHI SLO vt27 q21_1 rfl (by decide) (by decide) (Nat.le_of_ble_eq_true rfl) (by decide) (by decide) (Nat.le_of_ble_eq_true rfl)) e27 rfl rfl pd_rmtb1_1 rfl (Nat.le_of_eq rfl) (by decide) (by decide) rfl rfl (by decide) (by decide)
  obtain ⟨rfl, Nq32, Kq32, q32_0⟩ := Q32
  have N32 := Fr.app N27 Nq32
  obtain ⟨h32, e32⟩ : ∃ h, T32.heap = h := ⟨_, rfl⟩
  rw [e32] at Kq32 q32_0
  have Z32 : n0 ≤ h32.size := Nat.le_trans Z27 Kq32.1
  have K32 : Keep h0 h32 [] := K27.trans Kq32 (by intro x q; simp only [List.mem_cons, List.not_mem_nil, or_false] at q; rcases q with rfl; exact (Or.inr H22))
  have k32 : Go p e below m W T32 23 #[.val (.ref b1), .val (.int (1 : Int32)), .val (.int (2 : Int32)), .val (.ref ob_21), .val (.int (1 : Int32))] [] := k32
  have vt32 : Arv Z h32 ob_21 ok_21 .byte (4 : Int32) [(.int (own_b0 x0)), (.int (own_b1 x0)), (.int (own_b0 x1)), (.int (own_b1 x1))] (.int (0 : Int32)) := q32_0
  have k33 : Go p e below m W T32 26 #[.val (.ref b1), .val (.int (2 : Int32)), .val (.int (2 : Int32)), .val (.ref ob_21), .val (.int (1 : Int32))] [] := k32.iinc X32 hx (hb hby d_rmtb1_23) (v := (1 : Int32)) rfl rfl rfl
  have k34 : Go p e below m W T32 29 #[.val (.ref b1), .val (.int (2 : Int32)), .val (.int (2 : Int32)), .val (.ref ob_21), .val (.int (2 : Int32))] [] := k33.iinc X32 hx (hb hby d_rmtb1_26) (v := (1 : Int32)) rfl rfl rfl
  have k35 : Go p e below m W T32 33 #[.val (.ref b1), .val (.int (2 : Int32)), .val (.int (2 : Int32)), .val (.ref ob_21), .val (.int (2 : Int32))] [(.ref ob_21)] := ((((k34.goto X32 hx (hb hby d_rmtb1_29) (by decide) (by decide)).iload X32 hx (hb hby d_rmtb1_8) rfl).iloadN X32 hx (hb hby d_rmtb1_10) rfl).icmpYes X32 hx (hb hby d_rmtb1_11) (XT.ii_ge_t (by decide)) (by decide) (by decide)).aloadN X32 hx (hb hby d_rmtb1_32) rfl rfl
  exact k35.areturn X32 hx Bd.returns rfl rfl (hb hby d_rmtb1_33) (BodyLoose.notSynchronized Bd) (by rw [e32]; exact ⟨ob_21, ok_21, rfl, N32, K32, vt32, q21_1, H22⟩) (by decide) (by decide)

theorem ef_rmcv2 (m : MethodId) (b1 : Addr) (b2 : Addr) : entryFrame m #[(.ref b1), (.int (0 : Int32)), (.ref b2), (.int (0 : Int32)), (.int (2 : Int32))] 7 = mkF m 0 #[.val (.ref b1), .val (.int (0 : Int32)), .val (.ref b2), .val (.int (0 : Int32)), .val (.int (2 : Int32)), .unset, .unset] [] := by first | (simp [entryFrame, mkF, argsToLocals, Value.category]; done) | rfl
def Q_rmcv2 (Z : State) (b1 : Addr) (b2 : Addr) (k1 : ClassId) (k2 : ClassId) (x0 : Int32) (x1 : Int32) (h0 : Heap) (n0 : Nat) (v : Option Value) (h : Heap) (L : List Loc) : Prop := ∃ (ro : Int32) (vs : List Value), v = some (.int ro) ∧ Fr n0 L ∧ Keep h0 h [b2] ∧ ((((255 : Int32) < x0) ∧ ro = (0 : Int32)) ∨ (((255 : Int32) < x1) ∧ ro = (1 : Int32)) ∨ ((¬ ((255 : Int32) < x0)) ∧ (¬ ((255 : Int32) < x1)) ∧ ro = (2 : Int32) ∧ vs = [(.int (x0).toInt8.toInt32), (.int (x1).toInt8.toInt32)])) ∧ Arv Z h b2 k2 .byte (2 : Int32) vs (.int (0 : Int32))
set_option maxRecDepth 65536 in
set_option maxHeartbeats 40000000 in
theorem rmcv2 (l : Launch) (Z : State) (a0 : Array Value) (hw : ∀ d ∈ tables_1, d.before a0 Z = true) (ws : List Jvm.Cond) (b1 : Addr) (b2 : Addr) (k1 : ClassId) (k2 : ClassId) (x0 : Int32) (x1 : Int32) (h0 : Heap) (n0 : Nat) (Z0 : n0 ≤ h0.size) (V1 : Arv Z h0 b1 k1 .char (2 : Int32) [(.int x0), (.int x1)] (.int (0 : Int32))) (V2 : Arv Z h0 b2 k2 .byte (2 : Int32) [(.int (0 : Int32)), (.int (0 : Int32))] (.int (0 : Int32))) (G2 : n0 ≤ b2) (N1 : b1 ≠ b2) :
    MetFree l (⟨"java/lang/StringUTF16", "compress", "([CI[BII)I"⟩ : MethodName) (head1 (Jvm.Cond.code (⟨"java/lang/StringUTF16", "compress", "([CI[BII)I"⟩ : MethodName) jdk_52_method_21_code 7 (some .int) :: ws) ({ frames := 0, cells := 0, slots := 0, locals := 0 } : Room)) (fun a U => a = #[(.ref b1), (.int (0 : Int32)), (.ref b2), (.int (0 : Int32)), (.int (2 : Int32))] ∧ Z.Warmed39 U.vm ∧ U.heap = h0) (fun _ _ _ _ _ => True) (fun _ U o U' => ∃ v L, o = .returned v ∧ Q_rmcv2 Z b1 b2 k1 k2 x0 x1 h0 n0 v U'.heap L ∧ FrameEnd U o U' L ({ frames := 0, cells := 0, slots := 0, locals := 0 } : Room).cells ({ frames := 0, cells := 0, slots := 0, locals := 0 } : Room).slots) := by
  refine MetFree.of_bodySF (plainFor_of_name pn_rmgc) hisR ?_
  intro p e s m args_ below meth c s₁ Bd hml0 hP hK
  obtain ⟨hargs, hZ, hh⟩ := hP
  have hx := Bd.exec
  have hby := Bd.bytes
  have hml : c.maxLocals = 7 := hml0
  have hown : s.vm.findClass "java/lang/StringUTF16" = some m.cls := findClass_of_methodNamed Bd.named
  have hnm := (name_of_methodNamed Bd.named Bd.method).1
  have X0 : Stand p l e ({ frames := 0, cells := 0, slots := 0, locals := 0 } : Room) s m args_ below meth c s₁ [] 0 0 := Stand.of_body Bd
  have e0 : s₁.heap = h0 := by rw [← hh, Bd.state]; rfl
  have N0 := Fr.nil n0
  have hv : ∀ (i : Nat) {d : Jvm.Cond}, tables_1[i]? = some d → d.before a0 Z = true := fun i d q => hw d (List.mem_of_getElem? q)
  have K0 : Keep h0 h0 [b2] := Keep.refl _ _
  have k0 : Go p e below m (s₁.setTop (entryFrame m args_ 7)) s₁ 0 #[.val (.ref b1), .val (.int (0 : Int32)), .val (.ref b2), .val (.int (0 : Int32)), .val (.int (2 : Int32)), .unset, .unset] [] := by rw [hargs]; exact fun t kt => castTop (ef_rmcv2 m b1 b2) kt
  obtain ⟨W, hWW⟩ : ∃ W, W = s₁.setTop (entryFrame m args_ 7) := ⟨_, rfl⟩
  rw [← hWW] at k0 ⊢
  show Done p e below s W (Q_rmcv2 Z b1 b2 k1 k2 x0 x1 h0 n0) ({ frames := 0, cells := 0, slots := 0, locals := 0 } : Room).cells ({ frames := 0, cells := 0, slots := 0, locals := 0 } : Room).slots
  have k20 : Go p e below m W s₁ 3 #[.val (.ref b1), .val (.int (0 : Int32)), .val (.ref b2), .val (.int (0 : Int32)), .val (.int (2 : Int32)), .val (.int (0 : Int32)), .unset] [] := (k0.iconst X0 hx (hb hby d_rmcv1_0) (v := (0 : Int32)) rfl).istore X0 hx (hb hby d_rmcv1_1) rfl
  have k21 : Go p e below m W s₁ 12 #[.val (.ref b1), .val (.int (0 : Int32)), .val (.ref b2), .val (.int (0 : Int32)), .val (.int (2 : Int32)), .val (.int (0 : Int32)), .unset] [(.int (0 : Int32)), (.ref b1)] := ((((k20.iload X0 hx (hb hby d_rmcv1_3) rfl).iload X0 hx (hb hby d_rmcv1_5) rfl).icmpNo X0 hx (hb hby d_rmcv1_7) (XT.ii_ge_f (by decide))).aloadN X0 hx (hb hby d_rmcv1_10) rfl rfl).iloadN X0 hx (hb hby d_rmcv1_11) rfl
  have k22 : Go p e below m W s₁ 15 #[.val (.ref b1), .val (.int (0 : Int32)), .val (.ref b2), .val (.int (0 : Int32)), .val (.int (2 : Int32)), .val (.int (0 : Int32)), .val (.int x0)] [] := (k21.caload (i := 0) (n := 2) X0 hx hZ e0 V1 rfl rfl (by decide) (by decide) rfl (hb hby d_rmcv1_12)).istore X0 hx (hb hby d_rmcv1_13) rfl
  have k23 : Go p e below m W s₁ 20 #[.val (.ref b1), .val (.int (0 : Int32)), .val (.ref b2), .val (.int (0 : Int32)), .val (.int (2 : Int32)), .val (.int (0 : Int32)), .val (.int x0)] [(.int (255 : Int32)), (.int x0)] := (k22.iload X0 hx (hb hby d_rmcv1_15) rfl).sipush X0 hx (hb hby d_rmcv1_17) (v := (255 : Int32)) rfl
  by_cases hc20_24 : (255 : Int32) < x0
  ·
    have k25 : Go p e below m W s₁ 25 #[.val (.ref b1), .val (.int (0 : Int32)), .val (.ref b2), .val (.int (0 : Int32)), .val (.int (2 : Int32)), .val (.int (0 : Int32)), .val (.int x0)] [(.int (0 : Int32))] := (k23.icmpNo X0 hx (hb hby d_rmcv1_20) (XT.ii_le_f hc20_24)).iload X0 hx (hb hby d_rmcv1_23) rfl
    exact k25.ireturnI X0 hx Bd.returns (hb hby d_rmcv1_25) (BodyLoose.notSynchronized Bd) (by rw [e0]; exact ⟨(0 : Int32), [(.int (0 : Int32)), (.int (0 : Int32))], rfl, N0, K0, (Or.inl ⟨hc20_24, rfl⟩), V2⟩) (by decide) (by decide)
  ·
    have k26 : Go p e below m W s₁ 31 #[.val (.ref b1), .val (.int (0 : Int32)), .val (.ref b2), .val (.int (0 : Int32)), .val (.int (2 : Int32)), .val (.int (0 : Int32)), .val (.int x0)] [(.int (x0).toInt8.toInt32), (.int (0 : Int32)), (.ref b2)] := ((((k23.icmpYes X0 hx (hb hby d_rmcv1_20) (XT.ii_le_t hc20_24) (by decide) (by decide)).aloadN X0 hx (hb hby d_rmcv1_26) rfl rfl).iloadN X0 hx (hb hby d_rmcv1_27) rfl).iload X0 hx (hb hby d_rmcv1_28) rfl).i2b X0 hx (hb hby d_rmcv1_30)
    obtain ⟨T27, h27, l27, X27, e27, W27, V27, N27, k27⟩ := k26.bastore (i := 0) X0 hx hZ e0 V2 rfl rfl (by decide) (Nat.le_of_ble_eq_true rfl) N0 G2 (hb hby d_rmcv1_31)
    have k27 : Go p e below m W T27 32 #[.val (.ref b1), .val (.int (0 : Int32)), .val (.ref b2), .val (.int (0 : Int32)), .val (.int (2 : Int32)), .val (.int (0 : Int32)), .val (.int x0)] [] := k27
    have Z27 : n0 ≤ h27.size := (Wr.size W27).symm ▸ Z0
    rw [own_narb] at V27
    have V27 : Arv Z h27 b2 k2 .byte (2 : Int32) [(.int (x0).toInt8.toInt32), (.int (0 : Int32))] (.int (0 : Int32)) := V27
    have K27 : Keep h0 h27 [b2] := K0.wr W27 (Or.inl (List.mem_of_getElem? (i := 0) rfl))
    have k28 : Go p e below m W T27 35 #[.val (.ref b1), .val (.int (1 : Int32)), .val (.ref b2), .val (.int (0 : Int32)), .val (.int (2 : Int32)), .val (.int (0 : Int32)), .val (.int x0)] [] := k27.iinc X27 hx (hb hby d_rmcv1_32) (v := (1 : Int32)) rfl rfl rfl
    have k29 : Go p e below m W T27 38 #[.val (.ref b1), .val (.int (1 : Int32)), .val (.ref b2), .val (.int (1 : Int32)), .val (.int (2 : Int32)), .val (.int (0 : Int32)), .val (.int x0)] [] := k28.iinc X27 hx (hb hby d_rmcv1_35) (v := (1 : Int32)) rfl rfl rfl
    have k30 : Go p e below m W T27 41 #[.val (.ref b1), .val (.int (1 : Int32)), .val (.ref b2), .val (.int (1 : Int32)), .val (.int (2 : Int32)), .val (.int (1 : Int32)), .val (.int x0)] [] := k29.iinc X27 hx (hb hby d_rmcv1_38) (v := (1 : Int32)) rfl rfl rfl
    have k31 : Go p e below m W T27 12 #[.val (.ref b1), .val (.int (1 : Int32)), .val (.ref b2), .val (.int (1 : Int32)), .val (.int (2 : Int32)), .val (.int (1 : Int32)), .val (.int x0)] [(.int (1 : Int32)), (.ref b1)] := (((((k30.goto X27 hx (hb hby d_rmcv1_41) (by decide) (by decide)).iload X27 hx (hb hby d_rmcv1_3) rfl).iload X27 hx (hb hby d_rmcv1_5) rfl).icmpNo X27 hx (hb hby d_rmcv1_7) (XT.ii_ge_f (by decide))).aloadN X27 hx (hb hby d_rmcv1_10) rfl rfl).iloadN X27 hx (hb hby d_rmcv1_11) rfl
    have g_1 := V1.other W27 N1
    have k32 : Go p e below m W T27 15 #[.val (.ref b1), .val (.int (1 : Int32)), .val (.ref b2), .val (.int (1 : Int32)), .val (.int (2 : Int32)), .val (.int (1 : Int32)), .val (.int x1)] [] := (k31.caload (i := 1) (n := 2) X27 hx hZ e27 g_1 rfl rfl (by decide) (by decide) rfl (hb hby d_rmcv1_12)).istore X27 hx (hb hby d_rmcv1_13) rfl
    have k33 : Go p e below m W T27 20 #[.val (.ref b1), .val (.int (1 : Int32)), .val (.ref b2), .val (.int (1 : Int32)), .val (.int (2 : Int32)), .val (.int (1 : Int32)), .val (.int x1)] [(.int (255 : Int32)), (.int x1)] := (k32.iload X27 hx (hb hby d_rmcv1_15) rfl).sipush X27 hx (hb hby d_rmcv1_17) (v := (255 : Int32)) rfl
    by_cases hc20_34 : (255 : Int32) < x1
    ·
      have k35 : Go p e below m W T27 25 #[.val (.ref b1), .val (.int (1 : Int32)), .val (.ref b2), .val (.int (1 : Int32)), .val (.int (2 : Int32)), .val (.int (1 : Int32)), .val (.int x1)] [(.int (1 : Int32))] := (k33.icmpNo X27 hx (hb hby d_rmcv1_20) (XT.ii_le_f hc20_34)).iload X27 hx (hb hby d_rmcv1_23) rfl
      exact k35.ireturnI X27 hx Bd.returns (hb hby d_rmcv1_25) (BodyLoose.notSynchronized Bd) (by rw [e27]; exact ⟨(1 : Int32), [(.int (x0).toInt8.toInt32), (.int (0 : Int32))], rfl, N27, K27, (Or.inr (Or.inl ⟨hc20_34, rfl⟩)), V27⟩) (by decide) (by decide)
    ·
      have k36 : Go p e below m W T27 31 #[.val (.ref b1), .val (.int (1 : Int32)), .val (.ref b2), .val (.int (1 : Int32)), .val (.int (2 : Int32)), .val (.int (1 : Int32)), .val (.int x1)] [(.int (x1).toInt8.toInt32), (.int (1 : Int32)), (.ref b2)] := ((((k33.icmpYes X27 hx (hb hby d_rmcv1_20) (XT.ii_le_t hc20_34) (by decide) (by decide)).aloadN X27 hx (hb hby d_rmcv1_26) rfl rfl).iloadN X27 hx (hb hby d_rmcv1_27) rfl).iload X27 hx (hb hby d_rmcv1_28) rfl).i2b X27 hx (hb hby d_rmcv1_30)
      obtain ⟨T37, h37, l37, X37, e37, W37, V37, N37, k37⟩ := k36.bastore (i := 1) X27 hx hZ e27 V27 rfl rfl (by decide) (Nat.le_of_ble_eq_true rfl) N27 G2 (hb hby d_rmcv1_31)
      have k37 : Go p e below m W T37 32 #[.val (.ref b1), .val (.int (1 : Int32)), .val (.ref b2), .val (.int (1 : Int32)), .val (.int (2 : Int32)), .val (.int (1 : Int32)), .val (.int x1)] [] := k37
      have Z37 : n0 ≤ h37.size := (Wr.size W37).symm ▸ Z27
      rw [own_narb] at V37
      have V37 : Arv Z h37 b2 k2 .byte (2 : Int32) [(.int (x0).toInt8.toInt32), (.int (x1).toInt8.toInt32)] (.int (0 : Int32)) := V37
      have K37 : Keep h0 h37 [b2] := K27.wr W37 (Or.inl (List.mem_of_getElem? (i := 0) rfl))
      have k38 : Go p e below m W T37 35 #[.val (.ref b1), .val (.int (2 : Int32)), .val (.ref b2), .val (.int (1 : Int32)), .val (.int (2 : Int32)), .val (.int (1 : Int32)), .val (.int x1)] [] := k37.iinc X37 hx (hb hby d_rmcv1_32) (v := (1 : Int32)) rfl rfl rfl
      have k39 : Go p e below m W T37 38 #[.val (.ref b1), .val (.int (2 : Int32)), .val (.ref b2), .val (.int (2 : Int32)), .val (.int (2 : Int32)), .val (.int (1 : Int32)), .val (.int x1)] [] := k38.iinc X37 hx (hb hby d_rmcv1_35) (v := (1 : Int32)) rfl rfl rfl
      have k40 : Go p e below m W T37 41 #[.val (.ref b1), .val (.int (2 : Int32)), .val (.ref b2), .val (.int (2 : Int32)), .val (.int (2 : Int32)), .val (.int (2 : Int32)), .val (.int x1)] [] := k39.iinc X37 hx (hb hby d_rmcv1_38) (v := (1 : Int32)) rfl rfl rfl
      have k41 : Go p e below m W T37 46 #[.val (.ref b1), .val (.int (2 : Int32)), .val (.ref b2), .val (.int (2 : Int32)), .val (.int (2 : Int32)), .val (.int (2 : Int32)), .val (.int x1)] [(.int (2 : Int32))] := ((((k40.goto X37 hx (hb hby d_rmcv1_41) (by decide) (by decide)).iload X37 hx (hb hby d_rmcv1_3) rfl).iload X37 hx (hb hby d_rmcv1_5) rfl).icmpYes X37 hx (hb hby d_rmcv1_7) (XT.ii_ge_t (by decide)) (by decide) (by decide)).iload X37 hx (hb hby d_rmcv1_44) rfl
      exact k41.ireturnI X37 hx Bd.returns (hb hby d_rmcv1_46) (BodyLoose.notSynchronized Bd) (by rw [e37]; exact ⟨(2 : Int32), [(.int (x0).toInt8.toInt32), (.int (x1).toInt8.toInt32)], rfl, N37, K37, (Or.inr (Or.inr ⟨hc20_24, hc20_34, rfl, rfl⟩)), V37⟩) (by decide) (by decide)

theorem ef_rmcw2 (m : MethodId) (b1 : Addr) : entryFrame m #[(.ref b1), (.int (0 : Int32)), (.int (2 : Int32))] 6 = mkF m 0 #[.val (.ref b1), .val (.int (0 : Int32)), .val (.int (2 : Int32)), .unset, .unset, .unset] [] := by first | (simp [entryFrame, mkF, argsToLocals, Value.category]; done) | rfl
def Q_rmcw2 (Z : State) (b1 : Addr) (k1 : ClassId) (x0 : Int32) (x1 : Int32) (h0 : Heap) (n0 : Nat) (v : Option Value) (h : Heap) (L : List Loc) : Prop := ∃ (ob : Addr) (ok : ClassId) (zz : Int32) (vs : List Value), v = some (.ref ob) ∧ Fr n0 L ∧ Keep h0 h [] ∧ (((¬ ((255 : Int32) < x0)) ∧ (¬ ((255 : Int32) < x1)) ∧ zz = (2 : Int32) ∧ vs = [(.int (x0).toInt8.toInt32), (.int (x1).toInt8.toInt32)]) ∨ (zz = (4 : Int32) ∧ vs = [(.int (own_b0 x0)), (.int (own_b1 x0)), (.int (own_b0 x1)), (.int (own_b1 x1))])) ∧ Arv Z h ob ok .byte zz vs (.int (0 : Int32)) ∧ n0 ≤ ob ∧ h0.size ≤ ob
set_option maxRecDepth 65536 in
set_option maxHeartbeats 40000000 in
theorem rmcw2 (l : Launch) (Z : State) (a0 : Array Value) (hw : ∀ d ∈ tables_1, d.before a0 Z = true) (ws : List Jvm.Cond) (b1 : Addr) (k1 : ClassId) (x0 : Int32) (x1 : Int32) (h0 : Heap) (n0 : Nat) (Z0 : n0 ≤ h0.size) (O0 : Old Z n0 h0) (SAD : Sta Z Z.heap "java/lang/StringUTF16" "$assertionsDisabled" "Z" (.int (1 : Int32))) (SHI : Sta Z Z.heap "java/lang/StringUTF16" "HI_BYTE_SHIFT" "I" (.int (0 : Int32))) (SLO : Sta Z Z.heap "java/lang/StringUTF16" "LO_BYTE_SHIFT" "I" (.int (8 : Int32))) (V1 : Arv Z h0 b1 k1 .char (2 : Int32) [(.int x0), (.int x1)] (.int (0 : Int32))) (R0 : own_rk x0) (R1 : own_rk x1) :
    MetFree l (⟨"java/lang/StringUTF16", "compress", "([CII)[B"⟩ : MethodName) (head1 (Jvm.Cond.code (⟨"java/lang/StringUTF16", "compress", "([CII)[B"⟩ : MethodName) jdk_52_method_16_code 6 (some (.array .byte)) :: ws) ({ frames := 3, cells := 2, slots := 6, locals := 40 } : Room)) (fun a U => a = #[(.ref b1), (.int (0 : Int32)), (.int (2 : Int32))] ∧ Z.Warmed39 U.vm ∧ U.heap = h0) (fun _ _ _ _ _ => True) (fun _ U o U' => ∃ v L, o = .returned v ∧ Q_rmcw2 Z b1 k1 x0 x1 h0 n0 v U'.heap L ∧ FrameEnd U o U' L ({ frames := 3, cells := 2, slots := 6, locals := 40 } : Room).cells ({ frames := 3, cells := 2, slots := 6, locals := 40 } : Room).slots) := by
  refine MetFree.of_bodySF (plainFor_of_name pn_rmgc) hisR ?_
  intro p e s m args_ below meth c s₁ Bd hml0 hP hK
  obtain ⟨hargs, hZ, hh⟩ := hP
  have hx := Bd.exec
  have hby := Bd.bytes
  have hml : c.maxLocals = 6 := hml0
  have hown : s.vm.findClass "java/lang/StringUTF16" = some m.cls := findClass_of_methodNamed Bd.named
  have hnm := (name_of_methodNamed Bd.named Bd.method).1
  have X0 : Stand p l e ({ frames := 3, cells := 2, slots := 6, locals := 40 } : Room) s m args_ below meth c s₁ [] 0 0 := Stand.of_body Bd
  have e0 : s₁.heap = h0 := by rw [← hh, Bd.state]; rfl
  have N0 := Fr.nil n0
  have hv : ∀ (i : Nat) {d : Jvm.Cond}, tables_1[i]? = some d → d.before a0 Z = true := fun i d q => hw d (List.mem_of_getElem? q)
  have K0 : Keep h0 h0 [] := Keep.refl _ _
  have k0 : Go p e below m (s₁.setTop (entryFrame m args_ 6)) s₁ 0 #[.val (.ref b1), .val (.int (0 : Int32)), .val (.int (2 : Int32)), .unset, .unset, .unset] [] := by rw [hargs]; exact fun t kt => castTop (ef_rmcw2 m b1) kt
  obtain ⟨W, hWW⟩ : ∃ W, W = s₁.setTop (entryFrame m args_ 6) := ⟨_, rfl⟩
  rw [← hWW] at k0 ⊢
  show Done p e below s W (Q_rmcw2 Z b1 k1 x0 x1 h0 n0) ({ frames := 3, cells := 2, slots := 6, locals := 40 } : Room).cells ({ frames := 3, cells := 2, slots := 6, locals := 40 } : Room).slots
  have k20 : Go p e below m W s₁ 1 #[.val (.ref b1), .val (.int (0 : Int32)), .val (.int (2 : Int32)), .unset, .unset, .unset] [(.int (2 : Int32))] := k0.iloadN X0 hx (hb hby d_rmcw1_0) rfl
  obtain ⟨T21, h21, b21, c21, X21, e21, g21, E21, A21, k21⟩ := k20.newP (cap := 2) (cells' := 1) (slots' := 2) X0 hx hZ (hv 31 rfl) e0 (hb hby d_rmcw1_1) (by decide) (by decide) (by decide) rfl rfl (by decide) (by decide)
  have k21 : Go p e below m W T21 3 #[.val (.ref b1), .val (.int (0 : Int32)), .val (.int (2 : Int32)), .unset, .unset, .unset] [(.ref b21)] := k21
  have Z21 : n0 ≤ h21.size := Nat.le_trans Z0 E21.1
  have G21 : n0 ≤ b21 := g21 ▸ Z0
  have H21 : h0.size ≤ b21 := g21 ▸ K0.1
  have K21 : Keep h0 h21 [] := K0.ext E21
  have V21 : Arv Z h21 b21 c21 .byte (2 : Int32) [(.int (0 : Int32)), (.int (0 : Int32))] (.int (0 : Int32)) := A21 2
  have k22 : Go p e below m W T21 4 #[.val (.ref b1), .val (.int (0 : Int32)), .val (.int (2 : Int32)), .val (.ref b21), .unset, .unset] [] := k21.astoreN X21 hx (hb hby d_rmcw1_3) rfl rfl
  have k23 : Go p e below m W T21 9 #[.val (.ref b1), .val (.int (0 : Int32)), .val (.int (2 : Int32)), .val (.ref b21), .unset, .unset] [(.int (2 : Int32)), (.int (0 : Int32)), (.ref b21), (.int (0 : Int32)), (.ref b1)] := ((((k22.aloadN X21 hx (hb hby d_rmcw1_4) rfl rfl).iloadN X21 hx (hb hby d_rmcw1_5) rfl).aloadN X21 hx (hb hby d_rmcw1_6) rfl rfl).iconst X21 hx (hb hby d_rmcw1_7) (v := (0 : Int32)) rfl).iloadN X21 hx (hb hby d_rmcw1_8) rfl
  have g_1 := V1.ext E21
  have g_2 := (show b1 ≠ b21 from Nat.ne_of_lt (g21 ▸ V1.lt))
  obtain ⟨T24, v24, L24, X24, Q24, k24⟩ := k23.stat (y := (⟨"java/lang/StringUTF16", "compress", "([CI[BII)I"⟩ : MethodName)) (Wd := 0) (cells' := 1) (slots' := 2) (argsL := [(.ref b1), (.int (0 : Int32)), (.ref b21), (.int (0 : Int32)), (.int (2 : Int32))]) (rest := []) X21 hx hZ hown (by rw [hml]; rfl) (hv 72 rfl) (hv 73 rfl) (hv 74 rfl) (hv 70 rfl) (hb hby d_rmcw1_9) (by decide) (rmcv2 l Z a0 hw [] b1 b21 k1 c21 x0 x1 h21 n0 Z21 g_1 V21 G21 g_2) e21 rfl rfl pd_rmcw1_0 rfl (Nat.le_of_eq rfl) (by decide) (by decide) rfl rfl (by decide) (by decide)
  obtain ⟨ro_24, vs_24, rfl, Nq24, Kq24, p24_0, q24_0⟩ := Q24
  have N24 := Fr.app N0 Nq24
  obtain ⟨h24, e24⟩ : ∃ h, T24.heap = h := ⟨_, rfl⟩
  rw [e24] at Kq24 q24_0
  have Z24 : n0 ≤ h24.size := Nat.le_trans Z21 Kq24.1
  have K24 : Keep h0 h24 [] := K21.trans Kq24 (by intro x q; simp only [List.mem_cons, List.not_mem_nil, or_false] at q; rcases q with rfl; exact (Or.inr H21))
  have k24 : Go p e below m W T24 12 #[.val (.ref b1), .val (.int (0 : Int32)), .val (.int (2 : Int32)), .val (.ref b21), .unset, .unset] [(.int ro_24)] := k24
  rcases p24_0 with ⟨hs25, q26⟩ | ⟨hs27, q28⟩ | ⟨hs29, hs30, q31, q32⟩
  ·
    subst ro_24
    have k33 : Go p e below m W T24 14 #[.val (.ref b1), .val (.int (0 : Int32)), .val (.int (2 : Int32)), .val (.ref b21), .val (.int (0 : Int32)), .unset] [] := k24.istore X24 hx (hb hby d_rmcw1_12) rfl
    have k34 : Go p e below m W T24 23 #[.val (.ref b1), .val (.int (0 : Int32)), .val (.int (2 : Int32)), .val (.ref b21), .val (.int (0 : Int32)), .unset] [(.int (2 : Int32)), (.int (0 : Int32)), (.ref b1)] := (((((k33.iload X24 hx (hb hby d_rmcw1_14) rfl).iloadN X24 hx (hb hby d_rmcw1_16) rfl).icmpNo X24 hx (hb hby d_rmcw1_17) (XT.ii_eq_f (by decide))).aloadN X24 hx (hb hby d_rmcw1_20) rfl rfl).iloadN X24 hx (hb hby d_rmcw1_21) rfl).iloadN X24 hx (hb hby d_rmcw1_22) rfl
    have g_3 := (O0.ext E21).keep Kq24 (by intro x q; simp only [List.mem_cons, List.not_mem_nil, or_false] at q; rcases q with rfl; exact G21)
    have g_4 := g_1.keep Kq24 (by simp only [List.mem_cons, List.not_mem_nil, or_false, not_or]; exact g_2)
    obtain ⟨T35, v35, L35, X35, Q35, k35⟩ := k34.stat (y := (⟨"java/lang/StringUTF16", "toBytes", "([CII)[B"⟩ : MethodName)) (Wd := 0) (cells' := 2) (slots' := 6) (argsL := [(.ref b1), (.int (0 : Int32)), (.int (2 : Int32))]) (rest := []) X24 hx hZ hown (by rw [hml]; rfl) (hv 109 rfl) (hv 110 rfl) (hv 111 rfl) (hv 70 rfl) (hb hby d_rmcw1_23) (by decide) (rmtb2 l Z a0 hw [] b1 k1 x0 x1 h24 n0 Z24 g_3 SAD SHI SLO g_4) e24 rfl rfl pd_rmcw1_1 rfl (Nat.le_of_eq rfl) (by decide) (by decide) rfl rfl (by decide) (by decide)
    obtain ⟨ob_35, ok_35, rfl, Nq35, Kq35, q35_0, q35_1, q35_2⟩ := Q35
    have N35 := Fr.app N24 Nq35
    obtain ⟨h35, e35⟩ : ∃ h, T35.heap = h := ⟨_, rfl⟩
    rw [e35] at Kq35 q35_0
    have Z35 : n0 ≤ h35.size := Nat.le_trans Z24 Kq35.1
    have K35 : Keep h0 h35 [] := K24.trans Kq35 (fun x q => absurd q List.not_mem_nil)
    have H36 : h0.size ≤ ob_35 := Nat.le_trans K24.1 q35_2
    have k35 : Go p e below m W T35 26 #[.val (.ref b1), .val (.int (0 : Int32)), .val (.int (2 : Int32)), .val (.ref b21), .val (.int (0 : Int32)), .unset] [(.ref ob_35)] := k35
    have k37 : Go p e below m W T35 28 #[.val (.ref b1), .val (.int (0 : Int32)), .val (.int (2 : Int32)), .val (.ref b21), .val (.int (0 : Int32)), .val (.ref ob_35)] [] := k35.astore X35 hx (hb hby d_rmcw1_26) rfl rfl
    have k38 : Go p e below m W T35 32 #[.val (.ref b1), .val (.int (0 : Int32)), .val (.int (2 : Int32)), .val (.ref b21), .val (.int (0 : Int32)), .val (.ref ob_35)] [(.int (0 : Int32)), (.ref ob_35)] := (k37.aload X35 hx (hb hby d_rmcw1_28) rfl rfl).iload X35 hx (hb hby d_rmcw1_30) rfl
    have g_5 := g_3.keep Kq35 (fun x q => absurd q List.not_mem_nil)
    obtain ⟨T39, v39, L39, X39, Q39, k39⟩ := k38.stat (y := (⟨"java/lang/StringUTF16", "getChar", "([BI)C"⟩ : MethodName)) (Wd := 0) (cells' := 2) (slots' := 6) (argsL := [(.ref ob_35), (.int (0 : Int32))]) (rest := []) X35 hx hZ hown (by rw [hml]; rfl) (hv 125 rfl) (hv 126 rfl) (hv 127 rfl) (hv 70 rfl) (hb hby d_rmcw1_32) (by decide) (rmgc l Z a0 hw [] ob_35 (0 : Int32) ok_35 (4 : Int32) ([(.int (own_b0 x0)), (.int (own_b1 x0)), (.int (own_b0 x1)), (.int (own_b1 x1))]) 4 0 (own_b0 x0) (own_b1 x0) x0 h35 n0 Z35 g_5 SAD SHI SLO q35_0 (by decide) (by decide) (by decide) (by decide) rfl (by decide) (by decide) (by decide) rfl (own_chr R0) R0) e35 rfl rfl pd_rmua_1 rfl (Nat.le_of_eq rfl) (by decide) (by decide) rfl rfl (by decide) (by decide)
    obtain ⟨rfl, Nq39, e39q⟩ := Q39
    have N39 := Fr.app N35 Nq39
    have e39 : T39.heap = h35 := e39q
    have k39 : Go p e below m W T39 35 #[.val (.ref b1), .val (.int (0 : Int32)), .val (.int (2 : Int32)), .val (.ref b21), .val (.int (0 : Int32)), .val (.ref ob_35)] [(.int x0)] := k39
    have k40 : Go p e below m W T39 56 #[.val (.ref b1), .val (.int (0 : Int32)), .val (.int (2 : Int32)), .val (.ref b21), .val (.int (0 : Int32)), .val (.ref ob_35)] [(.ref ob_35)] := ((k39.sipush X39 hx (hb hby d_rmcw1_35) (v := (255 : Int32)) rfl).icmpYes X39 hx (hb hby d_rmcw1_38) (XT.ii_gt_t hs25) (by decide) (by decide)).aload X39 hx (hb hby d_rmcw1_54) rfl rfl
    exact k40.areturn X39 hx Bd.returns rfl rfl (hb hby d_rmcw1_56) (BodyLoose.notSynchronized Bd) (by rw [e39]; exact ⟨ob_35, ok_35, (4 : Int32), [(.int (own_b0 x0)), (.int (own_b1 x0)), (.int (own_b0 x1)), (.int (own_b1 x1))], rfl, N39, K35, (Or.inr ⟨rfl, rfl⟩), q35_0, q35_1, H36⟩) (by decide) (by decide)
  ·
    subst ro_24
    have k41 : Go p e below m W T24 14 #[.val (.ref b1), .val (.int (0 : Int32)), .val (.int (2 : Int32)), .val (.ref b21), .val (.int (1 : Int32)), .unset] [] := k24.istore X24 hx (hb hby d_rmcw1_12) rfl
    have k42 : Go p e below m W T24 23 #[.val (.ref b1), .val (.int (0 : Int32)), .val (.int (2 : Int32)), .val (.ref b21), .val (.int (1 : Int32)), .unset] [(.int (2 : Int32)), (.int (0 : Int32)), (.ref b1)] := (((((k41.iload X24 hx (hb hby d_rmcw1_14) rfl).iloadN X24 hx (hb hby d_rmcw1_16) rfl).icmpNo X24 hx (hb hby d_rmcw1_17) (XT.ii_eq_f (by decide))).aloadN X24 hx (hb hby d_rmcw1_20) rfl rfl).iloadN X24 hx (hb hby d_rmcw1_21) rfl).iloadN X24 hx (hb hby d_rmcw1_22) rfl
    have g_6 := (O0.ext E21).keep Kq24 (by intro x q; simp only [List.mem_cons, List.not_mem_nil, or_false] at q; rcases q with rfl; exact G21)
    have g_7 := g_1.keep Kq24 (by simp only [List.mem_cons, List.not_mem_nil, or_false, not_or]; exact g_2)
    obtain ⟨T43, v43, L43, X43, Q43, k43⟩ := k42.stat (y := (⟨"java/lang/StringUTF16", "toBytes", "([CII)[B"⟩ : MethodName)) (Wd := 0) (cells' := 2) (slots' := 6) (argsL := [(.ref b1), (.int (0 : Int32)), (.int (2 : Int32))]) (rest := []) X24 hx hZ hown (by rw [hml]; rfl) (hv 109 rfl) (hv 110 rfl) (hv 111 rfl) (hv 70 rfl) (hb hby d_rmcw1_23) (by decide) (rmtb2 l Z a0 hw [] b1 k1 x0 x1 h24 n0 Z24 g_6 SAD SHI SLO g_7) e24 rfl rfl pd_rmcw1_1 rfl (Nat.le_of_eq rfl) (by decide) (by decide) rfl rfl (by decide) (by decide)
    obtain ⟨ob_43, ok_43, rfl, Nq43, Kq43, q43_0, q43_1, q43_2⟩ := Q43
    have N43 := Fr.app N24 Nq43
    obtain ⟨h43, e43⟩ : ∃ h, T43.heap = h := ⟨_, rfl⟩
    rw [e43] at Kq43 q43_0
    have Z43 : n0 ≤ h43.size := Nat.le_trans Z24 Kq43.1
    have K43 : Keep h0 h43 [] := K24.trans Kq43 (fun x q => absurd q List.not_mem_nil)
    have H44 : h0.size ≤ ob_43 := Nat.le_trans K24.1 q43_2
    have k43 : Go p e below m W T43 26 #[.val (.ref b1), .val (.int (0 : Int32)), .val (.int (2 : Int32)), .val (.ref b21), .val (.int (1 : Int32)), .unset] [(.ref ob_43)] := k43
    have k45 : Go p e below m W T43 28 #[.val (.ref b1), .val (.int (0 : Int32)), .val (.int (2 : Int32)), .val (.ref b21), .val (.int (1 : Int32)), .val (.ref ob_43)] [] := k43.astore X43 hx (hb hby d_rmcw1_26) rfl rfl
    have k46 : Go p e below m W T43 32 #[.val (.ref b1), .val (.int (0 : Int32)), .val (.int (2 : Int32)), .val (.ref b21), .val (.int (1 : Int32)), .val (.ref ob_43)] [(.int (1 : Int32)), (.ref ob_43)] := (k45.aload X43 hx (hb hby d_rmcw1_28) rfl rfl).iload X43 hx (hb hby d_rmcw1_30) rfl
    have g_8 := g_6.keep Kq43 (fun x q => absurd q List.not_mem_nil)
    obtain ⟨T47, v47, L47, X47, Q47, k47⟩ := k46.stat (y := (⟨"java/lang/StringUTF16", "getChar", "([BI)C"⟩ : MethodName)) (Wd := 0) (cells' := 2) (slots' := 6) (argsL := [(.ref ob_43), (.int (1 : Int32))]) (rest := []) X43 hx hZ hown (by rw [hml]; rfl) (hv 125 rfl) (hv 126 rfl) (hv 127 rfl) (hv 70 rfl) (hb hby d_rmcw1_32) (by decide) (rmgc l Z a0 hw [] ob_43 (1 : Int32) ok_43 (4 : Int32) ([(.int (own_b0 x0)), (.int (own_b1 x0)), (.int (own_b0 x1)), (.int (own_b1 x1))]) 4 2 (own_b0 x1) (own_b1 x1) x1 h43 n0 Z43 g_8 SAD SHI SLO q43_0 (by decide) (by decide) (by decide) (by decide) rfl (by decide) (by decide) (by decide) rfl (own_chr R1) R1) e43 rfl rfl pd_rmua_1 rfl (Nat.le_of_eq rfl) (by decide) (by decide) rfl rfl (by decide) (by decide)
    obtain ⟨rfl, Nq47, e47q⟩ := Q47
    have N47 := Fr.app N43 Nq47
    have e47 : T47.heap = h43 := e47q
    have k47 : Go p e below m W T47 35 #[.val (.ref b1), .val (.int (0 : Int32)), .val (.int (2 : Int32)), .val (.ref b21), .val (.int (1 : Int32)), .val (.ref ob_43)] [(.int x1)] := k47
    have k48 : Go p e below m W T47 56 #[.val (.ref b1), .val (.int (0 : Int32)), .val (.int (2 : Int32)), .val (.ref b21), .val (.int (1 : Int32)), .val (.ref ob_43)] [(.ref ob_43)] := ((k47.sipush X47 hx (hb hby d_rmcw1_35) (v := (255 : Int32)) rfl).icmpYes X47 hx (hb hby d_rmcw1_38) (XT.ii_gt_t hs27) (by decide) (by decide)).aload X47 hx (hb hby d_rmcw1_54) rfl rfl
    exact k48.areturn X47 hx Bd.returns rfl rfl (hb hby d_rmcw1_56) (BodyLoose.notSynchronized Bd) (by rw [e47]; exact ⟨ob_43, ok_43, (4 : Int32), [(.int (own_b0 x0)), (.int (own_b1 x0)), (.int (own_b0 x1)), (.int (own_b1 x1))], rfl, N47, K43, (Or.inr ⟨rfl, rfl⟩), q43_0, q43_1, H44⟩) (by decide) (by decide)
  ·
    subst ro_24
    subst vs_24
    have k49 : Go p e below m W T24 14 #[.val (.ref b1), .val (.int (0 : Int32)), .val (.int (2 : Int32)), .val (.ref b21), .val (.int (2 : Int32)), .unset] [] := k24.istore X24 hx (hb hby d_rmcw1_12) rfl
    have k50 : Go p e below m W T24 58 #[.val (.ref b1), .val (.int (0 : Int32)), .val (.int (2 : Int32)), .val (.ref b21), .val (.int (2 : Int32)), .unset] [(.ref b21)] := (((k49.iload X24 hx (hb hby d_rmcw1_14) rfl).iloadN X24 hx (hb hby d_rmcw1_16) rfl).icmpYes X24 hx (hb hby d_rmcw1_17) (XT.ii_eq_t (by decide)) (by decide) (by decide)).aloadN X24 hx (hb hby d_rmcw1_57) rfl rfl
    exact k50.areturn X24 hx Bd.returns rfl rfl (hb hby d_rmcw1_58) (BodyLoose.notSynchronized Bd) (by rw [e24]; exact ⟨b21, c21, (2 : Int32), [(.int (x0).toInt8.toInt32), (.int (x1).toInt8.toInt32)], rfl, N24, K24, (Or.inl ⟨hs29, hs30, rfl, rfl⟩), q24_0, G21, H21⟩) (by decide) (by decide)

theorem ef_rmcf2_2 (m : MethodId) (a1 : Addr) : entryFrame m #[(.ref a1), (.int (2 : Int32))] 2 = mkF m 0 #[.val (.ref a1), .val (.int (2 : Int32))] [] := by first | (simp [entryFrame, mkF, argsToLocals, Value.category]; done) | rfl
def Q_rmcf2_2 (Z : State) (a1 : Addr) (kb : ClassId) (vs : List Value) (h0 : Heap) (n0 : Nat) (v : Option Value) (h : Heap) (L : List Loc) : Prop := v = some (.int (0 : Int32)) ∧ Fr n0 L ∧ h = h0
set_option maxRecDepth 65536 in
set_option maxHeartbeats 40000000 in
theorem rmcf2_2 (l : Launch) (Z : State) (a0 : Array Value) (hw : ∀ d ∈ tables_1, d.before a0 Z = true) (ws : List Jvm.Cond) (a1 : Addr) (kb : ClassId) (vs : List Value) (h0 : Heap) (n0 : Nat) (Z0 : n0 ≤ h0.size) (V1 : Arv Z h0 a1 kb .byte (2 : Int32) vs (.int (0 : Int32))) :
    MetFree l (⟨"java/lang/StringUTF16", "coderFromArrayLen", "([BI)B"⟩ : MethodName) (head1 (Jvm.Cond.code (⟨"java/lang/StringUTF16", "coderFromArrayLen", "([BI)B"⟩ : MethodName) jdk_52_method_15_code 2 (some .byte) :: ws) ({ frames := 0, cells := 0, slots := 0, locals := 0 } : Room)) (fun a U => a = #[(.ref a1), (.int (2 : Int32))] ∧ Z.Warmed39 U.vm ∧ U.heap = h0) (fun _ _ _ _ _ => True) (fun _ U o U' => ∃ v L, o = .returned v ∧ Q_rmcf2_2 Z a1 kb vs h0 n0 v U'.heap L ∧ FrameEnd U o U' L ({ frames := 0, cells := 0, slots := 0, locals := 0 } : Room).cells ({ frames := 0, cells := 0, slots := 0, locals := 0 } : Room).slots) := by
  refine MetFree.of_bodySF (plainFor_of_name pn_rmgc) hisR ?_
  intro p e s m args_ below meth c s₁ Bd hml0 hP hK
  obtain ⟨hargs, hZ, hh⟩ := hP
  have hx := Bd.exec
  have hby := Bd.bytes
  have hml : c.maxLocals = 2 := hml0
  have hown : s.vm.findClass "java/lang/StringUTF16" = some m.cls := findClass_of_methodNamed Bd.named
  have hnm := (name_of_methodNamed Bd.named Bd.method).1
  have X0 : Stand p l e ({ frames := 0, cells := 0, slots := 0, locals := 0 } : Room) s m args_ below meth c s₁ [] 0 0 := Stand.of_body Bd
  have e0 : s₁.heap = h0 := by rw [← hh, Bd.state]; rfl
  have N0 := Fr.nil n0
  have hv : ∀ (i : Nat) {d : Jvm.Cond}, tables_1[i]? = some d → d.before a0 Z = true := fun i d q => hw d (List.mem_of_getElem? q)
  have k0 : Go p e below m (s₁.setTop (entryFrame m args_ 2)) s₁ 0 #[.val (.ref a1), .val (.int (2 : Int32))] [] := by rw [hargs]; exact fun t kt => castTop (ef_rmcf2_2 m a1) kt
  obtain ⟨W, hWW⟩ : ∃ W, W = s₁.setTop (entryFrame m args_ 2) := ⟨_, rfl⟩
  rw [← hWW] at k0 ⊢
  show Done p e below s W (Q_rmcf2_2 Z a1 kb vs h0 n0) ({ frames := 0, cells := 0, slots := 0, locals := 0 } : Room).cells ({ frames := 0, cells := 0, slots := 0, locals := 0 } : Room).slots
  have k20 : Go p e below m W s₁ 2 #[.val (.ref a1), .val (.int (2 : Int32))] [(.ref a1), (.int (2 : Int32))] := (k0.iloadN X0 hx (hb hby d_rmcf1_1_0) rfl).aloadN X0 hx (hb hby d_rmcf1_1_1) rfl rfl
  have k21 : Go p e below m W s₁ 8 #[.val (.ref a1), .val (.int (2 : Int32))] [(.int (0 : Int32))] := (((((((k20.arraylength X0 hx hZ e0 V1 (hb hby d_rmcf1_1_2)).isub X0 hx (hb hby d_rmcf1_1_3)).cast (y := (0 : Int32)) (by decide)).bipush X0 hx (hb hby d_rmcf1_1_4) (v := (31 : Int32)) rfl).iushr X0 hx (hb hby d_rmcf1_1_6)).cast (y := (0 : Int32)) (by decide)).i2b X0 hx (hb hby d_rmcf1_1_7)).cast (y := (0 : Int32)) (by decide)
  exact k21.ireturnN X0 hx (t := .byte) Bd.returns (by simp) rfl (hb hby d_rmcf1_1_8) (BodyLoose.notSynchronized Bd) (by rw [e0]; exact ⟨rfl, N0, rfl⟩) (by decide) (by decide)

theorem ef_rmcf2_4 (m : MethodId) (a1 : Addr) : entryFrame m #[(.ref a1), (.int (2 : Int32))] 2 = mkF m 0 #[.val (.ref a1), .val (.int (2 : Int32))] [] := by first | (simp [entryFrame, mkF, argsToLocals, Value.category]; done) | rfl
def Q_rmcf2_4 (Z : State) (a1 : Addr) (kb : ClassId) (vs : List Value) (h0 : Heap) (n0 : Nat) (v : Option Value) (h : Heap) (L : List Loc) : Prop := v = some (.int (1 : Int32)) ∧ Fr n0 L ∧ h = h0
set_option maxRecDepth 65536 in
set_option maxHeartbeats 40000000 in
theorem rmcf2_4 (l : Launch) (Z : State) (a0 : Array Value) (hw : ∀ d ∈ tables_1, d.before a0 Z = true) (ws : List Jvm.Cond) (a1 : Addr) (kb : ClassId) (vs : List Value) (h0 : Heap) (n0 : Nat) (Z0 : n0 ≤ h0.size) (V1 : Arv Z h0 a1 kb .byte (4 : Int32) vs (.int (0 : Int32))) :
    MetFree l (⟨"java/lang/StringUTF16", "coderFromArrayLen", "([BI)B"⟩ : MethodName) (head1 (Jvm.Cond.code (⟨"java/lang/StringUTF16", "coderFromArrayLen", "([BI)B"⟩ : MethodName) jdk_52_method_15_code 2 (some .byte) :: ws) ({ frames := 0, cells := 0, slots := 0, locals := 0 } : Room)) (fun a U => a = #[(.ref a1), (.int (2 : Int32))] ∧ Z.Warmed39 U.vm ∧ U.heap = h0) (fun _ _ _ _ _ => True) (fun _ U o U' => ∃ v L, o = .returned v ∧ Q_rmcf2_4 Z a1 kb vs h0 n0 v U'.heap L ∧ FrameEnd U o U' L ({ frames := 0, cells := 0, slots := 0, locals := 0 } : Room).cells ({ frames := 0, cells := 0, slots := 0, locals := 0 } : Room).slots) := by
  refine MetFree.of_bodySF (plainFor_of_name pn_rmgc) hisR ?_
  intro p e s m args_ below meth c s₁ Bd hml0 hP hK
  obtain ⟨hargs, hZ, hh⟩ := hP
  have hx := Bd.exec
  have hby := Bd.bytes
  have hml : c.maxLocals = 2 := hml0
  have hown : s.vm.findClass "java/lang/StringUTF16" = some m.cls := findClass_of_methodNamed Bd.named
  have hnm := (name_of_methodNamed Bd.named Bd.method).1
  have X0 : Stand p l e ({ frames := 0, cells := 0, slots := 0, locals := 0 } : Room) s m args_ below meth c s₁ [] 0 0 := Stand.of_body Bd
  have e0 : s₁.heap = h0 := by rw [← hh, Bd.state]; rfl
  have N0 := Fr.nil n0
  have hv : ∀ (i : Nat) {d : Jvm.Cond}, tables_1[i]? = some d → d.before a0 Z = true := fun i d q => hw d (List.mem_of_getElem? q)
  have k0 : Go p e below m (s₁.setTop (entryFrame m args_ 2)) s₁ 0 #[.val (.ref a1), .val (.int (2 : Int32))] [] := by rw [hargs]; exact fun t kt => castTop (ef_rmcf2_4 m a1) kt
  obtain ⟨W, hWW⟩ : ∃ W, W = s₁.setTop (entryFrame m args_ 2) := ⟨_, rfl⟩
  rw [← hWW] at k0 ⊢
  show Done p e below s W (Q_rmcf2_4 Z a1 kb vs h0 n0) ({ frames := 0, cells := 0, slots := 0, locals := 0 } : Room).cells ({ frames := 0, cells := 0, slots := 0, locals := 0 } : Room).slots
  have k20 : Go p e below m W s₁ 2 #[.val (.ref a1), .val (.int (2 : Int32))] [(.ref a1), (.int (2 : Int32))] := (k0.iloadN X0 hx (hb hby d_rmcf1_1_0) rfl).aloadN X0 hx (hb hby d_rmcf1_1_1) rfl rfl
  have k21 : Go p e below m W s₁ 8 #[.val (.ref a1), .val (.int (2 : Int32))] [(.int (1 : Int32))] := (((((((k20.arraylength X0 hx hZ e0 V1 (hb hby d_rmcf1_1_2)).isub X0 hx (hb hby d_rmcf1_1_3)).cast (y := (-2 : Int32)) (by decide)).bipush X0 hx (hb hby d_rmcf1_1_4) (v := (31 : Int32)) rfl).iushr X0 hx (hb hby d_rmcf1_1_6)).cast (y := (1 : Int32)) (by decide)).i2b X0 hx (hb hby d_rmcf1_1_7)).cast (y := (1 : Int32)) (by decide)
  exact k21.ireturnN X0 hx (t := .byte) Bd.returns (by simp) rfl (hb hby d_rmcf1_1_8) (BodyLoose.notSynchronized Bd) (by rw [e0]; exact ⟨rfl, N0, rfl⟩) (by decide) (by decide)

theorem ef_rmi4_2 (m : MethodId) (a1 : Addr) (b1 : Addr) : entryFrame m #[(.ref a1), (.ref b1), (.int (0 : Int32)), (.int (2 : Int32)), .null] 6 = mkF m 0 #[.val (.ref a1), .val (.ref b1), .val (.int (0 : Int32)), .val (.int (2 : Int32)), .val .null, .unset] [] := by first | (simp [entryFrame, mkF, argsToLocals, Value.category]; done) | rfl
def Q_rmi4_2 (Z : State) (a1 : Addr) (b1 : Addr) (k1 : ClassId) (x0 : Int32) (x1 : Int32) (u0 : Value) (u1 : Value) (cz : Int32) (h0 : Heap) (n0 : Nat) (v : Option Value) (h : Heap) (L : List Loc) : Prop := ∃ (ot : Addr) (ok : ClassId) (zz : Int32) (cd : Int32) (vs : List Value), v = none ∧ Fr n0 L ∧ Keep h0 h [a1] ∧ (own_Enc [x0, x1] zz cd vs) ∧ Exa Z h a1 "java/lang/String" ∧ Fld Z h a1 "java/lang/String" "value" "[B" (.ref ot) ∧ Fld Z h a1 "java/lang/String" "coder" "B" (.int cd) ∧ Arv Z h ot ok .byte zz vs (.int (0 : Int32))
set_option maxRecDepth 65536 in
set_option maxHeartbeats 40000000 in
theorem rmi4_2 (l : Launch) (Z : State) (a0 : Array Value) (hw : ∀ d ∈ tables_1, d.before a0 Z = true) (ws : List Jvm.Cond) (a1 : Addr) (b1 : Addr) (k1 : ClassId) (x0 : Int32) (x1 : Int32) (u0 : Value) (u1 : Value) (cz : Int32) (h0 : Heap) (n0 : Nat) (Z0 : n0 ≤ h0.size) (O0 : Old Z n0 h0) (SCZ : Sta Z Z.heap "java/lang/String" "COMPACT_STRINGS" "Z" (.int cz)) (hcz : ¬ (cz = (0 : Int32))) (SAD : Sta Z Z.heap "java/lang/StringUTF16" "$assertionsDisabled" "Z" (.int (1 : Int32))) (SHI : Sta Z Z.heap "java/lang/StringUTF16" "HI_BYTE_SHIFT" "I" (.int (0 : Int32))) (SLO : Sta Z Z.heap "java/lang/StringUTF16" "LO_BYTE_SHIFT" "I" (.int (8 : Int32))) (E1 : Exa Z h0 a1 "java/lang/String") (G1 : n0 ≤ a1) (F0 : Fld Z h0 a1 "java/lang/String" "value" "[B" u0) (F1 : Fld Z h0 a1 "java/lang/String" "coder" "B" u1) (V1 : Arv Z h0 b1 k1 .char (2 : Int32) [(.int x0), (.int x1)] (.int (0 : Int32))) (R0 : own_rk x0) (R1 : own_rk x1) :
    MetFree l (⟨"java/lang/String", "<init>", "([CIILjava/lang/Void;)V"⟩ : MethodName) (head1 (Jvm.Cond.code (⟨"java/lang/String", "<init>", "([CIILjava/lang/Void;)V"⟩ : MethodName) jdk_42_method_149_code 6 none :: ws) ({ frames := 4, cells := 2, slots := 6, locals := 57 } : Room)) (fun a U => a = #[(.ref a1), (.ref b1), (.int (0 : Int32)), (.int (2 : Int32)), .null] ∧ Z.Warmed39 U.vm ∧ U.heap = h0) (fun _ _ _ _ _ => True) (fun _ U o U' => ∃ v L, o = .returned v ∧ Q_rmi4_2 Z a1 b1 k1 x0 x1 u0 u1 cz h0 n0 v U'.heap L ∧ FrameEnd U o U' L ({ frames := 4, cells := 2, slots := 6, locals := 57 } : Room).cells ({ frames := 4, cells := 2, slots := 6, locals := 57 } : Room).slots) := by
  refine MetFree.of_bodySF (plainFor_of_name pn_rmci) hisR ?_
  intro p e s m args_ below meth c s₁ Bd hml0 hP hK
  obtain ⟨hargs, hZ, hh⟩ := hP
  have hx := Bd.exec
  have hby := Bd.bytes
  have hml : c.maxLocals = 6 := hml0
  have hown : s.vm.findClass "java/lang/String" = some m.cls := findClass_of_methodNamed Bd.named
  have hnm := (name_of_methodNamed Bd.named Bd.method).1
  have X0 : Stand p l e ({ frames := 4, cells := 2, slots := 6, locals := 57 } : Room) s m args_ below meth c s₁ [] 0 0 := Stand.of_body Bd
  have e0 : s₁.heap = h0 := by rw [← hh, Bd.state]; rfl
  have N0 := Fr.nil n0
  have hv : ∀ (i : Nat) {d : Jvm.Cond}, tables_1[i]? = some d → d.before a0 Z = true := fun i d q => hw d (List.mem_of_getElem? q)
  have K0 : Keep h0 h0 [a1] := Keep.refl _ _
  have k0 : Go p e below m (s₁.setTop (entryFrame m args_ 6)) s₁ 0 #[.val (.ref a1), .val (.ref b1), .val (.int (0 : Int32)), .val (.int (2 : Int32)), .val .null, .unset] [] := by rw [hargs]; exact fun t kt => castTop (ef_rmi4_2 m a1 b1) kt
  obtain ⟨W, hWW⟩ : ∃ W, W = s₁.setTop (entryFrame m args_ 6) := ⟨_, rfl⟩
  rw [← hWW] at k0 ⊢
  show Done p e below s W (Q_rmi4_2 Z a1 b1 k1 x0 x1 u0 u1 cz h0 n0) ({ frames := 4, cells := 2, slots := 6, locals := 57 } : Room).cells ({ frames := 4, cells := 2, slots := 6, locals := 57 } : Room).slots
  have k20 : Go p e below m W s₁ 1 #[.val (.ref a1), .val (.ref b1), .val (.int (0 : Int32)), .val (.int (2 : Int32)), .val .null, .unset] [(.ref a1)] := k0.aloadN X0 hx (hb hby d_rms4_0) rfl rfl
  obtain ⟨T21, X21, e21, k21⟩ := k20.initO (Wd := 0) X0 hx hZ hown (by rw [hml]; rfl) (hv 27 rfl) (hv 28 rfl) (hv 29 rfl) e0 (hb hby d_rms4_1) (Nat.le_of_eq rfl) (by decide) (by decide)
  have k21 : Go p e below m W T21 4 #[.val (.ref a1), .val (.ref b1), .val (.int (0 : Int32)), .val (.int (2 : Int32)), .val .null, .unset] [] := k21
  have k22 : Go p e below m W T21 27 #[.val (.ref a1), .val (.ref b1), .val (.int (0 : Int32)), .val (.int (2 : Int32)), .val .null, .unset] [] := (k21.iloadN X21 hx (hb hby d_rms4_4) rfl).ifYes X21 hx (hb hby d_rms4_5) (XT.i0_ne_t (by decide)) (by decide) (by decide)
  obtain ⟨T23, X23, e23, k23⟩ := k22.getS X21 hx hZ hown (host := "") (Or.inl (hv 52 rfl)) Via.refl e21 (SCZ.ext O0.2) (hb hby d_rms4_27)
  have k23 : Go p e below m W T23 30 #[.val (.ref a1), .val (.ref b1), .val (.int (0 : Int32)), .val (.int (2 : Int32)), .val .null, .unset] [(.int cz)] := k23
  have k24 : Go p e below m W T23 36 #[.val (.ref a1), .val (.ref b1), .val (.int (0 : Int32)), .val (.int (2 : Int32)), .val .null, .unset] [(.int (2 : Int32)), (.int (0 : Int32)), (.ref b1)] := (((k23.ifNo X23 hx (hb hby d_rms4_30) (XT.i0_eq_f hcz)).aloadN X23 hx (hb hby d_rms4_33) rfl rfl).iloadN X23 hx (hb hby d_rms4_34) rfl).iloadN X23 hx (hb hby d_rms4_35) rfl
  obtain ⟨T25, v25, L25, X25, Q25, k25⟩ := k24.stat (y := (⟨"java/lang/StringUTF16", "compress", "([CII)[B"⟩ : MethodName)) (Wd := 0) (cells' := 2) (slots' := 6) (argsL := [(.ref b1), (.int (0 : Int32)), (.int (2 : Int32))]) (rest := []) X23 hx hZ hown (by rw [hml]; rfl) (hv 68 rfl) (hv 69 rfl) (hv 71 rfl) (hv 70 rfl) (hb hby d_rms4_36) (by decide) (rmcw2 l Z a0 hw [] b1 k1 x0 x1 h0 n0 Z0 O0 SAD SHI SLO V1 R0 R1) e23 rfl rfl pd_rmcw1_1 rfl (Nat.le_of_eq rfl) (by decide) (by decide) rfl rfl (by decide) (by decide)
  obtain ⟨ob_25, ok_25, zz_25, vs_25, rfl, Nq25, Kq25, p25_0, q25_0, q25_1, q25_2⟩ := Q25
  have N25 := Fr.app N0 Nq25
  obtain ⟨h25, e25⟩ : ∃ h, T25.heap = h := ⟨_, rfl⟩
  rw [e25] at Kq25 q25_0
  have Z25 : n0 ≤ h25.size := Nat.le_trans Z0 Kq25.1
  have K25 : Keep h0 h25 [a1] := K0.trans Kq25 (fun x q => absurd q List.not_mem_nil)
  have H26 : h0.size ≤ ob_25 := Nat.le_trans K0.1 q25_2
  have k25 : Go p e below m W T25 39 #[.val (.ref a1), .val (.ref b1), .val (.int (0 : Int32)), .val (.int (2 : Int32)), .val .null, .unset] [(.ref ob_25)] := k25
  rcases p25_0 with ⟨hs27, hs28, q29, q30⟩ | ⟨q31, q32⟩
  ·
    subst zz_25
    subst vs_25
    have k33 : Go p e below m W T25 41 #[.val (.ref a1), .val (.ref b1), .val (.int (0 : Int32)), .val (.int (2 : Int32)), .val .null, .val (.ref ob_25)] [] := k25.astore X25 hx (hb hby d_rms4_39) rfl rfl
    have k34 : Go p e below m W T25 45 #[.val (.ref a1), .val (.ref b1), .val (.int (0 : Int32)), .val (.int (2 : Int32)), .val .null, .val (.ref ob_25)] [(.int (2 : Int32)), (.ref ob_25), (.ref a1)] := ((k33.aloadN X25 hx (hb hby d_rms4_41) rfl rfl).aload X25 hx (hb hby d_rms4_42) rfl rfl).iloadN X25 hx (hb hby d_rms4_44) rfl
    obtain ⟨T35, v35, L35, X35, Q35, k35⟩ := k34.stat (y := (⟨"java/lang/StringUTF16", "coderFromArrayLen", "([BI)B"⟩ : MethodName)) (Wd := 1) (cells' := 2) (slots' := 6) (argsL := [(.ref ob_25), (.int (2 : Int32))]) (rest := [(.ref a1)]) X25 hx hZ hown (by rw [hml]; rfl) (hv 75 rfl) (hv 76 rfl) (hv 77 rfl) (hv 70 rfl) (hb hby d_rms4_45) (by decide) (rmcf2_2 l Z a0 hw [] ob_25 ok_25 ([(.int (x0).toInt8.toInt32), (.int (x1).toInt8.toInt32)]) h25 n0 Z25 q25_0) e25 rfl rfl pd_rmi4_1_1 rfl (Nat.le_of_eq rfl) (by decide) (by decide) rfl rfl (by decide) (by decide)
    obtain ⟨rfl, Nq35, e35q⟩ := Q35
    have N35 := Fr.app N25 Nq35
    have e35 : T35.heap = h25 := e35q
    have k35 : Go p e below m W T35 48 #[.val (.ref a1), .val (.ref b1), .val (.int (0 : Int32)), .val (.int (2 : Int32)), .val .null, .val (.ref ob_25)] [(.int (0 : Int32)), (.ref a1)] := k35
    have g_1 := F1.keep Kq25 (List.not_mem_nil)
    have g_2 := E1.keep Kq25
    obtain ⟨T36, h36, l36, X36, e36, W36, N36, k36⟩ := k35.putF X35 hx hZ hown (host := "") (Or.inl (hv 37 rfl)) Via.refl e35 g_1 g_2 (Or.inr ⟨(hv 33 rfl), rfl, hnm⟩) (hv 18 rfl) (ty := .byte) (by decide) rfl rfl N35 G1 (hb hby d_rms4_48)
    have k36 : Go p e below m W T36 51 #[.val (.ref a1), .val (.ref b1), .val (.int (0 : Int32)), .val (.int (2 : Int32)), .val .null, .val (.ref ob_25)] [] := k36
    have Z36 : n0 ≤ h36.size := (Wr.size W36).symm ▸ Z25
    have K36 : Keep h0 h36 [a1] := K25.wr W36 (Or.inl (List.mem_of_getElem? (i := 0) rfl))
    have k37 : Go p e below m W T36 54 #[.val (.ref a1), .val (.ref b1), .val (.int (0 : Int32)), .val (.int (2 : Int32)), .val .null, .val (.ref ob_25)] [(.ref ob_25), (.ref a1)] := (k36.aloadN X36 hx (hb hby d_rms4_51) rfl rfl).aload X36 hx (hb hby d_rms4_52) rfl rfl
    have g_3 := (F0.keep Kq25 (List.not_mem_nil)).other W36 (Or.inr (slot_ne (Or.inr (hv 32 rfl)) (Or.inr (hv 33 rfl)) (by decide) (by decide : parseFieldDescriptor "[B" = some (.array .byte)) (by decide : parseFieldDescriptor "B" = some .byte)))
    have g_4 := g_2.wr W36
    obtain ⟨T38, h38, l38, X38, e38, W38, N38, k38⟩ := k37.putF X36 hx hZ hown (host := "") (Or.inl (hv 36 rfl)) Via.refl e36 g_3 g_4 (Or.inr ⟨(hv 32 rfl), rfl, hnm⟩) (hv 18 rfl) (ty := (.array .byte)) (by decide) rfl rfl N36 G1 (hb hby d_rms4_54)
    have k38 : Go p e below m W T38 57 #[.val (.ref a1), .val (.ref b1), .val (.int (0 : Int32)), .val (.int (2 : Int32)), .val .null, .val (.ref ob_25)] [] := k38
    have Z38 : n0 ≤ h38.size := (Wr.size W38).symm ▸ Z36
    have K38 : Keep h0 h38 [a1] := K36.wr W38 (Or.inl (List.mem_of_getElem? (i := 0) rfl))
    have g_5 := g_4.wr W38
    have g_6 := g_3.same W38
    have g_7 := (g_1.same W36).other W38 (Or.inr (slot_ne (Or.inr (hv 33 rfl)) (Or.inr (hv 32 rfl)) (by decide) (by decide : parseFieldDescriptor "B" = some .byte) (by decide : parseFieldDescriptor "[B" = some (.array .byte))))
    have g_8 := (show a1 ≠ ob_25 from Nat.ne_of_lt (Nat.lt_of_lt_of_le E1.lt q25_2))
    have g_9 := (q25_0.other W36 (Ne.symm g_8)).other W38 (Ne.symm g_8)
    exact k38.return_ X38 hx Bd.returns (hb hby d_rms4_57) (BodyLoose.notSynchronized Bd) (by rw [e38]; exact ⟨ob_25, ok_25, (2 : Int32), (0 : Int32), [(.int (x0).toInt8.toInt32), (.int (x1).toInt8.toInt32)], rfl, N38, K38, (Or.inl ⟨rfl, rfl, rfl, (own_N1 hs27 (own_N1 hs28 own_N0))⟩), g_5, g_6, g_7, g_9⟩) (by decide) (by decide)
  ·
    subst zz_25
    subst vs_25
    have k39 : Go p e below m W T25 41 #[.val (.ref a1), .val (.ref b1), .val (.int (0 : Int32)), .val (.int (2 : Int32)), .val .null, .val (.ref ob_25)] [] := k25.astore X25 hx (hb hby d_rms4_39) rfl rfl
    have k40 : Go p e below m W T25 45 #[.val (.ref a1), .val (.ref b1), .val (.int (0 : Int32)), .val (.int (2 : Int32)), .val .null, .val (.ref ob_25)] [(.int (2 : Int32)), (.ref ob_25), (.ref a1)] := ((k39.aloadN X25 hx (hb hby d_rms4_41) rfl rfl).aload X25 hx (hb hby d_rms4_42) rfl rfl).iloadN X25 hx (hb hby d_rms4_44) rfl
    obtain ⟨T41, v41, L41, X41, Q41, k41⟩ := k40.stat (y := (⟨"java/lang/StringUTF16", "coderFromArrayLen", "([BI)B"⟩ : MethodName)) (Wd := 1) (cells' := 2) (slots' := 6) (argsL := [(.ref ob_25), (.int (2 : Int32))]) (rest := [(.ref a1)]) X25 hx hZ hown (by rw [hml]; rfl) (hv 75 rfl) (hv 76 rfl) (hv 77 rfl) (hv 70 rfl) (hb hby d_rms4_45) (by decide) (rmcf2_4 l Z a0 hw [] ob_25 ok_25 ([(.int (own_b0 x0)), (.int (own_b1 x0)), (.int (own_b0 x1)), (.int (own_b1 x1))]) h25 n0 Z25 q25_0) e25 rfl rfl pd_rmi4_1_1 rfl (Nat.le_of_eq rfl) (by decide) (by decide) rfl rfl (by decide) (by decide)
    obtain ⟨rfl, Nq41, e41q⟩ := Q41
    have N41 := Fr.app N25 Nq41
    have e41 : T41.heap = h25 := e41q
    have k41 : Go p e below m W T41 48 #[.val (.ref a1), .val (.ref b1), .val (.int (0 : Int32)), .val (.int (2 : Int32)), .val .null, .val (.ref ob_25)] [(.int (1 : Int32)), (.ref a1)] := k41
    have g_10 := F1.keep Kq25 (List.not_mem_nil)
    have g_11 := E1.keep Kq25
    obtain ⟨T42, h42, l42, X42, e42, W42, N42, k42⟩ := k41.putF X41 hx hZ hown (host := "") (Or.inl (hv 37 rfl)) Via.refl e41 g_10 g_11 (Or.inr ⟨(hv 33 rfl), rfl, hnm⟩) (hv 18 rfl) (ty := .byte) (by decide) rfl rfl N41 G1 (hb hby d_rms4_48)
    have k42 : Go p e below m W T42 51 #[.val (.ref a1), .val (.ref b1), .val (.int (0 : Int32)), .val (.int (2 : Int32)), .val .null, .val (.ref ob_25)] [] := k42
    have Z42 : n0 ≤ h42.size := (Wr.size W42).symm ▸ Z25
    have K42 : Keep h0 h42 [a1] := K25.wr W42 (Or.inl (List.mem_of_getElem? (i := 0) rfl))
    have k43 : Go p e below m W T42 54 #[.val (.ref a1), .val (.ref b1), .val (.int (0 : Int32)), .val (.int (2 : Int32)), .val .null, .val (.ref ob_25)] [(.ref ob_25), (.ref a1)] := (k42.aloadN X42 hx (hb hby d_rms4_51) rfl rfl).aload X42 hx (hb hby d_rms4_52) rfl rfl
    have g_12 := (F0.keep Kq25 (List.not_mem_nil)).other W42 (Or.inr (slot_ne (Or.inr (hv 32 rfl)) (Or.inr (hv 33 rfl)) (by decide) (by decide : parseFieldDescriptor "[B" = some (.array .byte)) (by decide : parseFieldDescriptor "B" = some .byte)))
    have g_13 := g_11.wr W42
    obtain ⟨T44, h44, l44, X44, e44, W44, N44, k44⟩ := k43.putF X42 hx hZ hown (host := "") (Or.inl (hv 36 rfl)) Via.refl e42 g_12 g_13 (Or.inr ⟨(hv 32 rfl), rfl, hnm⟩) (hv 18 rfl) (ty := (.array .byte)) (by decide) rfl rfl N42 G1 (hb hby d_rms4_54)
    have k44 : Go p e below m W T44 57 #[.val (.ref a1), .val (.ref b1), .val (.int (0 : Int32)), .val (.int (2 : Int32)), .val .null, .val (.ref ob_25)] [] := k44
    have Z44 : n0 ≤ h44.size := (Wr.size W44).symm ▸ Z42
    have K44 : Keep h0 h44 [a1] := K42.wr W44 (Or.inl (List.mem_of_getElem? (i := 0) rfl))
    have g_14 := g_13.wr W44
    have g_15 := g_12.same W44
    have g_16 := (g_10.same W42).other W44 (Or.inr (slot_ne (Or.inr (hv 33 rfl)) (Or.inr (hv 32 rfl)) (by decide) (by decide : parseFieldDescriptor "B" = some .byte) (by decide : parseFieldDescriptor "[B" = some (.array .byte))))
    have g_17 := (show a1 ≠ ob_25 from Nat.ne_of_lt (Nat.lt_of_lt_of_le E1.lt q25_2))
    have g_18 := (q25_0.other W42 (Ne.symm g_17)).other W44 (Ne.symm g_17)
    exact k44.return_ X44 hx Bd.returns (hb hby d_rms4_57) (BodyLoose.notSynchronized Bd) (by rw [e44]; exact ⟨ob_25, ok_25, (4 : Int32), (1 : Int32), [(.int (own_b0 x0)), (.int (own_b1 x0)), (.int (own_b0 x1)), (.int (own_b1 x1))], rfl, N44, K44, (Or.inr ⟨rfl, rfl, rfl⟩), g_14, g_15, g_16, g_18⟩) (by decide) (by decide)

theorem ef_rmi1_2 (m : MethodId) (a1 : Addr) (b1 : Addr) : entryFrame m #[(.ref a1), (.ref b1)] 2 = mkF m 0 #[.val (.ref a1), .val (.ref b1)] [] := by first | (simp [entryFrame, mkF, argsToLocals, Value.category]; done) | rfl
def Q_rmi1_2 (Z : State) (a1 : Addr) (b1 : Addr) (k1 : ClassId) (x0 : Int32) (x1 : Int32) (u0 : Value) (u1 : Value) (cz : Int32) (h0 : Heap) (n0 : Nat) (v : Option Value) (h : Heap) (L : List Loc) : Prop := ∃ (ot : Addr) (ok : ClassId) (zz : Int32) (cd : Int32) (vs : List Value), v = none ∧ Fr n0 L ∧ Keep h0 h [a1] ∧ (own_Enc [x0, x1] zz cd vs) ∧ Exa Z h a1 "java/lang/String" ∧ Fld Z h a1 "java/lang/String" "value" "[B" (.ref ot) ∧ Fld Z h a1 "java/lang/String" "coder" "B" (.int cd) ∧ Arv Z h ot ok .byte zz vs (.int (0 : Int32))
set_option maxRecDepth 65536 in
set_option maxHeartbeats 40000000 in
theorem rmi1_2 (l : Launch) (Z : State) (a0 : Array Value) (hw : ∀ d ∈ tables_1, d.before a0 Z = true) (ws : List Jvm.Cond) (a1 : Addr) (b1 : Addr) (k1 : ClassId) (x0 : Int32) (x1 : Int32) (u0 : Value) (u1 : Value) (cz : Int32) (h0 : Heap) (n0 : Nat) (Z0 : n0 ≤ h0.size) (O0 : Old Z n0 h0) (SCZ : Sta Z Z.heap "java/lang/String" "COMPACT_STRINGS" "Z" (.int cz)) (hcz : ¬ (cz = (0 : Int32))) (SAD : Sta Z Z.heap "java/lang/StringUTF16" "$assertionsDisabled" "Z" (.int (1 : Int32))) (SHI : Sta Z Z.heap "java/lang/StringUTF16" "HI_BYTE_SHIFT" "I" (.int (0 : Int32))) (SLO : Sta Z Z.heap "java/lang/StringUTF16" "LO_BYTE_SHIFT" "I" (.int (8 : Int32))) (E1 : Exa Z h0 a1 "java/lang/String") (G1 : n0 ≤ a1) (F0 : Fld Z h0 a1 "java/lang/String" "value" "[B" u0) (F1 : Fld Z h0 a1 "java/lang/String" "coder" "B" u1) (V1 : Arv Z h0 b1 k1 .char (2 : Int32) [(.int x0), (.int x1)] (.int (0 : Int32))) (R0 : own_rk x0) (R1 : own_rk x1) :
    MetFree l (⟨"java/lang/String", "<init>", "([C)V"⟩ : MethodName) (head1 (Jvm.Cond.code (⟨"java/lang/String", "<init>", "([C)V"⟩ : MethodName) jdk_42_method_3_code 2 none :: ws) ({ frames := 5, cells := 2, slots := 6, locals := 74 } : Room)) (fun a U => a = #[(.ref a1), (.ref b1)] ∧ Z.Warmed39 U.vm ∧ U.heap = h0) (fun _ _ _ _ _ => True) (fun _ U o U' => ∃ v L, o = .returned v ∧ Q_rmi1_2 Z a1 b1 k1 x0 x1 u0 u1 cz h0 n0 v U'.heap L ∧ FrameEnd U o U' L ({ frames := 5, cells := 2, slots := 6, locals := 74 } : Room).cells ({ frames := 5, cells := 2, slots := 6, locals := 74 } : Room).slots) := by
  refine MetFree.of_bodySF (plainFor_of_name pn_rmci) hisR ?_
  intro p e s m args_ below meth c s₁ Bd hml0 hP hK
  obtain ⟨hargs, hZ, hh⟩ := hP
  have hx := Bd.exec
  have hby := Bd.bytes
  have hml : c.maxLocals = 2 := hml0
  have hown : s.vm.findClass "java/lang/String" = some m.cls := findClass_of_methodNamed Bd.named
  have hnm := (name_of_methodNamed Bd.named Bd.method).1
  have X0 : Stand p l e ({ frames := 5, cells := 2, slots := 6, locals := 74 } : Room) s m args_ below meth c s₁ [] 0 0 := Stand.of_body Bd
  have e0 : s₁.heap = h0 := by rw [← hh, Bd.state]; rfl
  have N0 := Fr.nil n0
  have hv : ∀ (i : Nat) {d : Jvm.Cond}, tables_1[i]? = some d → d.before a0 Z = true := fun i d q => hw d (List.mem_of_getElem? q)
  have K0 : Keep h0 h0 [a1] := Keep.refl _ _
  have k0 : Go p e below m (s₁.setTop (entryFrame m args_ 2)) s₁ 0 #[.val (.ref a1), .val (.ref b1)] [] := by rw [hargs]; exact fun t kt => castTop (ef_rmi1_2 m a1 b1) kt
  obtain ⟨W, hWW⟩ : ∃ W, W = s₁.setTop (entryFrame m args_ 2) := ⟨_, rfl⟩
  rw [← hWW] at k0 ⊢
  show Done p e below s W (Q_rmi1_2 Z a1 b1 k1 x0 x1 u0 u1 cz h0 n0) ({ frames := 5, cells := 2, slots := 6, locals := 74 } : Room).cells ({ frames := 5, cells := 2, slots := 6, locals := 74 } : Room).slots
  have k20 : Go p e below m W s₁ 4 #[.val (.ref a1), .val (.ref b1)] [(.ref b1), (.int (0 : Int32)), (.ref b1), (.ref a1)] := (((k0.aloadN X0 hx (hb hby d_rms1_0) rfl rfl).aloadN X0 hx (hb hby d_rms1_1) rfl rfl).iconst X0 hx (hb hby d_rms1_2) (v := (0 : Int32)) rfl).aloadN X0 hx (hb hby d_rms1_3) rfl rfl
  have k21 : Go p e below m W s₁ 6 #[.val (.ref a1), .val (.ref b1)] [.null, (.int (2 : Int32)), (.int (0 : Int32)), (.ref b1), (.ref a1)] := (k20.arraylength X0 hx hZ e0 V1 (hb hby d_rms1_4)).aconstNull X0 hx (hb hby d_rms1_5)
  obtain ⟨T22, v22, L22, X22, Q22, k22⟩ := k21.spec (y := (⟨"java/lang/String", "<init>", "([CIILjava/lang/Void;)V"⟩ : MethodName)) (b := a1) (Wd := 0) (cells' := 2) (slots' := 6) (argsL := [(.ref b1), (.int (0 : Int32)), (.int (2 : Int32)), .null]) (rest := []) X0 hx hZ hown (by rw [hml]; rfl) rfl (hv 23 rfl) (hv 24 rfl) (hv 26 rfl) (hv 19 rfl) (hb hby d_rms1_6) (by decide) (rmi4_2 l Z a0 hw [] a1 b1 k1 x0 x1 u0 u1 cz h0 n0 Z0 O0 SCZ hcz SAD SHI SLO E1 G1 F0 F1 V1 R0 R1) e0 rfl rfl pd_rms1_0 rfl (Nat.le_of_eq rfl) (by decide) (by decide) rfl rfl (by decide) (by decide)
  obtain ⟨ot_22, ok_22, zz_22, cd_22, vs_22, rfl, Nq22, Kq22, p22_0, q22_0, q22_1, q22_2, q22_3⟩ := Q22
  have N22 := Fr.app N0 Nq22
  obtain ⟨h22, e22⟩ : ∃ h, T22.heap = h := ⟨_, rfl⟩
  rw [e22] at Kq22 q22_0 q22_1 q22_2 q22_3
  have Z22 : n0 ≤ h22.size := Nat.le_trans Z0 Kq22.1
  have K22 : Keep h0 h22 [a1] := K0.trans Kq22 (by intro x q; simp only [List.mem_cons, List.not_mem_nil, or_false] at q; rcases q with rfl; exact (Or.inl (List.mem_of_getElem? (i := 0) rfl)))
  have k22 : Go p e below m W T22 9 #[.val (.ref a1), .val (.ref b1)] [] := k22
  exact k22.return_ X22 hx Bd.returns (hb hby d_rms1_9) (BodyLoose.notSynchronized Bd) (by rw [e22]; exact ⟨ot_22, ok_22, zz_22, cd_22, vs_22, rfl, N22, K22, p22_0, q22_0, q22_1, q22_2, q22_3⟩) (by decide) (by decide)

theorem d_rmmk0_37 : decode method_5_code 37 = .ok (.iload_n 1, 1) := by decide +kernel
theorem d_rmmk0_38 : decode method_5_code 38 = .ok (.iconst 2, 1) := by decide +kernel
theorem d_rmmk0_39 : decode method_5_code 39 = .ok (.if_icmp .ne 26, 3) := by decide +kernel
theorem d_rmmk0_42 : decode method_5_code 42 = .ok (.new 14, 3) := by decide +kernel
theorem d_rmmk0_45 : decode method_5_code 45 = .ok (.dup, 1) := by decide +kernel
theorem d_rmmk0_46 : decode method_5_code 46 = .ok (.iconst 2, 1) := by decide +kernel
theorem d_rmmk0_47 : decode method_5_code 47 = .ok (.newarray .char, 2) := by decide +kernel
theorem d_rmmk0_49 : decode method_5_code 49 = .ok (.dup, 1) := by decide +kernel
theorem d_rmmk0_50 : decode method_5_code 50 = .ok (.iconst 0, 1) := by decide +kernel
theorem d_rmmk0_51 : decode method_5_code 51 = .ok (.aload_n 0, 1) := by decide +kernel
theorem d_rmmk0_52 : decode method_5_code 52 = .ok (.iconst 0, 1) := by decide +kernel
theorem d_rmmk0_53 : decode method_5_code 53 = .ok (.caload, 1) := by decide +kernel
theorem d_rmmk0_54 : decode method_5_code 54 = .ok (.castore, 1) := by decide +kernel
theorem d_rmmk0_55 : decode method_5_code 55 = .ok (.dup, 1) := by decide +kernel
theorem d_rmmk0_56 : decode method_5_code 56 = .ok (.iconst 1, 1) := by decide +kernel
theorem d_rmmk0_57 : decode method_5_code 57 = .ok (.aload_n 0, 1) := by decide +kernel
theorem d_rmmk0_58 : decode method_5_code 58 = .ok (.iconst 1, 1) := by decide +kernel
theorem d_rmmk0_59 : decode method_5_code 59 = .ok (.caload, 1) := by decide +kernel
theorem d_rmmk0_60 : decode method_5_code 60 = .ok (.castore, 1) := by decide +kernel
theorem d_rmmk0_61 : decode method_5_code 61 = .ok (.invokespecial 16, 3) := by decide +kernel
theorem d_rmmk0_64 : decode method_5_code 64 = .ok (.areturn, 1) := by decide +kernel
theorem ef_rmmk2 (m : MethodId) (b1 : Addr) : entryFrame m #[(.ref b1), (.int (2 : Int32))] 2 = mkF m 0 #[.val (.ref b1), .val (.int (2 : Int32))] [] := by first | (simp [entryFrame, mkF, argsToLocals, Value.category]; done) | rfl
def Q_rmmk2 (Z : State) (b1 : Addr) (k1 : ClassId) (x0 : Int32) (x1 : Int32) (x2 : Int32) (x3 : Int32) (cz : Int32) (h0 : Heap) (n0 : Nat) (v : Option Value) (h : Heap) (L : List Loc) : Prop := ∃ (ro : Addr), v = some (.ref ro) ∧ Fr n0 L ∧ Keep h0 h [] ∧ Exa Z h ro "java/lang/String" ∧ own_Str Z h ro [x0, x1] ∧ n0 ≤ ro ∧ h0.size ≤ ro
set_option maxRecDepth 65536 in
set_option maxHeartbeats 40000000 in
theorem rmmk2 (l : Launch) (Z : State) (a0 : Array Value) (hw : ∀ d ∈ tables_1, d.before a0 Z = true) (ws : List Jvm.Cond) (b1 : Addr) (k1 : ClassId) (x0 : Int32) (x1 : Int32) (x2 : Int32) (x3 : Int32) (cz : Int32) (h0 : Heap) (n0 : Nat) (Z0 : n0 ≤ h0.size) (O0 : Old Z n0 h0) (SCZ : Sta Z Z.heap "java/lang/String" "COMPACT_STRINGS" "Z" (.int cz)) (hcz : ¬ (cz = (0 : Int32))) (SAD : Sta Z Z.heap "java/lang/StringUTF16" "$assertionsDisabled" "Z" (.int (1 : Int32))) (SHI : Sta Z Z.heap "java/lang/StringUTF16" "HI_BYTE_SHIFT" "I" (.int (0 : Int32))) (SLO : Sta Z Z.heap "java/lang/StringUTF16" "LO_BYTE_SHIFT" "I" (.int (8 : Int32))) (V1 : Arv Z h0 b1 k1 .char (4 : Int32) [(.int x0), (.int x1), (.int x2), (.int x3)] (.int (0 : Int32))) (R0 : own_rk x0) (R1 : own_rk x1) :
    MetFree l (⟨"com/example/promovent/promovent/library/CodePointsComparePinLaw", "make", "([CI)Ljava/lang/String;"⟩ : MethodName) (head1 (Jvm.Cond.code (⟨"com/example/promovent/promovent/library/CodePointsComparePinLaw", "make", "([CI)Ljava/lang/String;"⟩ : MethodName) method_5_code 2 (some (.object "java/lang/String")) :: ws) ({ frames := 6, cells := 4, slots := 12, locals := 88 } : Room)) (fun a U => a = #[(.ref b1), (.int (2 : Int32))] ∧ Z.Warmed39 U.vm ∧ U.heap = h0) (fun _ _ _ _ _ => True) (fun _ U o U' => ∃ v L, o = .returned v ∧ Q_rmmk2 Z b1 k1 x0 x1 x2 x3 cz h0 n0 v U'.heap L ∧ FrameEnd U o U' L ({ frames := 6, cells := 4, slots := 12, locals := 88 } : Room).cells ({ frames := 6, cells := 4, slots := 12, locals := 88 } : Room).slots) := by
  refine MetFree.of_bodySF (plainFor_of_name pn_rmraw) hisR ?_
  intro p e s m args_ below meth c s₁ Bd hml0 hP hK
  obtain ⟨hargs, hZ, hh⟩ := hP
  have hx := Bd.exec
  have hby := Bd.bytes
  have hml : c.maxLocals = 2 := hml0
  have hown : s.vm.findClass "com/example/promovent/promovent/library/CodePointsComparePinLaw" = some m.cls := findClass_of_methodNamed Bd.named
  have hnm := (name_of_methodNamed Bd.named Bd.method).1
  have X0 : Stand p l e ({ frames := 6, cells := 4, slots := 12, locals := 88 } : Room) s m args_ below meth c s₁ [] 0 0 := Stand.of_body Bd
  have e0 : s₁.heap = h0 := by rw [← hh, Bd.state]; rfl
  have N0 := Fr.nil n0
  have hv : ∀ (i : Nat) {d : Jvm.Cond}, tables_1[i]? = some d → d.before a0 Z = true := fun i d q => hw d (List.mem_of_getElem? q)
  have K0 : Keep h0 h0 [] := Keep.refl _ _
  have k0 : Go p e below m (s₁.setTop (entryFrame m args_ 2)) s₁ 0 #[.val (.ref b1), .val (.int (2 : Int32))] [] := by rw [hargs]; exact fun t kt => castTop (ef_rmmk2 m b1) kt
  obtain ⟨W, hWW⟩ : ∃ W, W = s₁.setTop (entryFrame m args_ 2) := ⟨_, rfl⟩
  rw [← hWW] at k0 ⊢
  show Done p e below s W (Q_rmmk2 Z b1 k1 x0 x1 x2 x3 cz h0 n0) ({ frames := 6, cells := 4, slots := 12, locals := 88 } : Room).cells ({ frames := 6, cells := 4, slots := 12, locals := 88 } : Room).slots
  have k20 : Go p e below m W s₁ 42 #[.val (.ref b1), .val (.int (2 : Int32))] [] := (((((((k0.iloadN X0 hx (hb hby d_rmmk0_0) rfl).ifYes X0 hx (hb hby d_rmmk0_1) (XT.i0_ne_t (by decide)) (by decide) (by decide)).iloadN X0 hx (hb hby d_rmmk0_15) rfl).iconst X0 hx (hb hby d_rmmk0_16) (v := (1 : Int32)) rfl).icmpYes X0 hx (hb hby d_rmmk0_17) (XT.ii_ne_t (by decide)) (by decide) (by decide)).iloadN X0 hx (hb hby d_rmmk0_37) rfl).iconst X0 hx (hb hby d_rmmk0_38) (v := (2 : Int32)) rfl).icmpNo X0 hx (hb hby d_rmmk0_39) (XT.ii_ne_f (by decide))
  obtain ⟨T21, h21, b21, X21, e21, g21, E21, A21, D21, k21⟩ := k20.newO (cells' := 1) (slots' := 4) X0 hx hZ hown (hv 17 rfl) (hv 18 rfl) (hv 19 rfl) e0 (hb hby d_rmmk0_42) rfl rfl (by decide) (by decide)
  have k21 : Go p e below m W T21 45 #[.val (.ref b1), .val (.int (2 : Int32))] [(.ref b21)] := k21
  have Z21 : n0 ≤ h21.size := Nat.le_trans Z0 E21.1
  have G21 : n0 ≤ b21 := g21 ▸ Z0
  have H21 : h0.size ≤ b21 := g21 ▸ K0.1
  have K21 : Keep h0 h21 [] := K0.ext E21
  have f22 : Fld Z h21 b21 "java/lang/String" "value" "[B" .null := D21 (Or.inr (hv 32 rfl)) (ty := (.array .byte)) (by decide)
  have f23 : Fld Z h21 b21 "java/lang/String" "coder" "B" (.int (0 : Int32)) := D21 (Or.inr (hv 33 rfl)) (ty := .byte) (by decide)
  have k24 : Go p e below m W T21 47 #[.val (.ref b1), .val (.int (2 : Int32))] [(.int (2 : Int32)), (.ref b21), (.ref b21)] := (k21.dup X21 hx (hb hby d_rmmk0_45) rfl).iconst X21 hx (hb hby d_rmmk0_46) (v := (2 : Int32)) rfl
  obtain ⟨T25, h25, b25, c25, X25, e25, g25, E25, A25, k25⟩ := k24.newP (cap := 2) (cells' := 2) (slots' := 6) X21 hx hZ (hv 13 rfl) e21 (hb hby d_rmmk0_47) (by decide) (by decide) (by decide) rfl rfl (by decide) (by decide)
  have k25 : Go p e below m W T25 49 #[.val (.ref b1), .val (.int (2 : Int32))] [(.ref b25), (.ref b21), (.ref b21)] := k25
  have Z25 : n0 ≤ h25.size := Nat.le_trans Z21 E25.1
  have G25 : n0 ≤ b25 := g25 ▸ Z21
  have H25 : h0.size ≤ b25 := g25 ▸ K21.1
  have K25 : Keep h0 h25 [] := K21.ext E25
  have V25 : Arv Z h25 b25 c25 .char (2 : Int32) [(.int (0 : Int32)), (.int (0 : Int32))] (.int (0 : Int32)) := A25 2
  have k26 : Go p e below m W T25 53 #[.val (.ref b1), .val (.int (2 : Int32))] [(.int (0 : Int32)), (.ref b1), (.int (0 : Int32)), (.ref b25), (.ref b25), (.ref b21), (.ref b21)] := (((k25.dup X25 hx (hb hby d_rmmk0_49) rfl).iconst X25 hx (hb hby d_rmmk0_50) (v := (0 : Int32)) rfl).aloadN X25 hx (hb hby d_rmmk0_51) rfl rfl).iconst X25 hx (hb hby d_rmmk0_52) (v := (0 : Int32)) rfl
  have g_1 := (V1.ext E21).ext E25
  have k27 : Go p e below m W T25 54 #[.val (.ref b1), .val (.int (2 : Int32))] [(.int x0), (.int (0 : Int32)), (.ref b25), (.ref b25), (.ref b21), (.ref b21)] := k26.caload (i := 0) (n := 4) X25 hx hZ e25 g_1 rfl rfl (by decide) (by decide) rfl (hb hby d_rmmk0_53)
  obtain ⟨T28, h28, l28, X28, e28, W28, V28, N28, k28⟩ := k27.castore (i := 0) X25 hx hZ e25 V25 rfl rfl (by decide) (Nat.le_of_ble_eq_true rfl) N0 G25 (hb hby d_rmmk0_54)
  have k28 : Go p e below m W T28 55 #[.val (.ref b1), .val (.int (2 : Int32))] [(.ref b25), (.ref b21), (.ref b21)] := k28
  have Z28 : n0 ≤ h28.size := (Wr.size W28).symm ▸ Z25
  rw [own_narr R0] at V28
  have V28 : Arv Z h28 b25 c25 .char (2 : Int32) [(.int x0), (.int (0 : Int32))] (.int (0 : Int32)) := V28
  have K28 : Keep h0 h28 [] := K25.wr W28 (Or.inr H25)
  have k29 : Go p e below m W T28 59 #[.val (.ref b1), .val (.int (2 : Int32))] [(.int (1 : Int32)), (.ref b1), (.int (1 : Int32)), (.ref b25), (.ref b25), (.ref b21), (.ref b21)] := (((k28.dup X28 hx (hb hby d_rmmk0_55) rfl).iconst X28 hx (hb hby d_rmmk0_56) (v := (1 : Int32)) rfl).aloadN X28 hx (hb hby d_rmmk0_57) rfl rfl).iconst X28 hx (hb hby d_rmmk0_58) (v := (1 : Int32)) rfl
  have g_2 := V1.ext E21
  have g_3 := (show b1 ≠ b25 from Nat.ne_of_lt (g25 ▸ g_2.lt))
  have g_4 := g_1.other W28 g_3
  have k30 : Go p e below m W T28 60 #[.val (.ref b1), .val (.int (2 : Int32))] [(.int x1), (.int (1 : Int32)), (.ref b25), (.ref b25), (.ref b21), (.ref b21)] := k29.caload (i := 1) (n := 4) X28 hx hZ e28 g_4 rfl rfl (by decide) (by decide) rfl (hb hby d_rmmk0_59)
  obtain ⟨T31, h31, l31, X31, e31, W31, V31, N31, k31⟩ := k30.castore (i := 1) X28 hx hZ e28 V28 rfl rfl (by decide) (Nat.le_of_ble_eq_true rfl) N28 G25 (hb hby d_rmmk0_60)
  have k31 : Go p e below m W T31 61 #[.val (.ref b1), .val (.int (2 : Int32))] [(.ref b25), (.ref b21), (.ref b21)] := k31
  have Z31 : n0 ≤ h31.size := (Wr.size W31).symm ▸ Z28
  rw [own_narr R1] at V31
  have V31 : Arv Z h31 b25 c25 .char (2 : Int32) [(.int x0), (.int x1)] (.int (0 : Int32)) := V31
  have K31 : Keep h0 h31 [] := K28.wr W31 (Or.inr H25)
  have g_5 := (((O0.ext E21).ext E25).wr W28 G25).wr W31 G25
  have g_6 := ((A21.ext E25).wr W28).wr W31
  have g_7 := (show b21 ≠ b25 from Nat.ne_of_lt (g25 ▸ A21.lt))
  have g_8 := ((f22.ext E25).other W28 (Or.inl g_7)).other W31 (Or.inl g_7)
  have g_9 := ((f23.ext E25).other W28 (Or.inl g_7)).other W31 (Or.inl g_7)
  obtain ⟨T32, v32, L32, X32, Q32, k32⟩ := k31.spec (y := (⟨"java/lang/String", "<init>", "([C)V"⟩ : MethodName)) (b := b21) (Wd := 1) (cells' := 4) (slots' := 12) (argsL := [(.ref b25)]) (rest := [(.ref b21)]) X31 hx hZ hown (by rw [hml]; rfl) rfl (hv 20 rfl) (hv 21 rfl) (hv 22 rfl) (hv 19 rfl) (hb hby d_rmmk0_61) (by decide) (rmi1_2 l Z a0 hw [] b21 b25 c25 x0 x1 .null (.int (0 : Int32)) cz h31 n0 Z31 g_5 SCZ hcz SAD SHI SLO g_6 G21 g_8 g_9 V31 R0 R1) e31 rfl rfl pd_rmmk0_0 rfl (Nat.le_of_eq rfl) (by decide) (by decide) rfl rfl (by decide) (by decide)
  obtain ⟨ot_32, ok_32, zz_32, cd_32, vs_32, rfl, Nq32, Kq32, p32_0, q32_0, q32_1, q32_2, q32_3⟩ := Q32
  have N32 := Fr.app N31 Nq32
  obtain ⟨h32, e32⟩ : ∃ h, T32.heap = h := ⟨_, rfl⟩
  rw [e32] at Kq32 q32_0 q32_1 q32_2 q32_3
  have Z32 : n0 ≤ h32.size := Nat.le_trans Z31 Kq32.1
  have K32 : Keep h0 h32 [] := K31.trans Kq32 (by intro x q; simp only [List.mem_cons, List.not_mem_nil, or_false] at q; rcases q with rfl; exact (Or.inr H21))
  have k32 : Go p e below m W T32 64 #[.val (.ref b1), .val (.int (2 : Int32))] [(.ref b21)] := k32
  have st33 : own_Str Z h32 b21 [x0, x1] := ⟨(Nat.le_of_ble_eq_true rfl), (own_E1 R0 (own_E1 R1 own_E0)), _, _, _, _, _, q32_1, q32_2, q32_3, p32_0⟩
  exact k32.areturn X32 hx Bd.returns rfl rfl (hb hby d_rmmk0_64) (BodyLoose.notSynchronized Bd) (by rw [e32]; exact ⟨b21, rfl, N32, K32, q32_0, st33, G21, H21⟩) (by decide) (by decide)

theorem ef_rmbl3 (m : MethodId)  : entryFrame m #[(.int (3 : Int32))] 1 = mkF m 0 #[.val (.int (3 : Int32))] [] := by first | (simp [entryFrame, mkF, argsToLocals, Value.category]; done) | rfl
def Q_rmbl3 (Z : State)  (h0 : Heap) (n0 : Nat) (v : Option Value) (h : Heap) (L : List Loc) : Prop := v = some (.int (6 : Int32)) ∧ Fr n0 L ∧ h = h0
set_option maxRecDepth 65536 in
set_option maxHeartbeats 40000000 in
theorem rmbl3 (l : Launch) (Z : State) (a0 : Array Value) (hw : ∀ d ∈ tables_1, d.before a0 Z = true) (ws : List Jvm.Cond)  (h0 : Heap) (n0 : Nat) (Z0 : n0 ≤ h0.size)  :
    MetFree l (⟨"java/lang/StringUTF16", "newBytesLength", "(I)I"⟩ : MethodName) (head1 (Jvm.Cond.code (⟨"java/lang/StringUTF16", "newBytesLength", "(I)I"⟩ : MethodName) jdk_52_method_3_code 1 (some .int) :: ws) ({ frames := 0, cells := 0, slots := 0, locals := 0 } : Room)) (fun a U => a = #[(.int (3 : Int32))] ∧ Z.Warmed39 U.vm ∧ U.heap = h0) (fun _ _ _ _ _ => True) (fun _ U o U' => ∃ v L, o = .returned v ∧ Q_rmbl3 Z  h0 n0 v U'.heap L ∧ FrameEnd U o U' L ({ frames := 0, cells := 0, slots := 0, locals := 0 } : Room).cells ({ frames := 0, cells := 0, slots := 0, locals := 0 } : Room).slots) := by
  refine MetFree.of_bodySF (plainFor_of_name pn_rmgc) hisR ?_
  intro p e s m args_ below meth c s₁ Bd hml0 hP hK
  obtain ⟨hargs, hZ, hh⟩ := hP
  have hx := Bd.exec
  have hby := Bd.bytes
  have hml : c.maxLocals = 1 := hml0
  have hown : s.vm.findClass "java/lang/StringUTF16" = some m.cls := findClass_of_methodNamed Bd.named
  have hnm := (name_of_methodNamed Bd.named Bd.method).1
  have X0 : Stand p l e ({ frames := 0, cells := 0, slots := 0, locals := 0 } : Room) s m args_ below meth c s₁ [] 0 0 := Stand.of_body Bd
  have e0 : s₁.heap = h0 := by rw [← hh, Bd.state]; rfl
  have N0 := Fr.nil n0
  have hv : ∀ (i : Nat) {d : Jvm.Cond}, tables_1[i]? = some d → d.before a0 Z = true := fun i d q => hw d (List.mem_of_getElem? q)
  have k0 : Go p e below m (s₁.setTop (entryFrame m args_ 1)) s₁ 0 #[.val (.int (3 : Int32))] [] := by rw [hargs]; exact fun t kt => castTop (ef_rmbl3 m ) kt
  obtain ⟨W, hWW⟩ : ∃ W, W = s₁.setTop (entryFrame m args_ 1) := ⟨_, rfl⟩
  rw [← hWW] at k0 ⊢
  show Done p e below s W (Q_rmbl3 Z  h0 n0) ({ frames := 0, cells := 0, slots := 0, locals := 0 } : Room).cells ({ frames := 0, cells := 0, slots := 0, locals := 0 } : Room).slots
  have k20 : Go p e below m W s₁ 58 #[.val (.int (3 : Int32))] [(.int (6 : Int32))] := ((((((((k0.iloadN X0 hx (hb hby d_rmbl1_0) rfl).ifYes X0 hx (hb hby d_rmbl1_1) (XT.i0_ge_t (by decide)) (by decide) (by decide)).iloadN X0 hx (hb hby d_rmbl1_12) rfl).ldcI X0 hx hZ hown (hv 118 rfl) (hb hby d_rmbl1_13)).icmpYes X0 hx (hb hby d_rmbl1_15) (XT.ii_lt_t (by decide)) (by decide) (by decide)).iloadN X0 hx (hb hby d_rmbl1_55) rfl).iconst X0 hx (hb hby d_rmbl1_56) (v := (1 : Int32)) rfl).ishl X0 hx (hb hby d_rmbl1_57)).cast (y := (6 : Int32)) (by decide)
  exact k20.ireturnI X0 hx Bd.returns (hb hby d_rmbl1_58) (BodyLoose.notSynchronized Bd) (by rw [e0]; exact ⟨rfl, N0, rfl⟩) (by decide) (by decide)

theorem ef_rmbf3 (m : MethodId)  : entryFrame m #[(.int (3 : Int32))] 1 = mkF m 0 #[.val (.int (3 : Int32))] [] := by first | (simp [entryFrame, mkF, argsToLocals, Value.category]; done) | rfl
def Q_rmbf3 (Z : State)  (h0 : Heap) (n0 : Nat) (v : Option Value) (h : Heap) (L : List Loc) : Prop := ∃ (ob : Addr) (ok : ClassId), v = some (.ref ob) ∧ Fr n0 L ∧ Keep h0 h [] ∧ Arv Z h ob ok .byte (6 : Int32) [(.int (0 : Int32)), (.int (0 : Int32)), (.int (0 : Int32)), (.int (0 : Int32)), (.int (0 : Int32)), (.int (0 : Int32))] (.int (0 : Int32)) ∧ n0 ≤ ob ∧ h0.size ≤ ob
set_option maxRecDepth 65536 in
set_option maxHeartbeats 40000000 in
theorem rmbf3 (l : Launch) (Z : State) (a0 : Array Value) (hw : ∀ d ∈ tables_1, d.before a0 Z = true) (ws : List Jvm.Cond)  (h0 : Heap) (n0 : Nat) (Z0 : n0 ≤ h0.size)  :
    MetFree l (⟨"java/lang/StringUTF16", "newBytesFor", "(I)[B"⟩ : MethodName) (head1 (Jvm.Cond.code (⟨"java/lang/StringUTF16", "newBytesFor", "(I)[B"⟩ : MethodName) jdk_52_method_2_code 1 (some (.array .byte)) :: ws) ({ frames := 1, cells := 1, slots := 6, locals := 12 } : Room)) (fun a U => a = #[(.int (3 : Int32))] ∧ Z.Warmed39 U.vm ∧ U.heap = h0) (fun _ _ _ _ _ => True) (fun _ U o U' => ∃ v L, o = .returned v ∧ Q_rmbf3 Z  h0 n0 v U'.heap L ∧ FrameEnd U o U' L ({ frames := 1, cells := 1, slots := 6, locals := 12 } : Room).cells ({ frames := 1, cells := 1, slots := 6, locals := 12 } : Room).slots) := by
  refine MetFree.of_bodySF (plainFor_of_name pn_rmgc) hisR ?_
  intro p e s m args_ below meth c s₁ Bd hml0 hP hK
  obtain ⟨hargs, hZ, hh⟩ := hP
  have hx := Bd.exec
  have hby := Bd.bytes
  have hml : c.maxLocals = 1 := hml0
  have hown : s.vm.findClass "java/lang/StringUTF16" = some m.cls := findClass_of_methodNamed Bd.named
  have hnm := (name_of_methodNamed Bd.named Bd.method).1
  have X0 : Stand p l e ({ frames := 1, cells := 1, slots := 6, locals := 12 } : Room) s m args_ below meth c s₁ [] 0 0 := Stand.of_body Bd
  have e0 : s₁.heap = h0 := by rw [← hh, Bd.state]; rfl
  have N0 := Fr.nil n0
  have hv : ∀ (i : Nat) {d : Jvm.Cond}, tables_1[i]? = some d → d.before a0 Z = true := fun i d q => hw d (List.mem_of_getElem? q)
  have K0 : Keep h0 h0 [] := Keep.refl _ _
  have k0 : Go p e below m (s₁.setTop (entryFrame m args_ 1)) s₁ 0 #[.val (.int (3 : Int32))] [] := by rw [hargs]; exact fun t kt => castTop (ef_rmbf3 m ) kt
  obtain ⟨W, hWW⟩ : ∃ W, W = s₁.setTop (entryFrame m args_ 1) := ⟨_, rfl⟩
  rw [← hWW] at k0 ⊢
  show Done p e below s W (Q_rmbf3 Z  h0 n0) ({ frames := 1, cells := 1, slots := 6, locals := 12 } : Room).cells ({ frames := 1, cells := 1, slots := 6, locals := 12 } : Room).slots
  have k20 : Go p e below m W s₁ 1 #[.val (.int (3 : Int32))] [(.int (3 : Int32))] := k0.iloadN X0 hx (hb hby d_rmbf1_0) rfl
  obtain ⟨T21, v21, L21, X21, Q21, k21⟩ := k20.stat (y := (⟨"java/lang/StringUTF16", "newBytesLength", "(I)I"⟩ : MethodName)) (Wd := 0) (cells' := 0) (slots' := 0) (argsL := [(.int (3 : Int32))]) (rest := []) X0 hx hZ hown (by rw [hml]; rfl) (hv 115 rfl) (hv 116 rfl) (hv 117 rfl) (hv 70 rfl) (hb hby d_rmbf1_1) (by decide) (rmbl3 l Z a0 hw []  h0 n0 Z0) e0 rfl rfl pd_rmbf1_0 rfl (Nat.le_of_eq rfl) (by decide) (by decide) rfl rfl (by decide) (by decide)
  obtain ⟨rfl, Nq21, e21q⟩ := Q21
  have N21 := Fr.app N0 Nq21
  have e21 : T21.heap = h0 := e21q
  have k21 : Go p e below m W T21 4 #[.val (.int (3 : Int32))] [(.int (6 : Int32))] := k21
  obtain ⟨T22, h22, b22, c22, X22, e22, g22, E22, A22, k22⟩ := k21.newP (cap := 6) (cells' := 1) (slots' := 6) X21 hx hZ (hv 31 rfl) e21 (hb hby d_rmbf1_4) (by decide) (by decide) (by decide) rfl rfl (by decide) (by decide)
  have k22 : Go p e below m W T22 6 #[.val (.int (3 : Int32))] [(.ref b22)] := k22
  have Z22 : n0 ≤ h22.size := Nat.le_trans Z0 E22.1
  have G22 : n0 ≤ b22 := g22 ▸ Z0
  have H22 : h0.size ≤ b22 := g22 ▸ K0.1
  have K22 : Keep h0 h22 [] := K0.ext E22
  have V22 : Arv Z h22 b22 c22 .byte (6 : Int32) [(.int (0 : Int32)), (.int (0 : Int32)), (.int (0 : Int32)), (.int (0 : Int32)), (.int (0 : Int32)), (.int (0 : Int32))] (.int (0 : Int32)) := A22 6
  exact k22.areturn X22 hx Bd.returns rfl rfl (hb hby d_rmbf1_6) (BodyLoose.notSynchronized Bd) (by rw [e22]; exact ⟨b22, c22, rfl, N21, K22, V22, G22, H22⟩) (by decide) (by decide)

theorem ef_rmtb3 (m : MethodId) (b1 : Addr) : entryFrame m #[(.ref b1), (.int (0 : Int32)), (.int (3 : Int32))] 5 = mkF m 0 #[.val (.ref b1), .val (.int (0 : Int32)), .val (.int (3 : Int32)), .unset, .unset] [] := by first | (simp [entryFrame, mkF, argsToLocals, Value.category]; done) | rfl
def Q_rmtb3 (Z : State) (b1 : Addr) (k1 : ClassId) (x0 : Int32) (x1 : Int32) (x2 : Int32) (h0 : Heap) (n0 : Nat) (v : Option Value) (h : Heap) (L : List Loc) : Prop := ∃ (ob : Addr) (ok : ClassId), v = some (.ref ob) ∧ Fr n0 L ∧ Keep h0 h [] ∧ Arv Z h ob ok .byte (6 : Int32) [(.int (own_b0 x0)), (.int (own_b1 x0)), (.int (own_b0 x1)), (.int (own_b1 x1)), (.int (own_b0 x2)), (.int (own_b1 x2))] (.int (0 : Int32)) ∧ n0 ≤ ob ∧ h0.size ≤ ob
set_option maxRecDepth 65536 in
set_option maxHeartbeats 40000000 in
theorem rmtb3 (l : Launch) (Z : State) (a0 : Array Value) (hw : ∀ d ∈ tables_1, d.before a0 Z = true) (ws : List Jvm.Cond) (b1 : Addr) (k1 : ClassId) (x0 : Int32) (x1 : Int32) (x2 : Int32) (h0 : Heap) (n0 : Nat) (Z0 : n0 ≤ h0.size) (O0 : Old Z n0 h0) (SAD : Sta Z Z.heap "java/lang/StringUTF16" "$assertionsDisabled" "Z" (.int (1 : Int32))) (SHI : Sta Z Z.heap "java/lang/StringUTF16" "HI_BYTE_SHIFT" "I" (.int (0 : Int32))) (SLO : Sta Z Z.heap "java/lang/StringUTF16" "LO_BYTE_SHIFT" "I" (.int (8 : Int32))) (V1 : Arv Z h0 b1 k1 .char (3 : Int32) [(.int x0), (.int x1), (.int x2)] (.int (0 : Int32))) :
    MetFree l (⟨"java/lang/StringUTF16", "toBytes", "([CII)[B"⟩ : MethodName) (head1 (Jvm.Cond.code (⟨"java/lang/StringUTF16", "toBytes", "([CII)[B"⟩ : MethodName) jdk_52_method_14_code 5 (some (.array .byte)) :: ws) ({ frames := 2, cells := 1, slots := 6, locals := 24 } : Room)) (fun a U => a = #[(.ref b1), (.int (0 : Int32)), (.int (3 : Int32))] ∧ Z.Warmed39 U.vm ∧ U.heap = h0) (fun _ _ _ _ _ => True) (fun _ U o U' => ∃ v L, o = .returned v ∧ Q_rmtb3 Z b1 k1 x0 x1 x2 h0 n0 v U'.heap L ∧ FrameEnd U o U' L ({ frames := 2, cells := 1, slots := 6, locals := 24 } : Room).cells ({ frames := 2, cells := 1, slots := 6, locals := 24 } : Room).slots) := by
  refine MetFree.of_bodySF (plainFor_of_name pn_rmgc) hisR ?_
  intro p e s m args_ below meth c s₁ Bd hml0 hP hK
  obtain ⟨hargs, hZ, hh⟩ := hP
  have hx := Bd.exec
  have hby := Bd.bytes
  have hml : c.maxLocals = 5 := hml0
  have hown : s.vm.findClass "java/lang/StringUTF16" = some m.cls := findClass_of_methodNamed Bd.named
  have hnm := (name_of_methodNamed Bd.named Bd.method).1
  have X0 : Stand p l e ({ frames := 2, cells := 1, slots := 6, locals := 24 } : Room) s m args_ below meth c s₁ [] 0 0 := Stand.of_body Bd
  have e0 : s₁.heap = h0 := by rw [← hh, Bd.state]; rfl
  have N0 := Fr.nil n0
  have hv : ∀ (i : Nat) {d : Jvm.Cond}, tables_1[i]? = some d → d.before a0 Z = true := fun i d q => hw d (List.mem_of_getElem? q)
  have K0 : Keep h0 h0 [] := Keep.refl _ _
  have k0 : Go p e below m (s₁.setTop (entryFrame m args_ 5)) s₁ 0 #[.val (.ref b1), .val (.int (0 : Int32)), .val (.int (3 : Int32)), .unset, .unset] [] := by rw [hargs]; exact fun t kt => castTop (ef_rmtb3 m b1) kt
  obtain ⟨W, hWW⟩ : ∃ W, W = s₁.setTop (entryFrame m args_ 5) := ⟨_, rfl⟩
  rw [← hWW] at k0 ⊢
  show Done p e below s W (Q_rmtb3 Z b1 k1 x0 x1 x2 h0 n0) ({ frames := 2, cells := 1, slots := 6, locals := 24 } : Room).cells ({ frames := 2, cells := 1, slots := 6, locals := 24 } : Room).slots
  have k20 : Go p e below m W s₁ 1 #[.val (.ref b1), .val (.int (0 : Int32)), .val (.int (3 : Int32)), .unset, .unset] [(.int (3 : Int32))] := k0.iloadN X0 hx (hb hby d_rmtb1_0) rfl
  obtain ⟨T21, v21, L21, X21, Q21, k21⟩ := k20.stat (y := (⟨"java/lang/StringUTF16", "newBytesFor", "(I)[B"⟩ : MethodName)) (Wd := 0) (cells' := 1) (slots' := 6) (argsL := [(.int (3 : Int32))]) (rest := []) X0 hx hZ hown (by rw [hml]; rfl) (hv 112 rfl) (hv 113 rfl) (hv 114 rfl) (hv 70 rfl) (hb hby d_rmtb1_1) (by decide) (rmbf3 l Z a0 hw []  h0 n0 Z0) e0 rfl rfl pd_rmtb1_0 rfl (Nat.le_of_eq rfl) (by decide) (by decide) rfl rfl (by decide) (by decide)
  obtain ⟨ob_21, ok_21, rfl, Nq21, Kq21, q21_0, q21_1, q21_2⟩ := Q21
  have N21 := Fr.app N0 Nq21
  obtain ⟨h21, e21⟩ : ∃ h, T21.heap = h := ⟨_, rfl⟩
  rw [e21] at Kq21 q21_0
  have Z21 : n0 ≤ h21.size := Nat.le_trans Z0 Kq21.1
  have K21 : Keep h0 h21 [] := K0.trans Kq21 (fun x q => absurd q List.not_mem_nil)
  have H22 : h0.size ≤ ob_21 := Nat.le_trans K0.1 q21_2
  have k21 : Go p e below m W T21 4 #[.val (.ref b1), .val (.int (0 : Int32)), .val (.int (3 : Int32)), .unset, .unset] [(.ref ob_21)] := k21
  have k23 : Go p e below m W T21 5 #[.val (.ref b1), .val (.int (0 : Int32)), .val (.int (3 : Int32)), .val (.ref ob_21), .unset] [] := k21.astoreN X21 hx (hb hby d_rmtb1_4) rfl rfl
  have k24 : Go p e below m W T21 8 #[.val (.ref b1), .val (.int (0 : Int32)), .val (.int (3 : Int32)), .val (.ref ob_21), .val (.int (0 : Int32))] [] := (k23.iconst X21 hx (hb hby d_rmtb1_5) (v := (0 : Int32)) rfl).istore X21 hx (hb hby d_rmtb1_6) rfl
  have k25 : Go p e below m W T21 19 #[.val (.ref b1), .val (.int (0 : Int32)), .val (.int (3 : Int32)), .val (.ref ob_21), .val (.int (0 : Int32))] [(.int (0 : Int32)), (.ref b1), (.int (0 : Int32)), (.ref ob_21)] := ((((((k24.iload X21 hx (hb hby d_rmtb1_8) rfl).iloadN X21 hx (hb hby d_rmtb1_10) rfl).icmpNo X21 hx (hb hby d_rmtb1_11) (XT.ii_ge_f (by decide))).aloadN X21 hx (hb hby d_rmtb1_14) rfl rfl).iload X21 hx (hb hby d_rmtb1_15) rfl).aloadN X21 hx (hb hby d_rmtb1_17) rfl rfl).iloadN X21 hx (hb hby d_rmtb1_18) rfl
  have g_1 := V1.keep Kq21 (List.not_mem_nil)
  have k26 : Go p e below m W T21 20 #[.val (.ref b1), .val (.int (0 : Int32)), .val (.int (3 : Int32)), .val (.ref ob_21), .val (.int (0 : Int32))] [(.int x0), (.int (0 : Int32)), (.ref ob_21)] := k25.caload (i := 0) (n := 3) X21 hx hZ e21 g_1 rfl rfl (by decide) (by decide) rfl (hb hby d_rmtb1_19)
  have g_2 := O0.keep Kq21 (fun x q => absurd q List.not_mem_nil)
  obtain ⟨T27, v27, L27, X27, Q27, k27⟩ := k26.stat (y := (⟨"java/lang/StringUTF16", "putChar", "([BII)V"⟩ : MethodName)) (Wd := 0) (cells' := 1) (slots' := 6) (argsL := [(.ref ob_21), (.int (0 : Int32)), (.int x0)]) (rest := []) X21 hx hZ hown (by rw [hml]; rfl) (hv 119 rfl) (hv 120 rfl) (hv 121 rfl) (hv 70 rfl) (hb hby d_rmtb1_20) (by decide) (rmpu l Z a0 hw [] ob_21 (0 : Int32) x0 ok_21 (6 : Int32) ([(.int (0 : Int32)), (.int (0 : Int32)), (.int (0 : Int32)), (.int (0 : Int32)), (.int (0 : Int32)), (.int (0 : Int32))]) 0 h21 n0 Z21 g_2 SAD SHI SLO q21_0 q21_1 rfl (by decide) (by decide) (Nat.le_of_ble_eq_true rfl) (by decide) (by decide) (Nat.le_of_ble_eq_true rfl)) e21 rfl rfl pd_rmtb1_1 rfl (Nat.le_of_eq rfl) (by decide) (by decide) rfl rfl (by decide) (by decide)
  obtain ⟨rfl, Nq27, Kq27, q27_0⟩ := Q27
  have N27 := Fr.app N21 Nq27
  obtain ⟨h27, e27⟩ : ∃ h, T27.heap = h := ⟨_, rfl⟩
  rw [e27] at Kq27 q27_0
  have Z27 : n0 ≤ h27.size := Nat.le_trans Z21 Kq27.1
  have K27 : Keep h0 h27 [] := K21.trans Kq27 (by intro x q; simp only [List.mem_cons, List.not_mem_nil, or_false] at q; rcases q with rfl; exact (Or.inr H22))
  have k27 : Go p e below m W T27 23 #[.val (.ref b1), .val (.int (0 : Int32)), .val (.int (3 : Int32)), .val (.ref ob_21), .val (.int (0 : Int32))] [] := k27
  have vt27 : Arv Z h27 ob_21 ok_21 .byte (6 : Int32) [(.int (own_b0 x0)), (.int (own_b1 x0)), (.int (0 : Int32)), (.int (0 : Int32)), (.int (0 : Int32)), (.int (0 : Int32))] (.int (0 : Int32)) := q27_0
  have k28 : Go p e below m W T27 26 #[.val (.ref b1), .val (.int (1 : Int32)), .val (.int (3 : Int32)), .val (.ref ob_21), .val (.int (0 : Int32))] [] := k27.iinc X27 hx (hb hby d_rmtb1_23) (v := (1 : Int32)) rfl rfl rfl
  have k29 : Go p e below m W T27 29 #[.val (.ref b1), .val (.int (1 : Int32)), .val (.int (3 : Int32)), .val (.ref ob_21), .val (.int (1 : Int32))] [] := k28.iinc X27 hx (hb hby d_rmtb1_26) (v := (1 : Int32)) rfl rfl rfl
  have k30 : Go p e below m W T27 19 #[.val (.ref b1), .val (.int (1 : Int32)), .val (.int (3 : Int32)), .val (.ref ob_21), .val (.int (1 : Int32))] [(.int (1 : Int32)), (.ref b1), (.int (1 : Int32)), (.ref ob_21)] := (((((((k29.goto X27 hx (hb hby d_rmtb1_29) (by decide) (by decide)).iload X27 hx (hb hby d_rmtb1_8) rfl).iloadN X27 hx (hb hby d_rmtb1_10) rfl).icmpNo X27 hx (hb hby d_rmtb1_11) (XT.ii_ge_f (by decide))).aloadN X27 hx (hb hby d_rmtb1_14) rfl rfl).iload X27 hx (hb hby d_rmtb1_15) rfl).aloadN X27 hx (hb hby d_rmtb1_17) rfl rfl).iloadN X27 hx (hb hby d_rmtb1_18) rfl
  have g_3 := (show b1 ≠ ob_21 from Nat.ne_of_lt (Nat.lt_of_lt_of_le V1.lt q21_2))
  have g_4 := g_1.keep Kq27 (by simp only [List.mem_cons, List.not_mem_nil, or_false, not_or]; exact g_3)
  have k31 : Go p e below m W T27 20 #[.val (.ref b1), .val (.int (1 : Int32)), .val (.int (3 : Int32)), .val (.ref ob_21), .val (.int (1 : Int32))] [(.int x1), (.int (1 : Int32)), (.ref ob_21)] := k30.caload (i := 1) (n := 3) X27 hx hZ e27 g_4 rfl rfl (by decide) (by decide) rfl (hb hby d_rmtb1_19)
  have g_5 := g_2.keep Kq27 (by intro x q; simp only [List.mem_cons, List.not_mem_nil, or_false] at q; rcases q with rfl; exact q21_1)
  obtain ⟨T32, v32, L32, X32, Q32, k32⟩ := k31.stat (y := (⟨"java/lang/StringUTF16", "putChar", "([BII)V"⟩ : MethodName)) (Wd := 0) (cells' := 1) (slots' := 6) (argsL := [(.ref ob_21), (.int (1 : Int32)), (.int x1)]) (rest := []) X27 hx hZ hown (by rw [hml]; rfl) (hv 119 rfl) (hv 120 rfl) (hv 121 rfl) (hv 70 rfl) (hb hby d_rmtb1_20) (by decide) (rmpu l Z a0 hw [] ob_21 (1 : Int32) x1 ok_21 (6 : Int32) ([(.int (own_b0 x0)), (.int (own_b1 x0)), (.int (0 : Int32)), (.int (0 : Int32)), (.int (0 : Int32)), (.int (0 : Int32))]) 2 h27 n0 Z27 g_5 SAD SHI SLO vt27 q21_1 rfl (by decide) (by decide) (Nat.le_of_ble_eq_true rfl) (by decide) (by decide) (Nat.le_of_ble_eq_true rfl)) e27 rfl rfl pd_rmtb1_1 rfl (Nat.le_of_eq rfl) (by decide) (by decide) rfl rfl (by decide) (by decide)
  obtain ⟨rfl, Nq32, Kq32, q32_0⟩ := Q32
  have N32 := Fr.app N27 Nq32
  obtain ⟨h32, e32⟩ : ∃ h, T32.heap = h := ⟨_, rfl⟩
  rw [e32] at Kq32 q32_0
  have Z32 : n0 ≤ h32.size := Nat.le_trans Z27 Kq32.1
  have K32 : Keep h0 h32 [] := K27.trans Kq32 (by intro x q; simp only [List.mem_cons, List.not_mem_nil, or_false] at q; rcases q with rfl; exact (Or.inr H22))
  have k32 : Go p e below m W T32 23 #[.val (.ref b1), .val (.int (1 : Int32)), .val (.int (3 : Int32)), .val (.ref ob_21), .val (.int (1 : Int32))] [] := k32
  have vt32 : Arv Z h32 ob_21 ok_21 .byte (6 : Int32) [(.int (own_b0 x0)), (.int (own_b1 x0)), (.int (own_b0 x1)), (.int (own_b1 x1)), (.int (0 : Int32)), (.int (0 : Int32))] (.int (0 : Int32)) := q32_0
  have k33 : Go p e below m W T32 26 #[.val (.ref b1), .val (.int (2 : Int32)), .val (.int (3 : Int32)), .val (.ref ob_21), .val (.int (1 : Int32))] [] := k32.iinc X32 hx (hb hby d_rmtb1_23) (v := (1 : Int32)) rfl rfl rfl
  have k34 : Go p e below m W T32 29 #[.val (.ref b1), .val (.int (2 : Int32)), .val (.int (3 : Int32)), .val (.ref ob_21), .val (.int (2 : Int32))] [] := k33.iinc X32 hx (hb hby d_rmtb1_26) (v := (1 : Int32)) rfl rfl rfl
  have k35 : Go p e below m W T32 19 #[.val (.ref b1), .val (.int (2 : Int32)), .val (.int (3 : Int32)), .val (.ref ob_21), .val (.int (2 : Int32))] [(.int (2 : Int32)), (.ref b1), (.int (2 : Int32)), (.ref ob_21)] := (((((((k34.goto X32 hx (hb hby d_rmtb1_29) (by decide) (by decide)).iload X32 hx (hb hby d_rmtb1_8) rfl).iloadN X32 hx (hb hby d_rmtb1_10) rfl).icmpNo X32 hx (hb hby d_rmtb1_11) (XT.ii_ge_f (by decide))).aloadN X32 hx (hb hby d_rmtb1_14) rfl rfl).iload X32 hx (hb hby d_rmtb1_15) rfl).aloadN X32 hx (hb hby d_rmtb1_17) rfl rfl).iloadN X32 hx (hb hby d_rmtb1_18) rfl
  have g_6 := g_4.keep Kq32 (by simp only [List.mem_cons, List.not_mem_nil, or_false, not_or]; exact g_3)
  have k36 : Go p e below m W T32 20 #[.val (.ref b1), .val (.int (2 : Int32)), .val (.int (3 : Int32)), .val (.ref ob_21), .val (.int (2 : Int32))] [(.int x2), (.int (2 : Int32)), (.ref ob_21)] := k35.caload (i := 2) (n := 3) X32 hx hZ e32 g_6 rfl rfl (by decide) (by decide) rfl (hb hby d_rmtb1_19)
  have g_7 := g_5.keep Kq32 (by intro x q; simp only [List.mem_cons, List.not_mem_nil, or_false] at q; rcases q with rfl; exact q21_1)
  obtain ⟨T37, v37, L37, X37, Q37, k37⟩ := k36.stat (y := (⟨"java/lang/StringUTF16", "putChar", "([BII)V"⟩ : MethodName)) (Wd := 0) (cells' := 1) (slots' := 6) (argsL := [(.ref ob_21), (.int (2 : Int32)), (.int x2)]) (rest := []) X32 hx hZ hown (by rw [hml]; rfl) (hv 119 rfl) (hv 120 rfl) (hv 121 rfl) (hv 70 rfl) (hb hby d_rmtb1_20) (by decide) (rmpu l Z a0 hw [] ob_21 (2 : Int32) x2 ok_21 (6 : Int32) ([(.int (own_b0 x0)), (.int (own_b1 x0)), (.int (own_b0 x1)), (.int (own_b1 x1)), (.int (0 : Int32)), (.int (0 : Int32))]) 4 h32 n0 Z32 g_7 SAD SHI SLO vt32 q21_1 rfl (by decide) (by decide) (Nat.le_of_ble_eq_true rfl) (by decide) (by decide) (Nat.le_of_ble_eq_true rfl)) e32 rfl rfl pd_rmtb1_1 rfl (Nat.le_of_eq rfl) (by decide) (by decide) rfl rfl (by decide) (by decide)
  obtain ⟨rfl, Nq37, Kq37, q37_0⟩ := Q37
  have N37 := Fr.app N32 Nq37
  obtain ⟨h37, e37⟩ : ∃ h, T37.heap = h := ⟨_, rfl⟩
  rw [e37] at Kq37 q37_0
  have Z37 : n0 ≤ h37.size := Nat.le_trans Z32 Kq37.1
  have K37 : Keep h0 h37 [] := K32.trans Kq37 (by intro x q; simp only [List.mem_cons, List.not_mem_nil, or_false] at q; rcases q with rfl; exact (Or.inr H22))
  have k37 : Go p e below m W T37 23 #[.val (.ref b1), .val (.int (2 : Int32)), .val (.int (3 : Int32)), .val (.ref ob_21), .val (.int (2 : Int32))] [] := k37
  have vt37 : Arv Z h37 ob_21 ok_21 .byte (6 : Int32) [(.int (own_b0 x0)), (.int (own_b1 x0)), (.int (own_b0 x1)), (.int (own_b1 x1)), (.int (own_b0 x2)), (.int (own_b1 x2))] (.int (0 : Int32)) := q37_0
  have k38 : Go p e below m W T37 26 #[.val (.ref b1), .val (.int (3 : Int32)), .val (.int (3 : Int32)), .val (.ref ob_21), .val (.int (2 : Int32))] [] := k37.iinc X37 hx (hb hby d_rmtb1_23) (v := (1 : Int32)) rfl rfl rfl
  have k39 : Go p e below m W T37 29 #[.val (.ref b1), .val (.int (3 : Int32)), .val (.int (3 : Int32)), .val (.ref ob_21), .val (.int (3 : Int32))] [] := k38.iinc X37 hx (hb hby d_rmtb1_26) (v := (1 : Int32)) rfl rfl rfl
  have k40 : Go p e below m W T37 33 #[.val (.ref b1), .val (.int (3 : Int32)), .val (.int (3 : Int32)), .val (.ref ob_21), .val (.int (3 : Int32))] [(.ref ob_21)] := ((((k39.goto X37 hx (hb hby d_rmtb1_29) (by decide) (by decide)).iload X37 hx (hb hby d_rmtb1_8) rfl).iloadN X37 hx (hb hby d_rmtb1_10) rfl).icmpYes X37 hx (hb hby d_rmtb1_11) (XT.ii_ge_t (by decide)) (by decide) (by decide)).aloadN X37 hx (hb hby d_rmtb1_32) rfl rfl
  exact k40.areturn X37 hx Bd.returns rfl rfl (hb hby d_rmtb1_33) (BodyLoose.notSynchronized Bd) (by rw [e37]; exact ⟨ob_21, ok_21, rfl, N37, K37, vt37, q21_1, H22⟩) (by decide) (by decide)

theorem ef_rmcv3 (m : MethodId) (b1 : Addr) (b2 : Addr) : entryFrame m #[(.ref b1), (.int (0 : Int32)), (.ref b2), (.int (0 : Int32)), (.int (3 : Int32))] 7 = mkF m 0 #[.val (.ref b1), .val (.int (0 : Int32)), .val (.ref b2), .val (.int (0 : Int32)), .val (.int (3 : Int32)), .unset, .unset] [] := by first | (simp [entryFrame, mkF, argsToLocals, Value.category]; done) | rfl
def Q_rmcv3 (Z : State) (b1 : Addr) (b2 : Addr) (k1 : ClassId) (k2 : ClassId) (x0 : Int32) (x1 : Int32) (x2 : Int32) (h0 : Heap) (n0 : Nat) (v : Option Value) (h : Heap) (L : List Loc) : Prop := ∃ (ro : Int32) (vs : List Value), v = some (.int ro) ∧ Fr n0 L ∧ Keep h0 h [b2] ∧ ((((255 : Int32) < x0) ∧ ro = (0 : Int32)) ∨ (((255 : Int32) < x1) ∧ ro = (1 : Int32)) ∨ (((255 : Int32) < x2) ∧ ro = (2 : Int32)) ∨ ((¬ ((255 : Int32) < x0)) ∧ (¬ ((255 : Int32) < x1)) ∧ (¬ ((255 : Int32) < x2)) ∧ ro = (3 : Int32) ∧ vs = [(.int (x0).toInt8.toInt32), (.int (x1).toInt8.toInt32), (.int (x2).toInt8.toInt32)])) ∧ Arv Z h b2 k2 .byte (3 : Int32) vs (.int (0 : Int32))
set_option maxRecDepth 65536 in
set_option maxHeartbeats 40000000 in
theorem rmcv3 (l : Launch) (Z : State) (a0 : Array Value) (hw : ∀ d ∈ tables_1, d.before a0 Z = true) (ws : List Jvm.Cond) (b1 : Addr) (b2 : Addr) (k1 : ClassId) (k2 : ClassId) (x0 : Int32) (x1 : Int32) (x2 : Int32) (h0 : Heap) (n0 : Nat) (Z0 : n0 ≤ h0.size) (V1 : Arv Z h0 b1 k1 .char (3 : Int32) [(.int x0), (.int x1), (.int x2)] (.int (0 : Int32))) (V2 : Arv Z h0 b2 k2 .byte (3 : Int32) [(.int (0 : Int32)), (.int (0 : Int32)), (.int (0 : Int32))] (.int (0 : Int32))) (G2 : n0 ≤ b2) (N1 : b1 ≠ b2) :
    MetFree l (⟨"java/lang/StringUTF16", "compress", "([CI[BII)I"⟩ : MethodName) (head1 (Jvm.Cond.code (⟨"java/lang/StringUTF16", "compress", "([CI[BII)I"⟩ : MethodName) jdk_52_method_21_code 7 (some .int) :: ws) ({ frames := 0, cells := 0, slots := 0, locals := 0 } : Room)) (fun a U => a = #[(.ref b1), (.int (0 : Int32)), (.ref b2), (.int (0 : Int32)), (.int (3 : Int32))] ∧ Z.Warmed39 U.vm ∧ U.heap = h0) (fun _ _ _ _ _ => True) (fun _ U o U' => ∃ v L, o = .returned v ∧ Q_rmcv3 Z b1 b2 k1 k2 x0 x1 x2 h0 n0 v U'.heap L ∧ FrameEnd U o U' L ({ frames := 0, cells := 0, slots := 0, locals := 0 } : Room).cells ({ frames := 0, cells := 0, slots := 0, locals := 0 } : Room).slots) := by
  refine MetFree.of_bodySF (plainFor_of_name pn_rmgc) hisR ?_
  intro p e s m args_ below meth c s₁ Bd hml0 hP hK
  obtain ⟨hargs, hZ, hh⟩ := hP
  have hx := Bd.exec
  have hby := Bd.bytes
  have hml : c.maxLocals = 7 := hml0
  have hown : s.vm.findClass "java/lang/StringUTF16" = some m.cls := findClass_of_methodNamed Bd.named
  have hnm := (name_of_methodNamed Bd.named Bd.method).1
  have X0 : Stand p l e ({ frames := 0, cells := 0, slots := 0, locals := 0 } : Room) s m args_ below meth c s₁ [] 0 0 := Stand.of_body Bd
  have e0 : s₁.heap = h0 := by rw [← hh, Bd.state]; rfl
  have N0 := Fr.nil n0
  have hv : ∀ (i : Nat) {d : Jvm.Cond}, tables_1[i]? = some d → d.before a0 Z = true := fun i d q => hw d (List.mem_of_getElem? q)
  have K0 : Keep h0 h0 [b2] := Keep.refl _ _
  have k0 : Go p e below m (s₁.setTop (entryFrame m args_ 7)) s₁ 0 #[.val (.ref b1), .val (.int (0 : Int32)), .val (.ref b2), .val (.int (0 : Int32)), .val (.int (3 : Int32)), .unset, .unset] [] := by rw [hargs]; exact fun t kt => castTop (ef_rmcv3 m b1 b2) kt
  obtain ⟨W, hWW⟩ : ∃ W, W = s₁.setTop (entryFrame m args_ 7) := ⟨_, rfl⟩
  rw [← hWW] at k0 ⊢
  show Done p e below s W (Q_rmcv3 Z b1 b2 k1 k2 x0 x1 x2 h0 n0) ({ frames := 0, cells := 0, slots := 0, locals := 0 } : Room).cells ({ frames := 0, cells := 0, slots := 0, locals := 0 } : Room).slots
  have k20 : Go p e below m W s₁ 3 #[.val (.ref b1), .val (.int (0 : Int32)), .val (.ref b2), .val (.int (0 : Int32)), .val (.int (3 : Int32)), .val (.int (0 : Int32)), .unset] [] := (k0.iconst X0 hx (hb hby d_rmcv1_0) (v := (0 : Int32)) rfl).istore X0 hx (hb hby d_rmcv1_1) rfl
  have k21 : Go p e below m W s₁ 12 #[.val (.ref b1), .val (.int (0 : Int32)), .val (.ref b2), .val (.int (0 : Int32)), .val (.int (3 : Int32)), .val (.int (0 : Int32)), .unset] [(.int (0 : Int32)), (.ref b1)] := ((((k20.iload X0 hx (hb hby d_rmcv1_3) rfl).iload X0 hx (hb hby d_rmcv1_5) rfl).icmpNo X0 hx (hb hby d_rmcv1_7) (XT.ii_ge_f (by decide))).aloadN X0 hx (hb hby d_rmcv1_10) rfl rfl).iloadN X0 hx (hb hby d_rmcv1_11) rfl
  have k22 : Go p e below m W s₁ 15 #[.val (.ref b1), .val (.int (0 : Int32)), .val (.ref b2), .val (.int (0 : Int32)), .val (.int (3 : Int32)), .val (.int (0 : Int32)), .val (.int x0)] [] := (k21.caload (i := 0) (n := 3) X0 hx hZ e0 V1 rfl rfl (by decide) (by decide) rfl (hb hby d_rmcv1_12)).istore X0 hx (hb hby d_rmcv1_13) rfl
  have k23 : Go p e below m W s₁ 20 #[.val (.ref b1), .val (.int (0 : Int32)), .val (.ref b2), .val (.int (0 : Int32)), .val (.int (3 : Int32)), .val (.int (0 : Int32)), .val (.int x0)] [(.int (255 : Int32)), (.int x0)] := (k22.iload X0 hx (hb hby d_rmcv1_15) rfl).sipush X0 hx (hb hby d_rmcv1_17) (v := (255 : Int32)) rfl
  by_cases hc20_24 : (255 : Int32) < x0
  ·
    have k25 : Go p e below m W s₁ 25 #[.val (.ref b1), .val (.int (0 : Int32)), .val (.ref b2), .val (.int (0 : Int32)), .val (.int (3 : Int32)), .val (.int (0 : Int32)), .val (.int x0)] [(.int (0 : Int32))] := (k23.icmpNo X0 hx (hb hby d_rmcv1_20) (XT.ii_le_f hc20_24)).iload X0 hx (hb hby d_rmcv1_23) rfl
    exact k25.ireturnI X0 hx Bd.returns (hb hby d_rmcv1_25) (BodyLoose.notSynchronized Bd) (by rw [e0]; exact ⟨(0 : Int32), [(.int (0 : Int32)), (.int (0 : Int32)), (.int (0 : Int32))], rfl, N0, K0, (Or.inl ⟨hc20_24, rfl⟩), V2⟩) (by decide) (by decide)
  ·
    have k26 : Go p e below m W s₁ 31 #[.val (.ref b1), .val (.int (0 : Int32)), .val (.ref b2), .val (.int (0 : Int32)), .val (.int (3 : Int32)), .val (.int (0 : Int32)), .val (.int x0)] [(.int (x0).toInt8.toInt32), (.int (0 : Int32)), (.ref b2)] := ((((k23.icmpYes X0 hx (hb hby d_rmcv1_20) (XT.ii_le_t hc20_24) (by decide) (by decide)).aloadN X0 hx (hb hby d_rmcv1_26) rfl rfl).iloadN X0 hx (hb hby d_rmcv1_27) rfl).iload X0 hx (hb hby d_rmcv1_28) rfl).i2b X0 hx (hb hby d_rmcv1_30)
    obtain ⟨T27, h27, l27, X27, e27, W27, V27, N27, k27⟩ := k26.bastore (i := 0) X0 hx hZ e0 V2 rfl rfl (by decide) (Nat.le_of_ble_eq_true rfl) N0 G2 (hb hby d_rmcv1_31)
    have k27 : Go p e below m W T27 32 #[.val (.ref b1), .val (.int (0 : Int32)), .val (.ref b2), .val (.int (0 : Int32)), .val (.int (3 : Int32)), .val (.int (0 : Int32)), .val (.int x0)] [] := k27
    have Z27 : n0 ≤ h27.size := (Wr.size W27).symm ▸ Z0
    rw [own_narb] at V27
    have V27 : Arv Z h27 b2 k2 .byte (3 : Int32) [(.int (x0).toInt8.toInt32), (.int (0 : Int32)), (.int (0 : Int32))] (.int (0 : Int32)) := V27
    have K27 : Keep h0 h27 [b2] := K0.wr W27 (Or.inl (List.mem_of_getElem? (i := 0) rfl))
    have k28 : Go p e below m W T27 35 #[.val (.ref b1), .val (.int (1 : Int32)), .val (.ref b2), .val (.int (0 : Int32)), .val (.int (3 : Int32)), .val (.int (0 : Int32)), .val (.int x0)] [] := k27.iinc X27 hx (hb hby d_rmcv1_32) (v := (1 : Int32)) rfl rfl rfl
    have k29 : Go p e below m W T27 38 #[.val (.ref b1), .val (.int (1 : Int32)), .val (.ref b2), .val (.int (1 : Int32)), .val (.int (3 : Int32)), .val (.int (0 : Int32)), .val (.int x0)] [] := k28.iinc X27 hx (hb hby d_rmcv1_35) (v := (1 : Int32)) rfl rfl rfl
    have k30 : Go p e below m W T27 41 #[.val (.ref b1), .val (.int (1 : Int32)), .val (.ref b2), .val (.int (1 : Int32)), .val (.int (3 : Int32)), .val (.int (1 : Int32)), .val (.int x0)] [] := k29.iinc X27 hx (hb hby d_rmcv1_38) (v := (1 : Int32)) rfl rfl rfl
    have k31 : Go p e below m W T27 12 #[.val (.ref b1), .val (.int (1 : Int32)), .val (.ref b2), .val (.int (1 : Int32)), .val (.int (3 : Int32)), .val (.int (1 : Int32)), .val (.int x0)] [(.int (1 : Int32)), (.ref b1)] := (((((k30.goto X27 hx (hb hby d_rmcv1_41) (by decide) (by decide)).iload X27 hx (hb hby d_rmcv1_3) rfl).iload X27 hx (hb hby d_rmcv1_5) rfl).icmpNo X27 hx (hb hby d_rmcv1_7) (XT.ii_ge_f (by decide))).aloadN X27 hx (hb hby d_rmcv1_10) rfl rfl).iloadN X27 hx (hb hby d_rmcv1_11) rfl
    have g_1 := V1.other W27 N1
    have k32 : Go p e below m W T27 15 #[.val (.ref b1), .val (.int (1 : Int32)), .val (.ref b2), .val (.int (1 : Int32)), .val (.int (3 : Int32)), .val (.int (1 : Int32)), .val (.int x1)] [] := (k31.caload (i := 1) (n := 3) X27 hx hZ e27 g_1 rfl rfl (by decide) (by decide) rfl (hb hby d_rmcv1_12)).istore X27 hx (hb hby d_rmcv1_13) rfl
    have k33 : Go p e below m W T27 20 #[.val (.ref b1), .val (.int (1 : Int32)), .val (.ref b2), .val (.int (1 : Int32)), .val (.int (3 : Int32)), .val (.int (1 : Int32)), .val (.int x1)] [(.int (255 : Int32)), (.int x1)] := (k32.iload X27 hx (hb hby d_rmcv1_15) rfl).sipush X27 hx (hb hby d_rmcv1_17) (v := (255 : Int32)) rfl
    by_cases hc20_34 : (255 : Int32) < x1
    ·
      have k35 : Go p e below m W T27 25 #[.val (.ref b1), .val (.int (1 : Int32)), .val (.ref b2), .val (.int (1 : Int32)), .val (.int (3 : Int32)), .val (.int (1 : Int32)), .val (.int x1)] [(.int (1 : Int32))] := (k33.icmpNo X27 hx (hb hby d_rmcv1_20) (XT.ii_le_f hc20_34)).iload X27 hx (hb hby d_rmcv1_23) rfl
      exact k35.ireturnI X27 hx Bd.returns (hb hby d_rmcv1_25) (BodyLoose.notSynchronized Bd) (by rw [e27]; exact ⟨(1 : Int32), [(.int (x0).toInt8.toInt32), (.int (0 : Int32)), (.int (0 : Int32))], rfl, N27, K27, (Or.inr (Or.inl ⟨hc20_34, rfl⟩)), V27⟩) (by decide) (by decide)
    ·
      have k36 : Go p e below m W T27 31 #[.val (.ref b1), .val (.int (1 : Int32)), .val (.ref b2), .val (.int (1 : Int32)), .val (.int (3 : Int32)), .val (.int (1 : Int32)), .val (.int x1)] [(.int (x1).toInt8.toInt32), (.int (1 : Int32)), (.ref b2)] := ((((k33.icmpYes X27 hx (hb hby d_rmcv1_20) (XT.ii_le_t hc20_34) (by decide) (by decide)).aloadN X27 hx (hb hby d_rmcv1_26) rfl rfl).iloadN X27 hx (hb hby d_rmcv1_27) rfl).iload X27 hx (hb hby d_rmcv1_28) rfl).i2b X27 hx (hb hby d_rmcv1_30)
      obtain ⟨T37, h37, l37, X37, e37, W37, V37, N37, k37⟩ := k36.bastore (i := 1) X27 hx hZ e27 V27 rfl rfl (by decide) (Nat.le_of_ble_eq_true rfl) N27 G2 (hb hby d_rmcv1_31)
      have k37 : Go p e below m W T37 32 #[.val (.ref b1), .val (.int (1 : Int32)), .val (.ref b2), .val (.int (1 : Int32)), .val (.int (3 : Int32)), .val (.int (1 : Int32)), .val (.int x1)] [] := k37
      have Z37 : n0 ≤ h37.size := (Wr.size W37).symm ▸ Z27
      rw [own_narb] at V37
      have V37 : Arv Z h37 b2 k2 .byte (3 : Int32) [(.int (x0).toInt8.toInt32), (.int (x1).toInt8.toInt32), (.int (0 : Int32))] (.int (0 : Int32)) := V37
      have K37 : Keep h0 h37 [b2] := K27.wr W37 (Or.inl (List.mem_of_getElem? (i := 0) rfl))
      have k38 : Go p e below m W T37 35 #[.val (.ref b1), .val (.int (2 : Int32)), .val (.ref b2), .val (.int (1 : Int32)), .val (.int (3 : Int32)), .val (.int (1 : Int32)), .val (.int x1)] [] := k37.iinc X37 hx (hb hby d_rmcv1_32) (v := (1 : Int32)) rfl rfl rfl
      have k39 : Go p e below m W T37 38 #[.val (.ref b1), .val (.int (2 : Int32)), .val (.ref b2), .val (.int (2 : Int32)), .val (.int (3 : Int32)), .val (.int (1 : Int32)), .val (.int x1)] [] := k38.iinc X37 hx (hb hby d_rmcv1_35) (v := (1 : Int32)) rfl rfl rfl
      have k40 : Go p e below m W T37 41 #[.val (.ref b1), .val (.int (2 : Int32)), .val (.ref b2), .val (.int (2 : Int32)), .val (.int (3 : Int32)), .val (.int (2 : Int32)), .val (.int x1)] [] := k39.iinc X37 hx (hb hby d_rmcv1_38) (v := (1 : Int32)) rfl rfl rfl
      have k41 : Go p e below m W T37 12 #[.val (.ref b1), .val (.int (2 : Int32)), .val (.ref b2), .val (.int (2 : Int32)), .val (.int (3 : Int32)), .val (.int (2 : Int32)), .val (.int x1)] [(.int (2 : Int32)), (.ref b1)] := (((((k40.goto X37 hx (hb hby d_rmcv1_41) (by decide) (by decide)).iload X37 hx (hb hby d_rmcv1_3) rfl).iload X37 hx (hb hby d_rmcv1_5) rfl).icmpNo X37 hx (hb hby d_rmcv1_7) (XT.ii_ge_f (by decide))).aloadN X37 hx (hb hby d_rmcv1_10) rfl rfl).iloadN X37 hx (hb hby d_rmcv1_11) rfl
      have g_2 := g_1.other W37 N1
      have k42 : Go p e below m W T37 15 #[.val (.ref b1), .val (.int (2 : Int32)), .val (.ref b2), .val (.int (2 : Int32)), .val (.int (3 : Int32)), .val (.int (2 : Int32)), .val (.int x2)] [] := (k41.caload (i := 2) (n := 3) X37 hx hZ e37 g_2 rfl rfl (by decide) (by decide) rfl (hb hby d_rmcv1_12)).istore X37 hx (hb hby d_rmcv1_13) rfl
      have k43 : Go p e below m W T37 20 #[.val (.ref b1), .val (.int (2 : Int32)), .val (.ref b2), .val (.int (2 : Int32)), .val (.int (3 : Int32)), .val (.int (2 : Int32)), .val (.int x2)] [(.int (255 : Int32)), (.int x2)] := (k42.iload X37 hx (hb hby d_rmcv1_15) rfl).sipush X37 hx (hb hby d_rmcv1_17) (v := (255 : Int32)) rfl
      by_cases hc20_44 : (255 : Int32) < x2
      ·
        have k45 : Go p e below m W T37 25 #[.val (.ref b1), .val (.int (2 : Int32)), .val (.ref b2), .val (.int (2 : Int32)), .val (.int (3 : Int32)), .val (.int (2 : Int32)), .val (.int x2)] [(.int (2 : Int32))] := (k43.icmpNo X37 hx (hb hby d_rmcv1_20) (XT.ii_le_f hc20_44)).iload X37 hx (hb hby d_rmcv1_23) rfl
        exact k45.ireturnI X37 hx Bd.returns (hb hby d_rmcv1_25) (BodyLoose.notSynchronized Bd) (by rw [e37]; exact ⟨(2 : Int32), [(.int (x0).toInt8.toInt32), (.int (x1).toInt8.toInt32), (.int (0 : Int32))], rfl, N37, K37, (Or.inr (Or.inr (Or.inl ⟨hc20_44, rfl⟩))), V37⟩) (by decide) (by decide)
      ·
        have k46 : Go p e below m W T37 31 #[.val (.ref b1), .val (.int (2 : Int32)), .val (.ref b2), .val (.int (2 : Int32)), .val (.int (3 : Int32)), .val (.int (2 : Int32)), .val (.int x2)] [(.int (x2).toInt8.toInt32), (.int (2 : Int32)), (.ref b2)] := ((((k43.icmpYes X37 hx (hb hby d_rmcv1_20) (XT.ii_le_t hc20_44) (by decide) (by decide)).aloadN X37 hx (hb hby d_rmcv1_26) rfl rfl).iloadN X37 hx (hb hby d_rmcv1_27) rfl).iload X37 hx (hb hby d_rmcv1_28) rfl).i2b X37 hx (hb hby d_rmcv1_30)
        obtain ⟨T47, h47, l47, X47, e47, W47, V47, N47, k47⟩ := k46.bastore (i := 2) X37 hx hZ e37 V37 rfl rfl (by decide) (Nat.le_of_ble_eq_true rfl) N37 G2 (hb hby d_rmcv1_31)
        have k47 : Go p e below m W T47 32 #[.val (.ref b1), .val (.int (2 : Int32)), .val (.ref b2), .val (.int (2 : Int32)), .val (.int (3 : Int32)), .val (.int (2 : Int32)), .val (.int x2)] [] := k47
        have Z47 : n0 ≤ h47.size := (Wr.size W47).symm ▸ Z37
        rw [own_narb] at V47
        have V47 : Arv Z h47 b2 k2 .byte (3 : Int32) [(.int (x0).toInt8.toInt32), (.int (x1).toInt8.toInt32), (.int (x2).toInt8.toInt32)] (.int (0 : Int32)) := V47
        have K47 : Keep h0 h47 [b2] := K37.wr W47 (Or.inl (List.mem_of_getElem? (i := 0) rfl))
        have k48 : Go p e below m W T47 35 #[.val (.ref b1), .val (.int (3 : Int32)), .val (.ref b2), .val (.int (2 : Int32)), .val (.int (3 : Int32)), .val (.int (2 : Int32)), .val (.int x2)] [] := k47.iinc X47 hx (hb hby d_rmcv1_32) (v := (1 : Int32)) rfl rfl rfl
        have k49 : Go p e below m W T47 38 #[.val (.ref b1), .val (.int (3 : Int32)), .val (.ref b2), .val (.int (3 : Int32)), .val (.int (3 : Int32)), .val (.int (2 : Int32)), .val (.int x2)] [] := k48.iinc X47 hx (hb hby d_rmcv1_35) (v := (1 : Int32)) rfl rfl rfl
        have k50 : Go p e below m W T47 41 #[.val (.ref b1), .val (.int (3 : Int32)), .val (.ref b2), .val (.int (3 : Int32)), .val (.int (3 : Int32)), .val (.int (3 : Int32)), .val (.int x2)] [] := k49.iinc X47 hx (hb hby d_rmcv1_38) (v := (1 : Int32)) rfl rfl rfl
        have k51 : Go p e below m W T47 46 #[.val (.ref b1), .val (.int (3 : Int32)), .val (.ref b2), .val (.int (3 : Int32)), .val (.int (3 : Int32)), .val (.int (3 : Int32)), .val (.int x2)] [(.int (3 : Int32))] := ((((k50.goto X47 hx (hb hby d_rmcv1_41) (by decide) (by decide)).iload X47 hx (hb hby d_rmcv1_3) rfl).iload X47 hx (hb hby d_rmcv1_5) rfl).icmpYes X47 hx (hb hby d_rmcv1_7) (XT.ii_ge_t (by decide)) (by decide) (by decide)).iload X47 hx (hb hby d_rmcv1_44) rfl
        exact k51.ireturnI X47 hx Bd.returns (hb hby d_rmcv1_46) (BodyLoose.notSynchronized Bd) (by rw [e47]; exact ⟨(3 : Int32), [(.int (x0).toInt8.toInt32), (.int (x1).toInt8.toInt32), (.int (x2).toInt8.toInt32)], rfl, N47, K47, (Or.inr (Or.inr (Or.inr ⟨hc20_24, hc20_34, hc20_44, rfl, rfl⟩))), V47⟩) (by decide) (by decide)

theorem ef_rmcw3 (m : MethodId) (b1 : Addr) : entryFrame m #[(.ref b1), (.int (0 : Int32)), (.int (3 : Int32))] 6 = mkF m 0 #[.val (.ref b1), .val (.int (0 : Int32)), .val (.int (3 : Int32)), .unset, .unset, .unset] [] := by first | (simp [entryFrame, mkF, argsToLocals, Value.category]; done) | rfl
def Q_rmcw3 (Z : State) (b1 : Addr) (k1 : ClassId) (x0 : Int32) (x1 : Int32) (x2 : Int32) (h0 : Heap) (n0 : Nat) (v : Option Value) (h : Heap) (L : List Loc) : Prop := ∃ (ob : Addr) (ok : ClassId) (zz : Int32) (vs : List Value), v = some (.ref ob) ∧ Fr n0 L ∧ Keep h0 h [] ∧ (((¬ ((255 : Int32) < x0)) ∧ (¬ ((255 : Int32) < x1)) ∧ (¬ ((255 : Int32) < x2)) ∧ zz = (3 : Int32) ∧ vs = [(.int (x0).toInt8.toInt32), (.int (x1).toInt8.toInt32), (.int (x2).toInt8.toInt32)]) ∨ (zz = (6 : Int32) ∧ vs = [(.int (own_b0 x0)), (.int (own_b1 x0)), (.int (own_b0 x1)), (.int (own_b1 x1)), (.int (own_b0 x2)), (.int (own_b1 x2))])) ∧ Arv Z h ob ok .byte zz vs (.int (0 : Int32)) ∧ n0 ≤ ob ∧ h0.size ≤ ob
set_option maxRecDepth 65536 in
set_option maxHeartbeats 40000000 in
theorem rmcw3 (l : Launch) (Z : State) (a0 : Array Value) (hw : ∀ d ∈ tables_1, d.before a0 Z = true) (ws : List Jvm.Cond) (b1 : Addr) (k1 : ClassId) (x0 : Int32) (x1 : Int32) (x2 : Int32) (h0 : Heap) (n0 : Nat) (Z0 : n0 ≤ h0.size) (O0 : Old Z n0 h0) (SAD : Sta Z Z.heap "java/lang/StringUTF16" "$assertionsDisabled" "Z" (.int (1 : Int32))) (SHI : Sta Z Z.heap "java/lang/StringUTF16" "HI_BYTE_SHIFT" "I" (.int (0 : Int32))) (SLO : Sta Z Z.heap "java/lang/StringUTF16" "LO_BYTE_SHIFT" "I" (.int (8 : Int32))) (V1 : Arv Z h0 b1 k1 .char (3 : Int32) [(.int x0), (.int x1), (.int x2)] (.int (0 : Int32))) (R0 : own_rk x0) (R1 : own_rk x1) (R2 : own_rk x2) :
    MetFree l (⟨"java/lang/StringUTF16", "compress", "([CII)[B"⟩ : MethodName) (head1 (Jvm.Cond.code (⟨"java/lang/StringUTF16", "compress", "([CII)[B"⟩ : MethodName) jdk_52_method_16_code 6 (some (.array .byte)) :: ws) ({ frames := 3, cells := 2, slots := 9, locals := 40 } : Room)) (fun a U => a = #[(.ref b1), (.int (0 : Int32)), (.int (3 : Int32))] ∧ Z.Warmed39 U.vm ∧ U.heap = h0) (fun _ _ _ _ _ => True) (fun _ U o U' => ∃ v L, o = .returned v ∧ Q_rmcw3 Z b1 k1 x0 x1 x2 h0 n0 v U'.heap L ∧ FrameEnd U o U' L ({ frames := 3, cells := 2, slots := 9, locals := 40 } : Room).cells ({ frames := 3, cells := 2, slots := 9, locals := 40 } : Room).slots) := by
  refine MetFree.of_bodySF (plainFor_of_name pn_rmgc) hisR ?_
  intro p e s m args_ below meth c s₁ Bd hml0 hP hK
  obtain ⟨hargs, hZ, hh⟩ := hP
  have hx := Bd.exec
  have hby := Bd.bytes
  have hml : c.maxLocals = 6 := hml0
  have hown : s.vm.findClass "java/lang/StringUTF16" = some m.cls := findClass_of_methodNamed Bd.named
  have hnm := (name_of_methodNamed Bd.named Bd.method).1
  have X0 : Stand p l e ({ frames := 3, cells := 2, slots := 9, locals := 40 } : Room) s m args_ below meth c s₁ [] 0 0 := Stand.of_body Bd
  have e0 : s₁.heap = h0 := by rw [← hh, Bd.state]; rfl
  have N0 := Fr.nil n0
  have hv : ∀ (i : Nat) {d : Jvm.Cond}, tables_1[i]? = some d → d.before a0 Z = true := fun i d q => hw d (List.mem_of_getElem? q)
  have K0 : Keep h0 h0 [] := Keep.refl _ _
  have k0 : Go p e below m (s₁.setTop (entryFrame m args_ 6)) s₁ 0 #[.val (.ref b1), .val (.int (0 : Int32)), .val (.int (3 : Int32)), .unset, .unset, .unset] [] := by rw [hargs]; exact fun t kt => castTop (ef_rmcw3 m b1) kt
  obtain ⟨W, hWW⟩ : ∃ W, W = s₁.setTop (entryFrame m args_ 6) := ⟨_, rfl⟩
  rw [← hWW] at k0 ⊢
  show Done p e below s W (Q_rmcw3 Z b1 k1 x0 x1 x2 h0 n0) ({ frames := 3, cells := 2, slots := 9, locals := 40 } : Room).cells ({ frames := 3, cells := 2, slots := 9, locals := 40 } : Room).slots
  have k20 : Go p e below m W s₁ 1 #[.val (.ref b1), .val (.int (0 : Int32)), .val (.int (3 : Int32)), .unset, .unset, .unset] [(.int (3 : Int32))] := k0.iloadN X0 hx (hb hby d_rmcw1_0) rfl
  obtain ⟨T21, h21, b21, c21, X21, e21, g21, E21, A21, k21⟩ := k20.newP (cap := 3) (cells' := 1) (slots' := 3) X0 hx hZ (hv 31 rfl) e0 (hb hby d_rmcw1_1) (by decide) (by decide) (by decide) rfl rfl (by decide) (by decide)
  have k21 : Go p e below m W T21 3 #[.val (.ref b1), .val (.int (0 : Int32)), .val (.int (3 : Int32)), .unset, .unset, .unset] [(.ref b21)] := k21
  have Z21 : n0 ≤ h21.size := Nat.le_trans Z0 E21.1
  have G21 : n0 ≤ b21 := g21 ▸ Z0
  have H21 : h0.size ≤ b21 := g21 ▸ K0.1
  have K21 : Keep h0 h21 [] := K0.ext E21
  have V21 : Arv Z h21 b21 c21 .byte (3 : Int32) [(.int (0 : Int32)), (.int (0 : Int32)), (.int (0 : Int32))] (.int (0 : Int32)) := A21 3
  have k22 : Go p e below m W T21 4 #[.val (.ref b1), .val (.int (0 : Int32)), .val (.int (3 : Int32)), .val (.ref b21), .unset, .unset] [] := k21.astoreN X21 hx (hb hby d_rmcw1_3) rfl rfl
  have k23 : Go p e below m W T21 9 #[.val (.ref b1), .val (.int (0 : Int32)), .val (.int (3 : Int32)), .val (.ref b21), .unset, .unset] [(.int (3 : Int32)), (.int (0 : Int32)), (.ref b21), (.int (0 : Int32)), (.ref b1)] := ((((k22.aloadN X21 hx (hb hby d_rmcw1_4) rfl rfl).iloadN X21 hx (hb hby d_rmcw1_5) rfl).aloadN X21 hx (hb hby d_rmcw1_6) rfl rfl).iconst X21 hx (hb hby d_rmcw1_7) (v := (0 : Int32)) rfl).iloadN X21 hx (hb hby d_rmcw1_8) rfl
  have g_1 := V1.ext E21
  have g_2 := (show b1 ≠ b21 from Nat.ne_of_lt (g21 ▸ V1.lt))
  obtain ⟨T24, v24, L24, X24, Q24, k24⟩ := k23.stat (y := (⟨"java/lang/StringUTF16", "compress", "([CI[BII)I"⟩ : MethodName)) (Wd := 0) (cells' := 1) (slots' := 3) (argsL := [(.ref b1), (.int (0 : Int32)), (.ref b21), (.int (0 : Int32)), (.int (3 : Int32))]) (rest := []) X21 hx hZ hown (by rw [hml]; rfl) (hv 72 rfl) (hv 73 rfl) (hv 74 rfl) (hv 70 rfl) (hb hby d_rmcw1_9) (by decide) (rmcv3 l Z a0 hw [] b1 b21 k1 c21 x0 x1 x2 h21 n0 Z21 g_1 V21 G21 g_2) e21 rfl rfl pd_rmcw1_0 rfl (Nat.le_of_eq rfl) (by decide) (by decide) rfl rfl (by decide) (by decide)
  obtain ⟨ro_24, vs_24, rfl, Nq24, Kq24, p24_0, q24_0⟩ := Q24
  have N24 := Fr.app N0 Nq24
  obtain ⟨h24, e24⟩ : ∃ h, T24.heap = h := ⟨_, rfl⟩
  rw [e24] at Kq24 q24_0
  have Z24 : n0 ≤ h24.size := Nat.le_trans Z21 Kq24.1
  have K24 : Keep h0 h24 [] := K21.trans Kq24 (by intro x q; simp only [List.mem_cons, List.not_mem_nil, or_false] at q; rcases q with rfl; exact (Or.inr H21))
  have k24 : Go p e below m W T24 12 #[.val (.ref b1), .val (.int (0 : Int32)), .val (.int (3 : Int32)), .val (.ref b21), .unset, .unset] [(.int ro_24)] := k24
  rcases p24_0 with ⟨hs25, q26⟩ | ⟨hs27, q28⟩ | ⟨hs29, q30⟩ | ⟨hs31, hs32, hs33, q34, q35⟩
  ·
    subst ro_24
    have k36 : Go p e below m W T24 14 #[.val (.ref b1), .val (.int (0 : Int32)), .val (.int (3 : Int32)), .val (.ref b21), .val (.int (0 : Int32)), .unset] [] := k24.istore X24 hx (hb hby d_rmcw1_12) rfl
    have k37 : Go p e below m W T24 23 #[.val (.ref b1), .val (.int (0 : Int32)), .val (.int (3 : Int32)), .val (.ref b21), .val (.int (0 : Int32)), .unset] [(.int (3 : Int32)), (.int (0 : Int32)), (.ref b1)] := (((((k36.iload X24 hx (hb hby d_rmcw1_14) rfl).iloadN X24 hx (hb hby d_rmcw1_16) rfl).icmpNo X24 hx (hb hby d_rmcw1_17) (XT.ii_eq_f (by decide))).aloadN X24 hx (hb hby d_rmcw1_20) rfl rfl).iloadN X24 hx (hb hby d_rmcw1_21) rfl).iloadN X24 hx (hb hby d_rmcw1_22) rfl
    have g_3 := (O0.ext E21).keep Kq24 (by intro x q; simp only [List.mem_cons, List.not_mem_nil, or_false] at q; rcases q with rfl; exact G21)
    have g_4 := g_1.keep Kq24 (by simp only [List.mem_cons, List.not_mem_nil, or_false, not_or]; exact g_2)
    obtain ⟨T38, v38, L38, X38, Q38, k38⟩ := k37.stat (y := (⟨"java/lang/StringUTF16", "toBytes", "([CII)[B"⟩ : MethodName)) (Wd := 0) (cells' := 2) (slots' := 9) (argsL := [(.ref b1), (.int (0 : Int32)), (.int (3 : Int32))]) (rest := []) X24 hx hZ hown (by rw [hml]; rfl) (hv 109 rfl) (hv 110 rfl) (hv 111 rfl) (hv 70 rfl) (hb hby d_rmcw1_23) (by decide) (rmtb3 l Z a0 hw [] b1 k1 x0 x1 x2 h24 n0 Z24 g_3 SAD SHI SLO g_4) e24 rfl rfl pd_rmcw1_1 rfl (Nat.le_of_eq rfl) (by decide) (by decide) rfl rfl (by decide) (by decide)
    obtain ⟨ob_38, ok_38, rfl, Nq38, Kq38, q38_0, q38_1, q38_2⟩ := Q38
    have N38 := Fr.app N24 Nq38
    obtain ⟨h38, e38⟩ : ∃ h, T38.heap = h := ⟨_, rfl⟩
    rw [e38] at Kq38 q38_0
    have Z38 : n0 ≤ h38.size := Nat.le_trans Z24 Kq38.1
    have K38 : Keep h0 h38 [] := K24.trans Kq38 (fun x q => absurd q List.not_mem_nil)
    have H39 : h0.size ≤ ob_38 := Nat.le_trans K24.1 q38_2
    have k38 : Go p e below m W T38 26 #[.val (.ref b1), .val (.int (0 : Int32)), .val (.int (3 : Int32)), .val (.ref b21), .val (.int (0 : Int32)), .unset] [(.ref ob_38)] := k38
    have k40 : Go p e below m W T38 28 #[.val (.ref b1), .val (.int (0 : Int32)), .val (.int (3 : Int32)), .val (.ref b21), .val (.int (0 : Int32)), .val (.ref ob_38)] [] := k38.astore X38 hx (hb hby d_rmcw1_26) rfl rfl
    have k41 : Go p e below m W T38 32 #[.val (.ref b1), .val (.int (0 : Int32)), .val (.int (3 : Int32)), .val (.ref b21), .val (.int (0 : Int32)), .val (.ref ob_38)] [(.int (0 : Int32)), (.ref ob_38)] := (k40.aload X38 hx (hb hby d_rmcw1_28) rfl rfl).iload X38 hx (hb hby d_rmcw1_30) rfl
    have g_5 := g_3.keep Kq38 (fun x q => absurd q List.not_mem_nil)
    obtain ⟨T42, v42, L42, X42, Q42, k42⟩ := k41.stat (y := (⟨"java/lang/StringUTF16", "getChar", "([BI)C"⟩ : MethodName)) (Wd := 0) (cells' := 2) (slots' := 9) (argsL := [(.ref ob_38), (.int (0 : Int32))]) (rest := []) X38 hx hZ hown (by rw [hml]; rfl) (hv 125 rfl) (hv 126 rfl) (hv 127 rfl) (hv 70 rfl) (hb hby d_rmcw1_32) (by decide) (rmgc l Z a0 hw [] ob_38 (0 : Int32) ok_38 (6 : Int32) ([(.int (own_b0 x0)), (.int (own_b1 x0)), (.int (own_b0 x1)), (.int (own_b1 x1)), (.int (own_b0 x2)), (.int (own_b1 x2))]) 6 0 (own_b0 x0) (own_b1 x0) x0 h38 n0 Z38 g_5 SAD SHI SLO q38_0 (by decide) (by decide) (by decide) (by decide) rfl (by decide) (by decide) (by decide) rfl (own_chr R0) R0) e38 rfl rfl pd_rmua_1 rfl (Nat.le_of_eq rfl) (by decide) (by decide) rfl rfl (by decide) (by decide)
    obtain ⟨rfl, Nq42, e42q⟩ := Q42
    have N42 := Fr.app N38 Nq42
    have e42 : T42.heap = h38 := e42q
    have k42 : Go p e below m W T42 35 #[.val (.ref b1), .val (.int (0 : Int32)), .val (.int (3 : Int32)), .val (.ref b21), .val (.int (0 : Int32)), .val (.ref ob_38)] [(.int x0)] := k42
    have k43 : Go p e below m W T42 56 #[.val (.ref b1), .val (.int (0 : Int32)), .val (.int (3 : Int32)), .val (.ref b21), .val (.int (0 : Int32)), .val (.ref ob_38)] [(.ref ob_38)] := ((k42.sipush X42 hx (hb hby d_rmcw1_35) (v := (255 : Int32)) rfl).icmpYes X42 hx (hb hby d_rmcw1_38) (XT.ii_gt_t hs25) (by decide) (by decide)).aload X42 hx (hb hby d_rmcw1_54) rfl rfl
    exact k43.areturn X42 hx Bd.returns rfl rfl (hb hby d_rmcw1_56) (BodyLoose.notSynchronized Bd) (by rw [e42]; exact ⟨ob_38, ok_38, (6 : Int32), [(.int (own_b0 x0)), (.int (own_b1 x0)), (.int (own_b0 x1)), (.int (own_b1 x1)), (.int (own_b0 x2)), (.int (own_b1 x2))], rfl, N42, K38, (Or.inr ⟨rfl, rfl⟩), q38_0, q38_1, H39⟩) (by decide) (by decide)
  ·
    subst ro_24
    have k44 : Go p e below m W T24 14 #[.val (.ref b1), .val (.int (0 : Int32)), .val (.int (3 : Int32)), .val (.ref b21), .val (.int (1 : Int32)), .unset] [] := k24.istore X24 hx (hb hby d_rmcw1_12) rfl
    have k45 : Go p e below m W T24 23 #[.val (.ref b1), .val (.int (0 : Int32)), .val (.int (3 : Int32)), .val (.ref b21), .val (.int (1 : Int32)), .unset] [(.int (3 : Int32)), (.int (0 : Int32)), (.ref b1)] := (((((k44.iload X24 hx (hb hby d_rmcw1_14) rfl).iloadN X24 hx (hb hby d_rmcw1_16) rfl).icmpNo X24 hx (hb hby d_rmcw1_17) (XT.ii_eq_f (by decide))).aloadN X24 hx (hb hby d_rmcw1_20) rfl rfl).iloadN X24 hx (hb hby d_rmcw1_21) rfl).iloadN X24 hx (hb hby d_rmcw1_22) rfl
    have g_6 := (O0.ext E21).keep Kq24 (by intro x q; simp only [List.mem_cons, List.not_mem_nil, or_false] at q; rcases q with rfl; exact G21)
    have g_7 := g_1.keep Kq24 (by simp only [List.mem_cons, List.not_mem_nil, or_false, not_or]; exact g_2)
    obtain ⟨T46, v46, L46, X46, Q46, k46⟩ := k45.stat (y := (⟨"java/lang/StringUTF16", "toBytes", "([CII)[B"⟩ : MethodName)) (Wd := 0) (cells' := 2) (slots' := 9) (argsL := [(.ref b1), (.int (0 : Int32)), (.int (3 : Int32))]) (rest := []) X24 hx hZ hown (by rw [hml]; rfl) (hv 109 rfl) (hv 110 rfl) (hv 111 rfl) (hv 70 rfl) (hb hby d_rmcw1_23) (by decide) (rmtb3 l Z a0 hw [] b1 k1 x0 x1 x2 h24 n0 Z24 g_6 SAD SHI SLO g_7) e24 rfl rfl pd_rmcw1_1 rfl (Nat.le_of_eq rfl) (by decide) (by decide) rfl rfl (by decide) (by decide)
    obtain ⟨ob_46, ok_46, rfl, Nq46, Kq46, q46_0, q46_1, q46_2⟩ := Q46
    have N46 := Fr.app N24 Nq46
    obtain ⟨h46, e46⟩ : ∃ h, T46.heap = h := ⟨_, rfl⟩
    rw [e46] at Kq46 q46_0
    have Z46 : n0 ≤ h46.size := Nat.le_trans Z24 Kq46.1
    have K46 : Keep h0 h46 [] := K24.trans Kq46 (fun x q => absurd q List.not_mem_nil)
    have H47 : h0.size ≤ ob_46 := Nat.le_trans K24.1 q46_2
    have k46 : Go p e below m W T46 26 #[.val (.ref b1), .val (.int (0 : Int32)), .val (.int (3 : Int32)), .val (.ref b21), .val (.int (1 : Int32)), .unset] [(.ref ob_46)] := k46
    have k48 : Go p e below m W T46 28 #[.val (.ref b1), .val (.int (0 : Int32)), .val (.int (3 : Int32)), .val (.ref b21), .val (.int (1 : Int32)), .val (.ref ob_46)] [] := k46.astore X46 hx (hb hby d_rmcw1_26) rfl rfl
    have k49 : Go p e below m W T46 32 #[.val (.ref b1), .val (.int (0 : Int32)), .val (.int (3 : Int32)), .val (.ref b21), .val (.int (1 : Int32)), .val (.ref ob_46)] [(.int (1 : Int32)), (.ref ob_46)] := (k48.aload X46 hx (hb hby d_rmcw1_28) rfl rfl).iload X46 hx (hb hby d_rmcw1_30) rfl
    have g_8 := g_6.keep Kq46 (fun x q => absurd q List.not_mem_nil)
    obtain ⟨T50, v50, L50, X50, Q50, k50⟩ := k49.stat (y := (⟨"java/lang/StringUTF16", "getChar", "([BI)C"⟩ : MethodName)) (Wd := 0) (cells' := 2) (slots' := 9) (argsL := [(.ref ob_46), (.int (1 : Int32))]) (rest := []) X46 hx hZ hown (by rw [hml]; rfl) (hv 125 rfl) (hv 126 rfl) (hv 127 rfl) (hv 70 rfl) (hb hby d_rmcw1_32) (by decide) (rmgc l Z a0 hw [] ob_46 (1 : Int32) ok_46 (6 : Int32) ([(.int (own_b0 x0)), (.int (own_b1 x0)), (.int (own_b0 x1)), (.int (own_b1 x1)), (.int (own_b0 x2)), (.int (own_b1 x2))]) 6 2 (own_b0 x1) (own_b1 x1) x1 h46 n0 Z46 g_8 SAD SHI SLO q46_0 (by decide) (by decide) (by decide) (by decide) rfl (by decide) (by decide) (by decide) rfl (own_chr R1) R1) e46 rfl rfl pd_rmua_1 rfl (Nat.le_of_eq rfl) (by decide) (by decide) rfl rfl (by decide) (by decide)
    obtain ⟨rfl, Nq50, e50q⟩ := Q50
    have N50 := Fr.app N46 Nq50
    have e50 : T50.heap = h46 := e50q
    have k50 : Go p e below m W T50 35 #[.val (.ref b1), .val (.int (0 : Int32)), .val (.int (3 : Int32)), .val (.ref b21), .val (.int (1 : Int32)), .val (.ref ob_46)] [(.int x1)] := k50
    have k51 : Go p e below m W T50 56 #[.val (.ref b1), .val (.int (0 : Int32)), .val (.int (3 : Int32)), .val (.ref b21), .val (.int (1 : Int32)), .val (.ref ob_46)] [(.ref ob_46)] := ((k50.sipush X50 hx (hb hby d_rmcw1_35) (v := (255 : Int32)) rfl).icmpYes X50 hx (hb hby d_rmcw1_38) (XT.ii_gt_t hs27) (by decide) (by decide)).aload X50 hx (hb hby d_rmcw1_54) rfl rfl
    exact k51.areturn X50 hx Bd.returns rfl rfl (hb hby d_rmcw1_56) (BodyLoose.notSynchronized Bd) (by rw [e50]; exact ⟨ob_46, ok_46, (6 : Int32), [(.int (own_b0 x0)), (.int (own_b1 x0)), (.int (own_b0 x1)), (.int (own_b1 x1)), (.int (own_b0 x2)), (.int (own_b1 x2))], rfl, N50, K46, (Or.inr ⟨rfl, rfl⟩), q46_0, q46_1, H47⟩) (by decide) (by decide)
  ·
    subst ro_24
    have k52 : Go p e below m W T24 14 #[.val (.ref b1), .val (.int (0 : Int32)), .val (.int (3 : Int32)), .val (.ref b21), .val (.int (2 : Int32)), .unset] [] := k24.istore X24 hx (hb hby d_rmcw1_12) rfl
    have k53 : Go p e below m W T24 23 #[.val (.ref b1), .val (.int (0 : Int32)), .val (.int (3 : Int32)), .val (.ref b21), .val (.int (2 : Int32)), .unset] [(.int (3 : Int32)), (.int (0 : Int32)), (.ref b1)] := (((((k52.iload X24 hx (hb hby d_rmcw1_14) rfl).iloadN X24 hx (hb hby d_rmcw1_16) rfl).icmpNo X24 hx (hb hby d_rmcw1_17) (XT.ii_eq_f (by decide))).aloadN X24 hx (hb hby d_rmcw1_20) rfl rfl).iloadN X24 hx (hb hby d_rmcw1_21) rfl).iloadN X24 hx (hb hby d_rmcw1_22) rfl
    have g_9 := (O0.ext E21).keep Kq24 (by intro x q; simp only [List.mem_cons, List.not_mem_nil, or_false] at q; rcases q with rfl; exact G21)
    have g_10 := g_1.keep Kq24 (by simp only [List.mem_cons, List.not_mem_nil, or_false, not_or]; exact g_2)
    obtain ⟨T54, v54, L54, X54, Q54, k54⟩ := k53.stat (y := (⟨"java/lang/StringUTF16", "toBytes", "([CII)[B"⟩ : MethodName)) (Wd := 0) (cells' := 2) (slots' := 9) (argsL := [(.ref b1), (.int (0 : Int32)), (.int (3 : Int32))]) (rest := []) X24 hx hZ hown (by rw [hml]; rfl) (hv 109 rfl) (hv 110 rfl) (hv 111 rfl) (hv 70 rfl) (hb hby d_rmcw1_23) (by decide) (rmtb3 l Z a0 hw [] b1 k1 x0 x1 x2 h24 n0 Z24 g_9 SAD SHI SLO g_10) e24 rfl rfl pd_rmcw1_1 rfl (Nat.le_of_eq rfl) (by decide) (by decide) rfl rfl (by decide) (by decide)
    obtain ⟨ob_54, ok_54, rfl, Nq54, Kq54, q54_0, q54_1, q54_2⟩ := Q54
    have N54 := Fr.app N24 Nq54
    obtain ⟨h54, e54⟩ : ∃ h, T54.heap = h := ⟨_, rfl⟩
    rw [e54] at Kq54 q54_0
    have Z54 : n0 ≤ h54.size := Nat.le_trans Z24 Kq54.1
    have K54 : Keep h0 h54 [] := K24.trans Kq54 (fun x q => absurd q List.not_mem_nil)
    have H55 : h0.size ≤ ob_54 := Nat.le_trans K24.1 q54_2
    have k54 : Go p e below m W T54 26 #[.val (.ref b1), .val (.int (0 : Int32)), .val (.int (3 : Int32)), .val (.ref b21), .val (.int (2 : Int32)), .unset] [(.ref ob_54)] := k54
    have k56 : Go p e below m W T54 28 #[.val (.ref b1), .val (.int (0 : Int32)), .val (.int (3 : Int32)), .val (.ref b21), .val (.int (2 : Int32)), .val (.ref ob_54)] [] := k54.astore X54 hx (hb hby d_rmcw1_26) rfl rfl
    have k57 : Go p e below m W T54 32 #[.val (.ref b1), .val (.int (0 : Int32)), .val (.int (3 : Int32)), .val (.ref b21), .val (.int (2 : Int32)), .val (.ref ob_54)] [(.int (2 : Int32)), (.ref ob_54)] := (k56.aload X54 hx (hb hby d_rmcw1_28) rfl rfl).iload X54 hx (hb hby d_rmcw1_30) rfl
    have g_11 := g_9.keep Kq54 (fun x q => absurd q List.not_mem_nil)
    obtain ⟨T58, v58, L58, X58, Q58, k58⟩ := k57.stat (y := (⟨"java/lang/StringUTF16", "getChar", "([BI)C"⟩ : MethodName)) (Wd := 0) (cells' := 2) (slots' := 9) (argsL := [(.ref ob_54), (.int (2 : Int32))]) (rest := []) X54 hx hZ hown (by rw [hml]; rfl) (hv 125 rfl) (hv 126 rfl) (hv 127 rfl) (hv 70 rfl) (hb hby d_rmcw1_32) (by decide) (rmgc l Z a0 hw [] ob_54 (2 : Int32) ok_54 (6 : Int32) ([(.int (own_b0 x0)), (.int (own_b1 x0)), (.int (own_b0 x1)), (.int (own_b1 x1)), (.int (own_b0 x2)), (.int (own_b1 x2))]) 6 4 (own_b0 x2) (own_b1 x2) x2 h54 n0 Z54 g_11 SAD SHI SLO q54_0 (by decide) (by decide) (by decide) (by decide) rfl (by decide) (by decide) (by decide) rfl (own_chr R2) R2) e54 rfl rfl pd_rmua_1 rfl (Nat.le_of_eq rfl) (by decide) (by decide) rfl rfl (by decide) (by decide)
    obtain ⟨rfl, Nq58, e58q⟩ := Q58
    have N58 := Fr.app N54 Nq58
    have e58 : T58.heap = h54 := e58q
    have k58 : Go p e below m W T58 35 #[.val (.ref b1), .val (.int (0 : Int32)), .val (.int (3 : Int32)), .val (.ref b21), .val (.int (2 : Int32)), .val (.ref ob_54)] [(.int x2)] := k58
    have k59 : Go p e below m W T58 56 #[.val (.ref b1), .val (.int (0 : Int32)), .val (.int (3 : Int32)), .val (.ref b21), .val (.int (2 : Int32)), .val (.ref ob_54)] [(.ref ob_54)] := ((k58.sipush X58 hx (hb hby d_rmcw1_35) (v := (255 : Int32)) rfl).icmpYes X58 hx (hb hby d_rmcw1_38) (XT.ii_gt_t hs29) (by decide) (by decide)).aload X58 hx (hb hby d_rmcw1_54) rfl rfl
    exact k59.areturn X58 hx Bd.returns rfl rfl (hb hby d_rmcw1_56) (BodyLoose.notSynchronized Bd) (by rw [e58]; exact ⟨ob_54, ok_54, (6 : Int32), [(.int (own_b0 x0)), (.int (own_b1 x0)), (.int (own_b0 x1)), (.int (own_b1 x1)), (.int (own_b0 x2)), (.int (own_b1 x2))], rfl, N58, K54, (Or.inr ⟨rfl, rfl⟩), q54_0, q54_1, H55⟩) (by decide) (by decide)
  ·
    subst ro_24
    subst vs_24
    have k60 : Go p e below m W T24 14 #[.val (.ref b1), .val (.int (0 : Int32)), .val (.int (3 : Int32)), .val (.ref b21), .val (.int (3 : Int32)), .unset] [] := k24.istore X24 hx (hb hby d_rmcw1_12) rfl
    have k61 : Go p e below m W T24 58 #[.val (.ref b1), .val (.int (0 : Int32)), .val (.int (3 : Int32)), .val (.ref b21), .val (.int (3 : Int32)), .unset] [(.ref b21)] := (((k60.iload X24 hx (hb hby d_rmcw1_14) rfl).iloadN X24 hx (hb hby d_rmcw1_16) rfl).icmpYes X24 hx (hb hby d_rmcw1_17) (XT.ii_eq_t (by decide)) (by decide) (by decide)).aloadN X24 hx (hb hby d_rmcw1_57) rfl rfl
    exact k61.areturn X24 hx Bd.returns rfl rfl (hb hby d_rmcw1_58) (BodyLoose.notSynchronized Bd) (by rw [e24]; exact ⟨b21, c21, (3 : Int32), [(.int (x0).toInt8.toInt32), (.int (x1).toInt8.toInt32), (.int (x2).toInt8.toInt32)], rfl, N24, K24, (Or.inl ⟨hs31, hs32, hs33, rfl, rfl⟩), q24_0, G21, H21⟩) (by decide) (by decide)

theorem ef_rmcf3_3 (m : MethodId) (a1 : Addr) : entryFrame m #[(.ref a1), (.int (3 : Int32))] 2 = mkF m 0 #[.val (.ref a1), .val (.int (3 : Int32))] [] := by first | (simp [entryFrame, mkF, argsToLocals, Value.category]; done) | rfl
def Q_rmcf3_3 (Z : State) (a1 : Addr) (kb : ClassId) (vs : List Value) (h0 : Heap) (n0 : Nat) (v : Option Value) (h : Heap) (L : List Loc) : Prop := v = some (.int (0 : Int32)) ∧ Fr n0 L ∧ h = h0
set_option maxRecDepth 65536 in
set_option maxHeartbeats 40000000 in
theorem rmcf3_3 (l : Launch) (Z : State) (a0 : Array Value) (hw : ∀ d ∈ tables_1, d.before a0 Z = true) (ws : List Jvm.Cond) (a1 : Addr) (kb : ClassId) (vs : List Value) (h0 : Heap) (n0 : Nat) (Z0 : n0 ≤ h0.size) (V1 : Arv Z h0 a1 kb .byte (3 : Int32) vs (.int (0 : Int32))) :
    MetFree l (⟨"java/lang/StringUTF16", "coderFromArrayLen", "([BI)B"⟩ : MethodName) (head1 (Jvm.Cond.code (⟨"java/lang/StringUTF16", "coderFromArrayLen", "([BI)B"⟩ : MethodName) jdk_52_method_15_code 2 (some .byte) :: ws) ({ frames := 0, cells := 0, slots := 0, locals := 0 } : Room)) (fun a U => a = #[(.ref a1), (.int (3 : Int32))] ∧ Z.Warmed39 U.vm ∧ U.heap = h0) (fun _ _ _ _ _ => True) (fun _ U o U' => ∃ v L, o = .returned v ∧ Q_rmcf3_3 Z a1 kb vs h0 n0 v U'.heap L ∧ FrameEnd U o U' L ({ frames := 0, cells := 0, slots := 0, locals := 0 } : Room).cells ({ frames := 0, cells := 0, slots := 0, locals := 0 } : Room).slots) := by
  refine MetFree.of_bodySF (plainFor_of_name pn_rmgc) hisR ?_
  intro p e s m args_ below meth c s₁ Bd hml0 hP hK
  obtain ⟨hargs, hZ, hh⟩ := hP
  have hx := Bd.exec
  have hby := Bd.bytes
  have hml : c.maxLocals = 2 := hml0
  have hown : s.vm.findClass "java/lang/StringUTF16" = some m.cls := findClass_of_methodNamed Bd.named
  have hnm := (name_of_methodNamed Bd.named Bd.method).1
  have X0 : Stand p l e ({ frames := 0, cells := 0, slots := 0, locals := 0 } : Room) s m args_ below meth c s₁ [] 0 0 := Stand.of_body Bd
  have e0 : s₁.heap = h0 := by rw [← hh, Bd.state]; rfl
  have N0 := Fr.nil n0
  have hv : ∀ (i : Nat) {d : Jvm.Cond}, tables_1[i]? = some d → d.before a0 Z = true := fun i d q => hw d (List.mem_of_getElem? q)
  have k0 : Go p e below m (s₁.setTop (entryFrame m args_ 2)) s₁ 0 #[.val (.ref a1), .val (.int (3 : Int32))] [] := by rw [hargs]; exact fun t kt => castTop (ef_rmcf3_3 m a1) kt
  obtain ⟨W, hWW⟩ : ∃ W, W = s₁.setTop (entryFrame m args_ 2) := ⟨_, rfl⟩
  rw [← hWW] at k0 ⊢
  show Done p e below s W (Q_rmcf3_3 Z a1 kb vs h0 n0) ({ frames := 0, cells := 0, slots := 0, locals := 0 } : Room).cells ({ frames := 0, cells := 0, slots := 0, locals := 0 } : Room).slots
  have k20 : Go p e below m W s₁ 2 #[.val (.ref a1), .val (.int (3 : Int32))] [(.ref a1), (.int (3 : Int32))] := (k0.iloadN X0 hx (hb hby d_rmcf1_1_0) rfl).aloadN X0 hx (hb hby d_rmcf1_1_1) rfl rfl
  have k21 : Go p e below m W s₁ 8 #[.val (.ref a1), .val (.int (3 : Int32))] [(.int (0 : Int32))] := (((((((k20.arraylength X0 hx hZ e0 V1 (hb hby d_rmcf1_1_2)).isub X0 hx (hb hby d_rmcf1_1_3)).cast (y := (0 : Int32)) (by decide)).bipush X0 hx (hb hby d_rmcf1_1_4) (v := (31 : Int32)) rfl).iushr X0 hx (hb hby d_rmcf1_1_6)).cast (y := (0 : Int32)) (by decide)).i2b X0 hx (hb hby d_rmcf1_1_7)).cast (y := (0 : Int32)) (by decide)
  exact k21.ireturnN X0 hx (t := .byte) Bd.returns (by simp) rfl (hb hby d_rmcf1_1_8) (BodyLoose.notSynchronized Bd) (by rw [e0]; exact ⟨rfl, N0, rfl⟩) (by decide) (by decide)

theorem ef_rmcf3_6 (m : MethodId) (a1 : Addr) : entryFrame m #[(.ref a1), (.int (3 : Int32))] 2 = mkF m 0 #[.val (.ref a1), .val (.int (3 : Int32))] [] := by first | (simp [entryFrame, mkF, argsToLocals, Value.category]; done) | rfl
def Q_rmcf3_6 (Z : State) (a1 : Addr) (kb : ClassId) (vs : List Value) (h0 : Heap) (n0 : Nat) (v : Option Value) (h : Heap) (L : List Loc) : Prop := v = some (.int (1 : Int32)) ∧ Fr n0 L ∧ h = h0
set_option maxRecDepth 65536 in
set_option maxHeartbeats 40000000 in
theorem rmcf3_6 (l : Launch) (Z : State) (a0 : Array Value) (hw : ∀ d ∈ tables_1, d.before a0 Z = true) (ws : List Jvm.Cond) (a1 : Addr) (kb : ClassId) (vs : List Value) (h0 : Heap) (n0 : Nat) (Z0 : n0 ≤ h0.size) (V1 : Arv Z h0 a1 kb .byte (6 : Int32) vs (.int (0 : Int32))) :
    MetFree l (⟨"java/lang/StringUTF16", "coderFromArrayLen", "([BI)B"⟩ : MethodName) (head1 (Jvm.Cond.code (⟨"java/lang/StringUTF16", "coderFromArrayLen", "([BI)B"⟩ : MethodName) jdk_52_method_15_code 2 (some .byte) :: ws) ({ frames := 0, cells := 0, slots := 0, locals := 0 } : Room)) (fun a U => a = #[(.ref a1), (.int (3 : Int32))] ∧ Z.Warmed39 U.vm ∧ U.heap = h0) (fun _ _ _ _ _ => True) (fun _ U o U' => ∃ v L, o = .returned v ∧ Q_rmcf3_6 Z a1 kb vs h0 n0 v U'.heap L ∧ FrameEnd U o U' L ({ frames := 0, cells := 0, slots := 0, locals := 0 } : Room).cells ({ frames := 0, cells := 0, slots := 0, locals := 0 } : Room).slots) := by
  refine MetFree.of_bodySF (plainFor_of_name pn_rmgc) hisR ?_
  intro p e s m args_ below meth c s₁ Bd hml0 hP hK
  obtain ⟨hargs, hZ, hh⟩ := hP
  have hx := Bd.exec
  have hby := Bd.bytes
  have hml : c.maxLocals = 2 := hml0
  have hown : s.vm.findClass "java/lang/StringUTF16" = some m.cls := findClass_of_methodNamed Bd.named
  have hnm := (name_of_methodNamed Bd.named Bd.method).1
  have X0 : Stand p l e ({ frames := 0, cells := 0, slots := 0, locals := 0 } : Room) s m args_ below meth c s₁ [] 0 0 := Stand.of_body Bd
  have e0 : s₁.heap = h0 := by rw [← hh, Bd.state]; rfl
  have N0 := Fr.nil n0
  have hv : ∀ (i : Nat) {d : Jvm.Cond}, tables_1[i]? = some d → d.before a0 Z = true := fun i d q => hw d (List.mem_of_getElem? q)
  have k0 : Go p e below m (s₁.setTop (entryFrame m args_ 2)) s₁ 0 #[.val (.ref a1), .val (.int (3 : Int32))] [] := by rw [hargs]; exact fun t kt => castTop (ef_rmcf3_6 m a1) kt
  obtain ⟨W, hWW⟩ : ∃ W, W = s₁.setTop (entryFrame m args_ 2) := ⟨_, rfl⟩
  rw [← hWW] at k0 ⊢
  show Done p e below s W (Q_rmcf3_6 Z a1 kb vs h0 n0) ({ frames := 0, cells := 0, slots := 0, locals := 0 } : Room).cells ({ frames := 0, cells := 0, slots := 0, locals := 0 } : Room).slots
  have k20 : Go p e below m W s₁ 2 #[.val (.ref a1), .val (.int (3 : Int32))] [(.ref a1), (.int (3 : Int32))] := (k0.iloadN X0 hx (hb hby d_rmcf1_1_0) rfl).aloadN X0 hx (hb hby d_rmcf1_1_1) rfl rfl
  have k21 : Go p e below m W s₁ 8 #[.val (.ref a1), .val (.int (3 : Int32))] [(.int (1 : Int32))] := (((((((k20.arraylength X0 hx hZ e0 V1 (hb hby d_rmcf1_1_2)).isub X0 hx (hb hby d_rmcf1_1_3)).cast (y := (-3 : Int32)) (by decide)).bipush X0 hx (hb hby d_rmcf1_1_4) (v := (31 : Int32)) rfl).iushr X0 hx (hb hby d_rmcf1_1_6)).cast (y := (1 : Int32)) (by decide)).i2b X0 hx (hb hby d_rmcf1_1_7)).cast (y := (1 : Int32)) (by decide)
  exact k21.ireturnN X0 hx (t := .byte) Bd.returns (by simp) rfl (hb hby d_rmcf1_1_8) (BodyLoose.notSynchronized Bd) (by rw [e0]; exact ⟨rfl, N0, rfl⟩) (by decide) (by decide)

theorem ef_rmi4_3 (m : MethodId) (a1 : Addr) (b1 : Addr) : entryFrame m #[(.ref a1), (.ref b1), (.int (0 : Int32)), (.int (3 : Int32)), .null] 6 = mkF m 0 #[.val (.ref a1), .val (.ref b1), .val (.int (0 : Int32)), .val (.int (3 : Int32)), .val .null, .unset] [] := by first | (simp [entryFrame, mkF, argsToLocals, Value.category]; done) | rfl
def Q_rmi4_3 (Z : State) (a1 : Addr) (b1 : Addr) (k1 : ClassId) (x0 : Int32) (x1 : Int32) (x2 : Int32) (u0 : Value) (u1 : Value) (cz : Int32) (h0 : Heap) (n0 : Nat) (v : Option Value) (h : Heap) (L : List Loc) : Prop := ∃ (ot : Addr) (ok : ClassId) (zz : Int32) (cd : Int32) (vs : List Value), v = none ∧ Fr n0 L ∧ Keep h0 h [a1] ∧ (own_Enc [x0, x1, x2] zz cd vs) ∧ Exa Z h a1 "java/lang/String" ∧ Fld Z h a1 "java/lang/String" "value" "[B" (.ref ot) ∧ Fld Z h a1 "java/lang/String" "coder" "B" (.int cd) ∧ Arv Z h ot ok .byte zz vs (.int (0 : Int32))
set_option maxRecDepth 65536 in
set_option maxHeartbeats 40000000 in
theorem rmi4_3 (l : Launch) (Z : State) (a0 : Array Value) (hw : ∀ d ∈ tables_1, d.before a0 Z = true) (ws : List Jvm.Cond) (a1 : Addr) (b1 : Addr) (k1 : ClassId) (x0 : Int32) (x1 : Int32) (x2 : Int32) (u0 : Value) (u1 : Value) (cz : Int32) (h0 : Heap) (n0 : Nat) (Z0 : n0 ≤ h0.size) (O0 : Old Z n0 h0) (SCZ : Sta Z Z.heap "java/lang/String" "COMPACT_STRINGS" "Z" (.int cz)) (hcz : ¬ (cz = (0 : Int32))) (SAD : Sta Z Z.heap "java/lang/StringUTF16" "$assertionsDisabled" "Z" (.int (1 : Int32))) (SHI : Sta Z Z.heap "java/lang/StringUTF16" "HI_BYTE_SHIFT" "I" (.int (0 : Int32))) (SLO : Sta Z Z.heap "java/lang/StringUTF16" "LO_BYTE_SHIFT" "I" (.int (8 : Int32))) (E1 : Exa Z h0 a1 "java/lang/String") (G1 : n0 ≤ a1) (F0 : Fld Z h0 a1 "java/lang/String" "value" "[B" u0) (F1 : Fld Z h0 a1 "java/lang/String" "coder" "B" u1) (V1 : Arv Z h0 b1 k1 .char (3 : Int32) [(.int x0), (.int x1), (.int x2)] (.int (0 : Int32))) (R0 : own_rk x0) (R1 : own_rk x1) (R2 : own_rk x2) :
    MetFree l (⟨"java/lang/String", "<init>", "([CIILjava/lang/Void;)V"⟩ : MethodName) (head1 (Jvm.Cond.code (⟨"java/lang/String", "<init>", "([CIILjava/lang/Void;)V"⟩ : MethodName) jdk_42_method_149_code 6 none :: ws) ({ frames := 4, cells := 2, slots := 9, locals := 57 } : Room)) (fun a U => a = #[(.ref a1), (.ref b1), (.int (0 : Int32)), (.int (3 : Int32)), .null] ∧ Z.Warmed39 U.vm ∧ U.heap = h0) (fun _ _ _ _ _ => True) (fun _ U o U' => ∃ v L, o = .returned v ∧ Q_rmi4_3 Z a1 b1 k1 x0 x1 x2 u0 u1 cz h0 n0 v U'.heap L ∧ FrameEnd U o U' L ({ frames := 4, cells := 2, slots := 9, locals := 57 } : Room).cells ({ frames := 4, cells := 2, slots := 9, locals := 57 } : Room).slots) := by
  refine MetFree.of_bodySF (plainFor_of_name pn_rmci) hisR ?_
  intro p e s m args_ below meth c s₁ Bd hml0 hP hK
  obtain ⟨hargs, hZ, hh⟩ := hP
  have hx := Bd.exec
  have hby := Bd.bytes
  have hml : c.maxLocals = 6 := hml0
  have hown : s.vm.findClass "java/lang/String" = some m.cls := findClass_of_methodNamed Bd.named
  have hnm := (name_of_methodNamed Bd.named Bd.method).1
  have X0 : Stand p l e ({ frames := 4, cells := 2, slots := 9, locals := 57 } : Room) s m args_ below meth c s₁ [] 0 0 := Stand.of_body Bd
  have e0 : s₁.heap = h0 := by rw [← hh, Bd.state]; rfl
  have N0 := Fr.nil n0
  have hv : ∀ (i : Nat) {d : Jvm.Cond}, tables_1[i]? = some d → d.before a0 Z = true := fun i d q => hw d (List.mem_of_getElem? q)
  have K0 : Keep h0 h0 [a1] := Keep.refl _ _
  have k0 : Go p e below m (s₁.setTop (entryFrame m args_ 6)) s₁ 0 #[.val (.ref a1), .val (.ref b1), .val (.int (0 : Int32)), .val (.int (3 : Int32)), .val .null, .unset] [] := by rw [hargs]; exact fun t kt => castTop (ef_rmi4_3 m a1 b1) kt
  obtain ⟨W, hWW⟩ : ∃ W, W = s₁.setTop (entryFrame m args_ 6) := ⟨_, rfl⟩
  rw [← hWW] at k0 ⊢
  show Done p e below s W (Q_rmi4_3 Z a1 b1 k1 x0 x1 x2 u0 u1 cz h0 n0) ({ frames := 4, cells := 2, slots := 9, locals := 57 } : Room).cells ({ frames := 4, cells := 2, slots := 9, locals := 57 } : Room).slots
  have k20 : Go p e below m W s₁ 1 #[.val (.ref a1), .val (.ref b1), .val (.int (0 : Int32)), .val (.int (3 : Int32)), .val .null, .unset] [(.ref a1)] := k0.aloadN X0 hx (hb hby d_rms4_0) rfl rfl
  obtain ⟨T21, X21, e21, k21⟩ := k20.initO (Wd := 0) X0 hx hZ hown (by rw [hml]; rfl) (hv 27 rfl) (hv 28 rfl) (hv 29 rfl) e0 (hb hby d_rms4_1) (Nat.le_of_eq rfl) (by decide) (by decide)
  have k21 : Go p e below m W T21 4 #[.val (.ref a1), .val (.ref b1), .val (.int (0 : Int32)), .val (.int (3 : Int32)), .val .null, .unset] [] := k21
  have k22 : Go p e below m W T21 27 #[.val (.ref a1), .val (.ref b1), .val (.int (0 : Int32)), .val (.int (3 : Int32)), .val .null, .unset] [] := (k21.iloadN X21 hx (hb hby d_rms4_4) rfl).ifYes X21 hx (hb hby d_rms4_5) (XT.i0_ne_t (by decide)) (by decide) (by decide)
  obtain ⟨T23, X23, e23, k23⟩ := k22.getS X21 hx hZ hown (host := "") (Or.inl (hv 52 rfl)) Via.refl e21 (SCZ.ext O0.2) (hb hby d_rms4_27)
  have k23 : Go p e below m W T23 30 #[.val (.ref a1), .val (.ref b1), .val (.int (0 : Int32)), .val (.int (3 : Int32)), .val .null, .unset] [(.int cz)] := k23
  have k24 : Go p e below m W T23 36 #[.val (.ref a1), .val (.ref b1), .val (.int (0 : Int32)), .val (.int (3 : Int32)), .val .null, .unset] [(.int (3 : Int32)), (.int (0 : Int32)), (.ref b1)] := (((k23.ifNo X23 hx (hb hby d_rms4_30) (XT.i0_eq_f hcz)).aloadN X23 hx (hb hby d_rms4_33) rfl rfl).iloadN X23 hx (hb hby d_rms4_34) rfl).iloadN X23 hx (hb hby d_rms4_35) rfl
  obtain ⟨T25, v25, L25, X25, Q25, k25⟩ := k24.stat (y := (⟨"java/lang/StringUTF16", "compress", "([CII)[B"⟩ : MethodName)) (Wd := 0) (cells' := 2) (slots' := 9) (argsL := [(.ref b1), (.int (0 : Int32)), (.int (3 : Int32))]) (rest := []) X23 hx hZ hown (by rw [hml]; rfl) (hv 68 rfl) (hv 69 rfl) (hv 71 rfl) (hv 70 rfl) (hb hby d_rms4_36) (by decide) (rmcw3 l Z a0 hw [] b1 k1 x0 x1 x2 h0 n0 Z0 O0 SAD SHI SLO V1 R0 R1 R2) e23 rfl rfl pd_rmcw1_1 rfl (Nat.le_of_eq rfl) (by decide) (by decide) rfl rfl (by decide) (by decide)
  obtain ⟨ob_25, ok_25, zz_25, vs_25, rfl, Nq25, Kq25, p25_0, q25_0, q25_1, q25_2⟩ := Q25
  have N25 := Fr.app N0 Nq25
  obtain ⟨h25, e25⟩ : ∃ h, T25.heap = h := ⟨_, rfl⟩
  rw [e25] at Kq25 q25_0
  have Z25 : n0 ≤ h25.size := Nat.le_trans Z0 Kq25.1
  have K25 : Keep h0 h25 [a1] := K0.trans Kq25 (fun x q => absurd q List.not_mem_nil)
  have H26 : h0.size ≤ ob_25 := Nat.le_trans K0.1 q25_2
  have k25 : Go p e below m W T25 39 #[.val (.ref a1), .val (.ref b1), .val (.int (0 : Int32)), .val (.int (3 : Int32)), .val .null, .unset] [(.ref ob_25)] := k25
  rcases p25_0 with ⟨hs27, hs28, hs29, q30, q31⟩ | ⟨q32, q33⟩
  ·
    subst zz_25
    subst vs_25
    have k34 : Go p e below m W T25 41 #[.val (.ref a1), .val (.ref b1), .val (.int (0 : Int32)), .val (.int (3 : Int32)), .val .null, .val (.ref ob_25)] [] := k25.astore X25 hx (hb hby d_rms4_39) rfl rfl
    have k35 : Go p e below m W T25 45 #[.val (.ref a1), .val (.ref b1), .val (.int (0 : Int32)), .val (.int (3 : Int32)), .val .null, .val (.ref ob_25)] [(.int (3 : Int32)), (.ref ob_25), (.ref a1)] := ((k34.aloadN X25 hx (hb hby d_rms4_41) rfl rfl).aload X25 hx (hb hby d_rms4_42) rfl rfl).iloadN X25 hx (hb hby d_rms4_44) rfl
    obtain ⟨T36, v36, L36, X36, Q36, k36⟩ := k35.stat (y := (⟨"java/lang/StringUTF16", "coderFromArrayLen", "([BI)B"⟩ : MethodName)) (Wd := 1) (cells' := 2) (slots' := 9) (argsL := [(.ref ob_25), (.int (3 : Int32))]) (rest := [(.ref a1)]) X25 hx hZ hown (by rw [hml]; rfl) (hv 75 rfl) (hv 76 rfl) (hv 77 rfl) (hv 70 rfl) (hb hby d_rms4_45) (by decide) (rmcf3_3 l Z a0 hw [] ob_25 ok_25 ([(.int (x0).toInt8.toInt32), (.int (x1).toInt8.toInt32), (.int (x2).toInt8.toInt32)]) h25 n0 Z25 q25_0) e25 rfl rfl pd_rmi4_1_1 rfl (Nat.le_of_eq rfl) (by decide) (by decide) rfl rfl (by decide) (by decide)
    obtain ⟨rfl, Nq36, e36q⟩ := Q36
    have N36 := Fr.app N25 Nq36
    have e36 : T36.heap = h25 := e36q
    have k36 : Go p e below m W T36 48 #[.val (.ref a1), .val (.ref b1), .val (.int (0 : Int32)), .val (.int (3 : Int32)), .val .null, .val (.ref ob_25)] [(.int (0 : Int32)), (.ref a1)] := k36
    have g_1 := F1.keep Kq25 (List.not_mem_nil)
    have g_2 := E1.keep Kq25
    obtain ⟨T37, h37, l37, X37, e37, W37, N37, k37⟩ := k36.putF X36 hx hZ hown (host := "") (Or.inl (hv 37 rfl)) Via.refl e36 g_1 g_2 (Or.inr ⟨(hv 33 rfl), rfl, hnm⟩) (hv 18 rfl) (ty := .byte) (by decide) rfl rfl N36 G1 (hb hby d_rms4_48)
    have k37 : Go p e below m W T37 51 #[.val (.ref a1), .val (.ref b1), .val (.int (0 : Int32)), .val (.int (3 : Int32)), .val .null, .val (.ref ob_25)] [] := k37
    have Z37 : n0 ≤ h37.size := (Wr.size W37).symm ▸ Z25
    have K37 : Keep h0 h37 [a1] := K25.wr W37 (Or.inl (List.mem_of_getElem? (i := 0) rfl))
    have k38 : Go p e below m W T37 54 #[.val (.ref a1), .val (.ref b1), .val (.int (0 : Int32)), .val (.int (3 : Int32)), .val .null, .val (.ref ob_25)] [(.ref ob_25), (.ref a1)] := (k37.aloadN X37 hx (hb hby d_rms4_51) rfl rfl).aload X37 hx (hb hby d_rms4_52) rfl rfl
    have g_3 := (F0.keep Kq25 (List.not_mem_nil)).other W37 (Or.inr (slot_ne (Or.inr (hv 32 rfl)) (Or.inr (hv 33 rfl)) (by decide) (by decide : parseFieldDescriptor "[B" = some (.array .byte)) (by decide : parseFieldDescriptor "B" = some .byte)))
    have g_4 := g_2.wr W37
    obtain ⟨T39, h39, l39, X39, e39, W39, N39, k39⟩ := k38.putF X37 hx hZ hown (host := "") (Or.inl (hv 36 rfl)) Via.refl e37 g_3 g_4 (Or.inr ⟨(hv 32 rfl), rfl, hnm⟩) (hv 18 rfl) (ty := (.array .byte)) (by decide) rfl rfl N37 G1 (hb hby d_rms4_54)
    have k39 : Go p e below m W T39 57 #[.val (.ref a1), .val (.ref b1), .val (.int (0 : Int32)), .val (.int (3 : Int32)), .val .null, .val (.ref ob_25)] [] := k39
    have Z39 : n0 ≤ h39.size := (Wr.size W39).symm ▸ Z37
    have K39 : Keep h0 h39 [a1] := K37.wr W39 (Or.inl (List.mem_of_getElem? (i := 0) rfl))
    have g_5 := g_4.wr W39
    have g_6 := g_3.same W39
    have g_7 := (g_1.same W37).other W39 (Or.inr (slot_ne (Or.inr (hv 33 rfl)) (Or.inr (hv 32 rfl)) (by decide) (by decide : parseFieldDescriptor "B" = some .byte) (by decide : parseFieldDescriptor "[B" = some (.array .byte))))
    have g_8 := (show a1 ≠ ob_25 from Nat.ne_of_lt (Nat.lt_of_lt_of_le E1.lt q25_2))
    have g_9 := (q25_0.other W37 (Ne.symm g_8)).other W39 (Ne.symm g_8)
    exact k39.return_ X39 hx Bd.returns (hb hby d_rms4_57) (BodyLoose.notSynchronized Bd) (by rw [e39]; exact ⟨ob_25, ok_25, (3 : Int32), (0 : Int32), [(.int (x0).toInt8.toInt32), (.int (x1).toInt8.toInt32), (.int (x2).toInt8.toInt32)], rfl, N39, K39, (Or.inl ⟨rfl, rfl, rfl, (own_N1 hs27 (own_N1 hs28 (own_N1 hs29 own_N0)))⟩), g_5, g_6, g_7, g_9⟩) (by decide) (by decide)
  ·
    subst zz_25
    subst vs_25
    have k40 : Go p e below m W T25 41 #[.val (.ref a1), .val (.ref b1), .val (.int (0 : Int32)), .val (.int (3 : Int32)), .val .null, .val (.ref ob_25)] [] := k25.astore X25 hx (hb hby d_rms4_39) rfl rfl
    have k41 : Go p e below m W T25 45 #[.val (.ref a1), .val (.ref b1), .val (.int (0 : Int32)), .val (.int (3 : Int32)), .val .null, .val (.ref ob_25)] [(.int (3 : Int32)), (.ref ob_25), (.ref a1)] := ((k40.aloadN X25 hx (hb hby d_rms4_41) rfl rfl).aload X25 hx (hb hby d_rms4_42) rfl rfl).iloadN X25 hx (hb hby d_rms4_44) rfl
    obtain ⟨T42, v42, L42, X42, Q42, k42⟩ := k41.stat (y := (⟨"java/lang/StringUTF16", "coderFromArrayLen", "([BI)B"⟩ : MethodName)) (Wd := 1) (cells' := 2) (slots' := 9) (argsL := [(.ref ob_25), (.int (3 : Int32))]) (rest := [(.ref a1)]) X25 hx hZ hown (by rw [hml]; rfl) (hv 75 rfl) (hv 76 rfl) (hv 77 rfl) (hv 70 rfl) (hb hby d_rms4_45) (by decide) (rmcf3_6 l Z a0 hw [] ob_25 ok_25 ([(.int (own_b0 x0)), (.int (own_b1 x0)), (.int (own_b0 x1)), (.int (own_b1 x1)), (.int (own_b0 x2)), (.int (own_b1 x2))]) h25 n0 Z25 q25_0) e25 rfl rfl pd_rmi4_1_1 rfl (Nat.le_of_eq rfl) (by decide) (by decide) rfl rfl (by decide) (by decide)
    obtain ⟨rfl, Nq42, e42q⟩ := Q42
    have N42 := Fr.app N25 Nq42
    have e42 : T42.heap = h25 := e42q
    have k42 : Go p e below m W T42 48 #[.val (.ref a1), .val (.ref b1), .val (.int (0 : Int32)), .val (.int (3 : Int32)), .val .null, .val (.ref ob_25)] [(.int (1 : Int32)), (.ref a1)] := k42
    have g_10 := F1.keep Kq25 (List.not_mem_nil)
    have g_11 := E1.keep Kq25
    obtain ⟨T43, h43, l43, X43, e43, W43, N43, k43⟩ := k42.putF X42 hx hZ hown (host := "") (Or.inl (hv 37 rfl)) Via.refl e42 g_10 g_11 (Or.inr ⟨(hv 33 rfl), rfl, hnm⟩) (hv 18 rfl) (ty := .byte) (by decide) rfl rfl N42 G1 (hb hby d_rms4_48)
    have k43 : Go p e below m W T43 51 #[.val (.ref a1), .val (.ref b1), .val (.int (0 : Int32)), .val (.int (3 : Int32)), .val .null, .val (.ref ob_25)] [] := k43
    have Z43 : n0 ≤ h43.size := (Wr.size W43).symm ▸ Z25
    have K43 : Keep h0 h43 [a1] := K25.wr W43 (Or.inl (List.mem_of_getElem? (i := 0) rfl))
    have k44 : Go p e below m W T43 54 #[.val (.ref a1), .val (.ref b1), .val (.int (0 : Int32)), .val (.int (3 : Int32)), .val .null, .val (.ref ob_25)] [(.ref ob_25), (.ref a1)] := (k43.aloadN X43 hx (hb hby d_rms4_51) rfl rfl).aload X43 hx (hb hby d_rms4_52) rfl rfl
    have g_12 := (F0.keep Kq25 (List.not_mem_nil)).other W43 (Or.inr (slot_ne (Or.inr (hv 32 rfl)) (Or.inr (hv 33 rfl)) (by decide) (by decide : parseFieldDescriptor "[B" = some (.array .byte)) (by decide : parseFieldDescriptor "B" = some .byte)))
    have g_13 := g_11.wr W43
    obtain ⟨T45, h45, l45, X45, e45, W45, N45, k45⟩ := k44.putF X43 hx hZ hown (host := "") (Or.inl (hv 36 rfl)) Via.refl e43 g_12 g_13 (Or.inr ⟨(hv 32 rfl), rfl, hnm⟩) (hv 18 rfl) (ty := (.array .byte)) (by decide) rfl rfl N43 G1 (hb hby d_rms4_54)
    have k45 : Go p e below m W T45 57 #[.val (.ref a1), .val (.ref b1), .val (.int (0 : Int32)), .val (.int (3 : Int32)), .val .null, .val (.ref ob_25)] [] := k45
    have Z45 : n0 ≤ h45.size := (Wr.size W45).symm ▸ Z43
    have K45 : Keep h0 h45 [a1] := K43.wr W45 (Or.inl (List.mem_of_getElem? (i := 0) rfl))
    have g_14 := g_13.wr W45
    have g_15 := g_12.same W45
    have g_16 := (g_10.same W43).other W45 (Or.inr (slot_ne (Or.inr (hv 33 rfl)) (Or.inr (hv 32 rfl)) (by decide) (by decide : parseFieldDescriptor "B" = some .byte) (by decide : parseFieldDescriptor "[B" = some (.array .byte))))
    have g_17 := (show a1 ≠ ob_25 from Nat.ne_of_lt (Nat.lt_of_lt_of_le E1.lt q25_2))
    have g_18 := (q25_0.other W43 (Ne.symm g_17)).other W45 (Ne.symm g_17)
    exact k45.return_ X45 hx Bd.returns (hb hby d_rms4_57) (BodyLoose.notSynchronized Bd) (by rw [e45]; exact ⟨ob_25, ok_25, (6 : Int32), (1 : Int32), [(.int (own_b0 x0)), (.int (own_b1 x0)), (.int (own_b0 x1)), (.int (own_b1 x1)), (.int (own_b0 x2)), (.int (own_b1 x2))], rfl, N45, K45, (Or.inr ⟨rfl, rfl, rfl⟩), g_14, g_15, g_16, g_18⟩) (by decide) (by decide)

theorem ef_rmi1_3 (m : MethodId) (a1 : Addr) (b1 : Addr) : entryFrame m #[(.ref a1), (.ref b1)] 2 = mkF m 0 #[.val (.ref a1), .val (.ref b1)] [] := by first | (simp [entryFrame, mkF, argsToLocals, Value.category]; done) | rfl
def Q_rmi1_3 (Z : State) (a1 : Addr) (b1 : Addr) (k1 : ClassId) (x0 : Int32) (x1 : Int32) (x2 : Int32) (u0 : Value) (u1 : Value) (cz : Int32) (h0 : Heap) (n0 : Nat) (v : Option Value) (h : Heap) (L : List Loc) : Prop := ∃ (ot : Addr) (ok : ClassId) (zz : Int32) (cd : Int32) (vs : List Value), v = none ∧ Fr n0 L ∧ Keep h0 h [a1] ∧ (own_Enc [x0, x1, x2] zz cd vs) ∧ Exa Z h a1 "java/lang/String" ∧ Fld Z h a1 "java/lang/String" "value" "[B" (.ref ot) ∧ Fld Z h a1 "java/lang/String" "coder" "B" (.int cd) ∧ Arv Z h ot ok .byte zz vs (.int (0 : Int32))
set_option maxRecDepth 65536 in
set_option maxHeartbeats 40000000 in
theorem rmi1_3 (l : Launch) (Z : State) (a0 : Array Value) (hw : ∀ d ∈ tables_1, d.before a0 Z = true) (ws : List Jvm.Cond) (a1 : Addr) (b1 : Addr) (k1 : ClassId) (x0 : Int32) (x1 : Int32) (x2 : Int32) (u0 : Value) (u1 : Value) (cz : Int32) (h0 : Heap) (n0 : Nat) (Z0 : n0 ≤ h0.size) (O0 : Old Z n0 h0) (SCZ : Sta Z Z.heap "java/lang/String" "COMPACT_STRINGS" "Z" (.int cz)) (hcz : ¬ (cz = (0 : Int32))) (SAD : Sta Z Z.heap "java/lang/StringUTF16" "$assertionsDisabled" "Z" (.int (1 : Int32))) (SHI : Sta Z Z.heap "java/lang/StringUTF16" "HI_BYTE_SHIFT" "I" (.int (0 : Int32))) (SLO : Sta Z Z.heap "java/lang/StringUTF16" "LO_BYTE_SHIFT" "I" (.int (8 : Int32))) (E1 : Exa Z h0 a1 "java/lang/String") (G1 : n0 ≤ a1) (F0 : Fld Z h0 a1 "java/lang/String" "value" "[B" u0) (F1 : Fld Z h0 a1 "java/lang/String" "coder" "B" u1) (V1 : Arv Z h0 b1 k1 .char (3 : Int32) [(.int x0), (.int x1), (.int x2)] (.int (0 : Int32))) (R0 : own_rk x0) (R1 : own_rk x1) (R2 : own_rk x2) :
    MetFree l (⟨"java/lang/String", "<init>", "([C)V"⟩ : MethodName) (head1 (Jvm.Cond.code (⟨"java/lang/String", "<init>", "([C)V"⟩ : MethodName) jdk_42_method_3_code 2 none :: ws) ({ frames := 5, cells := 2, slots := 9, locals := 74 } : Room)) (fun a U => a = #[(.ref a1), (.ref b1)] ∧ Z.Warmed39 U.vm ∧ U.heap = h0) (fun _ _ _ _ _ => True) (fun _ U o U' => ∃ v L, o = .returned v ∧ Q_rmi1_3 Z a1 b1 k1 x0 x1 x2 u0 u1 cz h0 n0 v U'.heap L ∧ FrameEnd U o U' L ({ frames := 5, cells := 2, slots := 9, locals := 74 } : Room).cells ({ frames := 5, cells := 2, slots := 9, locals := 74 } : Room).slots) := by
  refine MetFree.of_bodySF (plainFor_of_name pn_rmci) hisR ?_
  intro p e s m args_ below meth c s₁ Bd hml0 hP hK
  obtain ⟨hargs, hZ, hh⟩ := hP
  have hx := Bd.exec
  have hby := Bd.bytes
  have hml : c.maxLocals = 2 := hml0
  have hown : s.vm.findClass "java/lang/String" = some m.cls := findClass_of_methodNamed Bd.named
  have hnm := (name_of_methodNamed Bd.named Bd.method).1
  have X0 : Stand p l e ({ frames := 5, cells := 2, slots := 9, locals := 74 } : Room) s m args_ below meth c s₁ [] 0 0 := Stand.of_body Bd
  have e0 : s₁.heap = h0 := by rw [← hh, Bd.state]; rfl
  have N0 := Fr.nil n0
  have hv : ∀ (i : Nat) {d : Jvm.Cond}, tables_1[i]? = some d → d.before a0 Z = true := fun i d q => hw d (List.mem_of_getElem? q)
  have K0 : Keep h0 h0 [a1] := Keep.refl _ _
  have k0 : Go p e below m (s₁.setTop (entryFrame m args_ 2)) s₁ 0 #[.val (.ref a1), .val (.ref b1)] [] := by rw [hargs]; exact fun t kt => castTop (ef_rmi1_3 m a1 b1) kt
  obtain ⟨W, hWW⟩ : ∃ W, W = s₁.setTop (entryFrame m args_ 2) := ⟨_, rfl⟩
  rw [← hWW] at k0 ⊢
  show Done p e below s W (Q_rmi1_3 Z a1 b1 k1 x0 x1 x2 u0 u1 cz h0 n0) ({ frames := 5, cells := 2, slots := 9, locals := 74 } : Room).cells ({ frames := 5, cells := 2, slots := 9, locals := 74 } : Room).slots
  have k20 : Go p e below m W s₁ 4 #[.val (.ref a1), .val (.ref b1)] [(.ref b1), (.int (0 : Int32)), (.ref b1), (.ref a1)] := (((k0.aloadN X0 hx (hb hby d_rms1_0) rfl rfl).aloadN X0 hx (hb hby d_rms1_1) rfl rfl).iconst X0 hx (hb hby d_rms1_2) (v := (0 : Int32)) rfl).aloadN X0 hx (hb hby d_rms1_3) rfl rfl
  have k21 : Go p e below m W s₁ 6 #[.val (.ref a1), .val (.ref b1)] [.null, (.int (3 : Int32)), (.int (0 : Int32)), (.ref b1), (.ref a1)] := (k20.arraylength X0 hx hZ e0 V1 (hb hby d_rms1_4)).aconstNull X0 hx (hb hby d_rms1_5)
  obtain ⟨T22, v22, L22, X22, Q22, k22⟩ := k21.spec (y := (⟨"java/lang/String", "<init>", "([CIILjava/lang/Void;)V"⟩ : MethodName)) (b := a1) (Wd := 0) (cells' := 2) (slots' := 9) (argsL := [(.ref b1), (.int (0 : Int32)), (.int (3 : Int32)), .null]) (rest := []) X0 hx hZ hown (by rw [hml]; rfl) rfl (hv 23 rfl) (hv 24 rfl) (hv 26 rfl) (hv 19 rfl) (hb hby d_rms1_6) (by decide) (rmi4_3 l Z a0 hw [] a1 b1 k1 x0 x1 x2 u0 u1 cz h0 n0 Z0 O0 SCZ hcz SAD SHI SLO E1 G1 F0 F1 V1 R0 R1 R2) e0 rfl rfl pd_rms1_0 rfl (Nat.le_of_eq rfl) (by decide) (by decide) rfl rfl (by decide) (by decide)
  obtain ⟨ot_22, ok_22, zz_22, cd_22, vs_22, rfl, Nq22, Kq22, p22_0, q22_0, q22_1, q22_2, q22_3⟩ := Q22
  have N22 := Fr.app N0 Nq22
  obtain ⟨h22, e22⟩ : ∃ h, T22.heap = h := ⟨_, rfl⟩
  rw [e22] at Kq22 q22_0 q22_1 q22_2 q22_3
  have Z22 : n0 ≤ h22.size := Nat.le_trans Z0 Kq22.1
  have K22 : Keep h0 h22 [a1] := K0.trans Kq22 (by intro x q; simp only [List.mem_cons, List.not_mem_nil, or_false] at q; rcases q with rfl; exact (Or.inl (List.mem_of_getElem? (i := 0) rfl)))
  have k22 : Go p e below m W T22 9 #[.val (.ref a1), .val (.ref b1)] [] := k22
  exact k22.return_ X22 hx Bd.returns (hb hby d_rms1_9) (BodyLoose.notSynchronized Bd) (by rw [e22]; exact ⟨ot_22, ok_22, zz_22, cd_22, vs_22, rfl, N22, K22, p22_0, q22_0, q22_1, q22_2, q22_3⟩) (by decide) (by decide)

theorem d_rmmk0_65 : decode method_5_code 65 = .ok (.iload_n 1, 1) := by decide +kernel
theorem d_rmmk0_66 : decode method_5_code 66 = .ok (.iconst 3, 1) := by decide +kernel
theorem d_rmmk0_67 : decode method_5_code 67 = .ok (.if_icmp .ne 32, 3) := by decide +kernel
theorem d_rmmk0_70 : decode method_5_code 70 = .ok (.new 14, 3) := by decide +kernel
theorem d_rmmk0_73 : decode method_5_code 73 = .ok (.dup, 1) := by decide +kernel
theorem d_rmmk0_74 : decode method_5_code 74 = .ok (.iconst 3, 1) := by decide +kernel
theorem d_rmmk0_75 : decode method_5_code 75 = .ok (.newarray .char, 2) := by decide +kernel
theorem d_rmmk0_77 : decode method_5_code 77 = .ok (.dup, 1) := by decide +kernel
theorem d_rmmk0_78 : decode method_5_code 78 = .ok (.iconst 0, 1) := by decide +kernel
theorem d_rmmk0_79 : decode method_5_code 79 = .ok (.aload_n 0, 1) := by decide +kernel
theorem d_rmmk0_80 : decode method_5_code 80 = .ok (.iconst 0, 1) := by decide +kernel
theorem d_rmmk0_81 : decode method_5_code 81 = .ok (.caload, 1) := by decide +kernel
theorem d_rmmk0_82 : decode method_5_code 82 = .ok (.castore, 1) := by decide +kernel
theorem d_rmmk0_83 : decode method_5_code 83 = .ok (.dup, 1) := by decide +kernel
theorem d_rmmk0_84 : decode method_5_code 84 = .ok (.iconst 1, 1) := by decide +kernel
theorem d_rmmk0_85 : decode method_5_code 85 = .ok (.aload_n 0, 1) := by decide +kernel
theorem d_rmmk0_86 : decode method_5_code 86 = .ok (.iconst 1, 1) := by decide +kernel
theorem d_rmmk0_87 : decode method_5_code 87 = .ok (.caload, 1) := by decide +kernel
theorem d_rmmk0_88 : decode method_5_code 88 = .ok (.castore, 1) := by decide +kernel
theorem d_rmmk0_89 : decode method_5_code 89 = .ok (.dup, 1) := by decide +kernel
theorem d_rmmk0_90 : decode method_5_code 90 = .ok (.iconst 2, 1) := by decide +kernel
theorem d_rmmk0_91 : decode method_5_code 91 = .ok (.aload_n 0, 1) := by decide +kernel
theorem d_rmmk0_92 : decode method_5_code 92 = .ok (.iconst 2, 1) := by decide +kernel
theorem d_rmmk0_93 : decode method_5_code 93 = .ok (.caload, 1) := by decide +kernel
theorem d_rmmk0_94 : decode method_5_code 94 = .ok (.castore, 1) := by decide +kernel
theorem d_rmmk0_95 : decode method_5_code 95 = .ok (.invokespecial 16, 3) := by decide +kernel
theorem d_rmmk0_98 : decode method_5_code 98 = .ok (.areturn, 1) := by decide +kernel
theorem ef_rmmk3 (m : MethodId) (b1 : Addr) : entryFrame m #[(.ref b1), (.int (3 : Int32))] 2 = mkF m 0 #[.val (.ref b1), .val (.int (3 : Int32))] [] := by first | (simp [entryFrame, mkF, argsToLocals, Value.category]; done) | rfl
def Q_rmmk3 (Z : State) (b1 : Addr) (k1 : ClassId) (x0 : Int32) (x1 : Int32) (x2 : Int32) (x3 : Int32) (cz : Int32) (h0 : Heap) (n0 : Nat) (v : Option Value) (h : Heap) (L : List Loc) : Prop := ∃ (ro : Addr), v = some (.ref ro) ∧ Fr n0 L ∧ Keep h0 h [] ∧ Exa Z h ro "java/lang/String" ∧ own_Str Z h ro [x0, x1, x2] ∧ n0 ≤ ro ∧ h0.size ≤ ro
set_option maxRecDepth 65536 in
set_option maxHeartbeats 40000000 in
theorem rmmk3 (l : Launch) (Z : State) (a0 : Array Value) (hw : ∀ d ∈ tables_1, d.before a0 Z = true) (ws : List Jvm.Cond) (b1 : Addr) (k1 : ClassId) (x0 : Int32) (x1 : Int32) (x2 : Int32) (x3 : Int32) (cz : Int32) (h0 : Heap) (n0 : Nat) (Z0 : n0 ≤ h0.size) (O0 : Old Z n0 h0) (SCZ : Sta Z Z.heap "java/lang/String" "COMPACT_STRINGS" "Z" (.int cz)) (hcz : ¬ (cz = (0 : Int32))) (SAD : Sta Z Z.heap "java/lang/StringUTF16" "$assertionsDisabled" "Z" (.int (1 : Int32))) (SHI : Sta Z Z.heap "java/lang/StringUTF16" "HI_BYTE_SHIFT" "I" (.int (0 : Int32))) (SLO : Sta Z Z.heap "java/lang/StringUTF16" "LO_BYTE_SHIFT" "I" (.int (8 : Int32))) (V1 : Arv Z h0 b1 k1 .char (4 : Int32) [(.int x0), (.int x1), (.int x2), (.int x3)] (.int (0 : Int32))) (R0 : own_rk x0) (R1 : own_rk x1) (R2 : own_rk x2) :
    MetFree l (⟨"com/example/promovent/promovent/library/CodePointsComparePinLaw", "make", "([CI)Ljava/lang/String;"⟩ : MethodName) (head1 (Jvm.Cond.code (⟨"com/example/promovent/promovent/library/CodePointsComparePinLaw", "make", "([CI)Ljava/lang/String;"⟩ : MethodName) method_5_code 2 (some (.object "java/lang/String")) :: ws) ({ frames := 6, cells := 4, slots := 16, locals := 88 } : Room)) (fun a U => a = #[(.ref b1), (.int (3 : Int32))] ∧ Z.Warmed39 U.vm ∧ U.heap = h0) (fun _ _ _ _ _ => True) (fun _ U o U' => ∃ v L, o = .returned v ∧ Q_rmmk3 Z b1 k1 x0 x1 x2 x3 cz h0 n0 v U'.heap L ∧ FrameEnd U o U' L ({ frames := 6, cells := 4, slots := 16, locals := 88 } : Room).cells ({ frames := 6, cells := 4, slots := 16, locals := 88 } : Room).slots) := by
  refine MetFree.of_bodySF (plainFor_of_name pn_rmraw) hisR ?_
  intro p e s m args_ below meth c s₁ Bd hml0 hP hK
  obtain ⟨hargs, hZ, hh⟩ := hP
  have hx := Bd.exec
  have hby := Bd.bytes
  have hml : c.maxLocals = 2 := hml0
  have hown : s.vm.findClass "com/example/promovent/promovent/library/CodePointsComparePinLaw" = some m.cls := findClass_of_methodNamed Bd.named
  have hnm := (name_of_methodNamed Bd.named Bd.method).1
  have X0 : Stand p l e ({ frames := 6, cells := 4, slots := 16, locals := 88 } : Room) s m args_ below meth c s₁ [] 0 0 := Stand.of_body Bd
  have e0 : s₁.heap = h0 := by rw [← hh, Bd.state]; rfl
  have N0 := Fr.nil n0
  have hv : ∀ (i : Nat) {d : Jvm.Cond}, tables_1[i]? = some d → d.before a0 Z = true := fun i d q => hw d (List.mem_of_getElem? q)
  have K0 : Keep h0 h0 [] := Keep.refl _ _
  have k0 : Go p e below m (s₁.setTop (entryFrame m args_ 2)) s₁ 0 #[.val (.ref b1), .val (.int (3 : Int32))] [] := by rw [hargs]; exact fun t kt => castTop (ef_rmmk3 m b1) kt
  obtain ⟨W, hWW⟩ : ∃ W, W = s₁.setTop (entryFrame m args_ 2) := ⟨_, rfl⟩
  rw [← hWW] at k0 ⊢
  show Done p e below s W (Q_rmmk3 Z b1 k1 x0 x1 x2 x3 cz h0 n0) ({ frames := 6, cells := 4, slots := 16, locals := 88 } : Room).cells ({ frames := 6, cells := 4, slots := 16, locals := 88 } : Room).slots
  have k20 : Go p e below m W s₁ 67 #[.val (.ref b1), .val (.int (3 : Int32))] [(.int (3 : Int32)), (.int (3 : Int32))] := (((((((((k0.iloadN X0 hx (hb hby d_rmmk0_0) rfl).ifYes X0 hx (hb hby d_rmmk0_1) (XT.i0_ne_t (by decide)) (by decide) (by decide)).iloadN X0 hx (hb hby d_rmmk0_15) rfl).iconst X0 hx (hb hby d_rmmk0_16) (v := (1 : Int32)) rfl).icmpYes X0 hx (hb hby d_rmmk0_17) (XT.ii_ne_t (by decide)) (by decide) (by decide)).iloadN X0 hx (hb hby d_rmmk0_37) rfl).iconst X0 hx (hb hby d_rmmk0_38) (v := (2 : Int32)) rfl).icmpYes X0 hx (hb hby d_rmmk0_39) (XT.ii_ne_t (by decide)) (by decide) (by decide)).iloadN X0 hx (hb hby d_rmmk0_65) rfl).iconst X0 hx (hb hby d_rmmk0_66) (v := (3 : Int32)) rfl
  have k21 : Go p e below m W s₁ 70 #[.val (.ref b1), .val (.int (3 : Int32))] [] := k20.icmpNo X0 hx (hb hby d_rmmk0_67) (XT.ii_ne_f (by decide))
  obtain ⟨T22, h22, b22, X22, e22, g22, E22, A22, D22, k22⟩ := k21.newO (cells' := 1) (slots' := 4) X0 hx hZ hown (hv 17 rfl) (hv 18 rfl) (hv 19 rfl) e0 (hb hby d_rmmk0_70) rfl rfl (by decide) (by decide)
  have k22 : Go p e below m W T22 73 #[.val (.ref b1), .val (.int (3 : Int32))] [(.ref b22)] := k22
  have Z22 : n0 ≤ h22.size := Nat.le_trans Z0 E22.1
  have G22 : n0 ≤ b22 := g22 ▸ Z0
  have H22 : h0.size ≤ b22 := g22 ▸ K0.1
  have K22 : Keep h0 h22 [] := K0.ext E22
  have f23 : Fld Z h22 b22 "java/lang/String" "value" "[B" .null := D22 (Or.inr (hv 32 rfl)) (ty := (.array .byte)) (by decide)
  have f24 : Fld Z h22 b22 "java/lang/String" "coder" "B" (.int (0 : Int32)) := D22 (Or.inr (hv 33 rfl)) (ty := .byte) (by decide)
  have k25 : Go p e below m W T22 75 #[.val (.ref b1), .val (.int (3 : Int32))] [(.int (3 : Int32)), (.ref b22), (.ref b22)] := (k22.dup X22 hx (hb hby d_rmmk0_73) rfl).iconst X22 hx (hb hby d_rmmk0_74) (v := (3 : Int32)) rfl
  obtain ⟨T26, h26, b26, c26, X26, e26, g26, E26, A26, k26⟩ := k25.newP (cap := 3) (cells' := 2) (slots' := 7) X22 hx hZ (hv 13 rfl) e22 (hb hby d_rmmk0_75) (by decide) (by decide) (by decide) rfl rfl (by decide) (by decide)
  have k26 : Go p e below m W T26 77 #[.val (.ref b1), .val (.int (3 : Int32))] [(.ref b26), (.ref b22), (.ref b22)] := k26
  have Z26 : n0 ≤ h26.size := Nat.le_trans Z22 E26.1
  have G26 : n0 ≤ b26 := g26 ▸ Z22
  have H26 : h0.size ≤ b26 := g26 ▸ K22.1
  have K26 : Keep h0 h26 [] := K22.ext E26
  have V26 : Arv Z h26 b26 c26 .char (3 : Int32) [(.int (0 : Int32)), (.int (0 : Int32)), (.int (0 : Int32))] (.int (0 : Int32)) := A26 3
  have k27 : Go p e below m W T26 81 #[.val (.ref b1), .val (.int (3 : Int32))] [(.int (0 : Int32)), (.ref b1), (.int (0 : Int32)), (.ref b26), (.ref b26), (.ref b22), (.ref b22)] := (((k26.dup X26 hx (hb hby d_rmmk0_77) rfl).iconst X26 hx (hb hby d_rmmk0_78) (v := (0 : Int32)) rfl).aloadN X26 hx (hb hby d_rmmk0_79) rfl rfl).iconst X26 hx (hb hby d_rmmk0_80) (v := (0 : Int32)) rfl
  have g_1 := (V1.ext E22).ext E26
  have k28 : Go p e below m W T26 82 #[.val (.ref b1), .val (.int (3 : Int32))] [(.int x0), (.int (0 : Int32)), (.ref b26), (.ref b26), (.ref b22), (.ref b22)] := k27.caload (i := 0) (n := 4) X26 hx hZ e26 g_1 rfl rfl (by decide) (by decide) rfl (hb hby d_rmmk0_81)
  obtain ⟨T29, h29, l29, X29, e29, W29, V29, N29, k29⟩ := k28.castore (i := 0) X26 hx hZ e26 V26 rfl rfl (by decide) (Nat.le_of_ble_eq_true rfl) N0 G26 (hb hby d_rmmk0_82)
  have k29 : Go p e below m W T29 83 #[.val (.ref b1), .val (.int (3 : Int32))] [(.ref b26), (.ref b22), (.ref b22)] := k29
  have Z29 : n0 ≤ h29.size := (Wr.size W29).symm ▸ Z26
  rw [own_narr R0] at V29
  have V29 : Arv Z h29 b26 c26 .char (3 : Int32) [(.int x0), (.int (0 : Int32)), (.int (0 : Int32))] (.int (0 : Int32)) := V29
  have K29 : Keep h0 h29 [] := K26.wr W29 (Or.inr H26)
  have k30 : Go p e below m W T29 87 #[.val (.ref b1), .val (.int (3 : Int32))] [(.int (1 : Int32)), (.ref b1), (.int (1 : Int32)), (.ref b26), (.ref b26), (.ref b22), (.ref b22)] := (((k29.dup X29 hx (hb hby d_rmmk0_83) rfl).iconst X29 hx (hb hby d_rmmk0_84) (v := (1 : Int32)) rfl).aloadN X29 hx (hb hby d_rmmk0_85) rfl rfl).iconst X29 hx (hb hby d_rmmk0_86) (v := (1 : Int32)) rfl
  have g_2 := V1.ext E22
  have g_3 := (show b1 ≠ b26 from Nat.ne_of_lt (g26 ▸ g_2.lt))
  have g_4 := g_1.other W29 g_3
  have k31 : Go p e below m W T29 88 #[.val (.ref b1), .val (.int (3 : Int32))] [(.int x1), (.int (1 : Int32)), (.ref b26), (.ref b26), (.ref b22), (.ref b22)] := k30.caload (i := 1) (n := 4) X29 hx hZ e29 g_4 rfl rfl (by decide) (by decide) rfl (hb hby d_rmmk0_87)
  obtain ⟨T32, h32, l32, X32, e32, W32, V32, N32, k32⟩ := k31.castore (i := 1) X29 hx hZ e29 V29 rfl rfl (by decide) (Nat.le_of_ble_eq_true rfl) N29 G26 (hb hby d_rmmk0_88)
  have k32 : Go p e below m W T32 89 #[.val (.ref b1), .val (.int (3 : Int32))] [(.ref b26), (.ref b22), (.ref b22)] := k32
  have Z32 : n0 ≤ h32.size := (Wr.size W32).symm ▸ Z29
  rw [own_narr R1] at V32
  have V32 : Arv Z h32 b26 c26 .char (3 : Int32) [(.int x0), (.int x1), (.int (0 : Int32))] (.int (0 : Int32)) := V32
  have K32 : Keep h0 h32 [] := K29.wr W32 (Or.inr H26)
  have k33 : Go p e below m W T32 93 #[.val (.ref b1), .val (.int (3 : Int32))] [(.int (2 : Int32)), (.ref b1), (.int (2 : Int32)), (.ref b26), (.ref b26), (.ref b22), (.ref b22)] := (((k32.dup X32 hx (hb hby d_rmmk0_89) rfl).iconst X32 hx (hb hby d_rmmk0_90) (v := (2 : Int32)) rfl).aloadN X32 hx (hb hby d_rmmk0_91) rfl rfl).iconst X32 hx (hb hby d_rmmk0_92) (v := (2 : Int32)) rfl
  have g_5 := g_4.other W32 g_3
  have k34 : Go p e below m W T32 94 #[.val (.ref b1), .val (.int (3 : Int32))] [(.int x2), (.int (2 : Int32)), (.ref b26), (.ref b26), (.ref b22), (.ref b22)] := k33.caload (i := 2) (n := 4) X32 hx hZ e32 g_5 rfl rfl (by decide) (by decide) rfl (hb hby d_rmmk0_93)
  obtain ⟨T35, h35, l35, X35, e35, W35, V35, N35, k35⟩ := k34.castore (i := 2) X32 hx hZ e32 V32 rfl rfl (by decide) (Nat.le_of_ble_eq_true rfl) N32 G26 (hb hby d_rmmk0_94)
  have k35 : Go p e below m W T35 95 #[.val (.ref b1), .val (.int (3 : Int32))] [(.ref b26), (.ref b22), (.ref b22)] := k35
  have Z35 : n0 ≤ h35.size := (Wr.size W35).symm ▸ Z32
  rw [own_narr R2] at V35
  have V35 : Arv Z h35 b26 c26 .char (3 : Int32) [(.int x0), (.int x1), (.int x2)] (.int (0 : Int32)) := V35
  have K35 : Keep h0 h35 [] := K32.wr W35 (Or.inr H26)
  have g_6 := ((((O0.ext E22).ext E26).wr W29 G26).wr W32 G26).wr W35 G26
  have g_7 := (((A22.ext E26).wr W29).wr W32).wr W35
  have g_8 := (show b22 ≠ b26 from Nat.ne_of_lt (g26 ▸ A22.lt))
  have g_9 := (((f23.ext E26).other W29 (Or.inl g_8)).other W32 (Or.inl g_8)).other W35 (Or.inl g_8)
  have g_10 := (((f24.ext E26).other W29 (Or.inl g_8)).other W32 (Or.inl g_8)).other W35 (Or.inl g_8)
  obtain ⟨T36, v36, L36, X36, Q36, k36⟩ := k35.spec (y := (⟨"java/lang/String", "<init>", "([C)V"⟩ : MethodName)) (b := b22) (Wd := 1) (cells' := 4) (slots' := 16) (argsL := [(.ref b26)]) (rest := [(.ref b22)]) X35 hx hZ hown (by rw [hml]; rfl) rfl (hv 20 rfl) (hv 21 rfl) (hv 22 rfl) (hv 19 rfl) (hb hby d_rmmk0_95) (by decide) (rmi1_3 l Z a0 hw [] b22 b26 c26 x0 x1 x2 .null (.int (0 : Int32)) cz h35 n0 Z35 g_6 SCZ hcz SAD SHI SLO g_7 G22 g_9 g_10 V35 R0 R1 R2) e35 rfl rfl pd_rmmk0_0 rfl (Nat.le_of_eq rfl) (by decide) (by decide) rfl rfl (by decide) (by decide)
  obtain ⟨ot_36, ok_36, zz_36, cd_36, vs_36, rfl, Nq36, Kq36, p36_0, q36_0, q36_1, q36_2, q36_3⟩ := Q36
  have N36 := Fr.app N35 Nq36
  obtain ⟨h36, e36⟩ : ∃ h, T36.heap = h := ⟨_, rfl⟩
  rw [e36] at Kq36 q36_0 q36_1 q36_2 q36_3
  have Z36 : n0 ≤ h36.size := Nat.le_trans Z35 Kq36.1
  have K36 : Keep h0 h36 [] := K35.trans Kq36 (by intro x q; simp only [List.mem_cons, List.not_mem_nil, or_false] at q; rcases q with rfl; exact (Or.inr H22))
  have k36 : Go p e below m W T36 98 #[.val (.ref b1), .val (.int (3 : Int32))] [(.ref b22)] := k36
  have st37 : own_Str Z h36 b22 [x0, x1, x2] := ⟨(Nat.le_of_ble_eq_true rfl), (own_E1 R0 (own_E1 R1 (own_E1 R2 own_E0))), _, _, _, _, _, q36_1, q36_2, q36_3, p36_0⟩
  exact k36.areturn X36 hx Bd.returns rfl rfl (hb hby d_rmmk0_98) (BodyLoose.notSynchronized Bd) (by rw [e36]; exact ⟨b22, rfl, N36, K36, q36_0, st37, G22, H22⟩) (by decide) (by decide)

theorem ef_rmbl4 (m : MethodId)  : entryFrame m #[(.int (4 : Int32))] 1 = mkF m 0 #[.val (.int (4 : Int32))] [] := by first | (simp [entryFrame, mkF, argsToLocals, Value.category]; done) | rfl
def Q_rmbl4 (Z : State)  (h0 : Heap) (n0 : Nat) (v : Option Value) (h : Heap) (L : List Loc) : Prop := v = some (.int (8 : Int32)) ∧ Fr n0 L ∧ h = h0
set_option maxRecDepth 65536 in
set_option maxHeartbeats 40000000 in
theorem rmbl4 (l : Launch) (Z : State) (a0 : Array Value) (hw : ∀ d ∈ tables_1, d.before a0 Z = true) (ws : List Jvm.Cond)  (h0 : Heap) (n0 : Nat) (Z0 : n0 ≤ h0.size)  :
    MetFree l (⟨"java/lang/StringUTF16", "newBytesLength", "(I)I"⟩ : MethodName) (head1 (Jvm.Cond.code (⟨"java/lang/StringUTF16", "newBytesLength", "(I)I"⟩ : MethodName) jdk_52_method_3_code 1 (some .int) :: ws) ({ frames := 0, cells := 0, slots := 0, locals := 0 } : Room)) (fun a U => a = #[(.int (4 : Int32))] ∧ Z.Warmed39 U.vm ∧ U.heap = h0) (fun _ _ _ _ _ => True) (fun _ U o U' => ∃ v L, o = .returned v ∧ Q_rmbl4 Z  h0 n0 v U'.heap L ∧ FrameEnd U o U' L ({ frames := 0, cells := 0, slots := 0, locals := 0 } : Room).cells ({ frames := 0, cells := 0, slots := 0, locals := 0 } : Room).slots) := by
  refine MetFree.of_bodySF (plainFor_of_name pn_rmgc) hisR ?_
  intro p e s m args_ below meth c s₁ Bd hml0 hP hK
  obtain ⟨hargs, hZ, hh⟩ := hP
  have hx := Bd.exec
  have hby := Bd.bytes
  have hml : c.maxLocals = 1 := hml0
  have hown : s.vm.findClass "java/lang/StringUTF16" = some m.cls := findClass_of_methodNamed Bd.named
  have hnm := (name_of_methodNamed Bd.named Bd.method).1
  have X0 : Stand p l e ({ frames := 0, cells := 0, slots := 0, locals := 0 } : Room) s m args_ below meth c s₁ [] 0 0 := Stand.of_body Bd
  have e0 : s₁.heap = h0 := by rw [← hh, Bd.state]; rfl
  have N0 := Fr.nil n0
  have hv : ∀ (i : Nat) {d : Jvm.Cond}, tables_1[i]? = some d → d.before a0 Z = true := fun i d q => hw d (List.mem_of_getElem? q)
  have k0 : Go p e below m (s₁.setTop (entryFrame m args_ 1)) s₁ 0 #[.val (.int (4 : Int32))] [] := by rw [hargs]; exact fun t kt => castTop (ef_rmbl4 m ) kt
  obtain ⟨W, hWW⟩ : ∃ W, W = s₁.setTop (entryFrame m args_ 1) := ⟨_, rfl⟩
  rw [← hWW] at k0 ⊢
  show Done p e below s W (Q_rmbl4 Z  h0 n0) ({ frames := 0, cells := 0, slots := 0, locals := 0 } : Room).cells ({ frames := 0, cells := 0, slots := 0, locals := 0 } : Room).slots
  have k20 : Go p e below m W s₁ 58 #[.val (.int (4 : Int32))] [(.int (8 : Int32))] := ((((((((k0.iloadN X0 hx (hb hby d_rmbl1_0) rfl).ifYes X0 hx (hb hby d_rmbl1_1) (XT.i0_ge_t (by decide)) (by decide) (by decide)).iloadN X0 hx (hb hby d_rmbl1_12) rfl).ldcI X0 hx hZ hown (hv 118 rfl) (hb hby d_rmbl1_13)).icmpYes X0 hx (hb hby d_rmbl1_15) (XT.ii_lt_t (by decide)) (by decide) (by decide)).iloadN X0 hx (hb hby d_rmbl1_55) rfl).iconst X0 hx (hb hby d_rmbl1_56) (v := (1 : Int32)) rfl).ishl X0 hx (hb hby d_rmbl1_57)).cast (y := (8 : Int32)) (by decide)
  exact k20.ireturnI X0 hx Bd.returns (hb hby d_rmbl1_58) (BodyLoose.notSynchronized Bd) (by rw [e0]; exact ⟨rfl, N0, rfl⟩) (by decide) (by decide)

theorem ef_rmbf4 (m : MethodId)  : entryFrame m #[(.int (4 : Int32))] 1 = mkF m 0 #[.val (.int (4 : Int32))] [] := by first | (simp [entryFrame, mkF, argsToLocals, Value.category]; done) | rfl
def Q_rmbf4 (Z : State)  (h0 : Heap) (n0 : Nat) (v : Option Value) (h : Heap) (L : List Loc) : Prop := ∃ (ob : Addr) (ok : ClassId), v = some (.ref ob) ∧ Fr n0 L ∧ Keep h0 h [] ∧ Arv Z h ob ok .byte (8 : Int32) [(.int (0 : Int32)), (.int (0 : Int32)), (.int (0 : Int32)), (.int (0 : Int32)), (.int (0 : Int32)), (.int (0 : Int32)), (.int (0 : Int32)), (.int (0 : Int32))] (.int (0 : Int32)) ∧ n0 ≤ ob ∧ h0.size ≤ ob
set_option maxRecDepth 65536 in
set_option maxHeartbeats 40000000 in
theorem rmbf4 (l : Launch) (Z : State) (a0 : Array Value) (hw : ∀ d ∈ tables_1, d.before a0 Z = true) (ws : List Jvm.Cond)  (h0 : Heap) (n0 : Nat) (Z0 : n0 ≤ h0.size)  :
    MetFree l (⟨"java/lang/StringUTF16", "newBytesFor", "(I)[B"⟩ : MethodName) (head1 (Jvm.Cond.code (⟨"java/lang/StringUTF16", "newBytesFor", "(I)[B"⟩ : MethodName) jdk_52_method_2_code 1 (some (.array .byte)) :: ws) ({ frames := 1, cells := 1, slots := 8, locals := 12 } : Room)) (fun a U => a = #[(.int (4 : Int32))] ∧ Z.Warmed39 U.vm ∧ U.heap = h0) (fun _ _ _ _ _ => True) (fun _ U o U' => ∃ v L, o = .returned v ∧ Q_rmbf4 Z  h0 n0 v U'.heap L ∧ FrameEnd U o U' L ({ frames := 1, cells := 1, slots := 8, locals := 12 } : Room).cells ({ frames := 1, cells := 1, slots := 8, locals := 12 } : Room).slots) := by
  refine MetFree.of_bodySF (plainFor_of_name pn_rmgc) hisR ?_
  intro p e s m args_ below meth c s₁ Bd hml0 hP hK
  obtain ⟨hargs, hZ, hh⟩ := hP
  have hx := Bd.exec
  have hby := Bd.bytes
  have hml : c.maxLocals = 1 := hml0
  have hown : s.vm.findClass "java/lang/StringUTF16" = some m.cls := findClass_of_methodNamed Bd.named
  have hnm := (name_of_methodNamed Bd.named Bd.method).1
  have X0 : Stand p l e ({ frames := 1, cells := 1, slots := 8, locals := 12 } : Room) s m args_ below meth c s₁ [] 0 0 := Stand.of_body Bd
  have e0 : s₁.heap = h0 := by rw [← hh, Bd.state]; rfl
  have N0 := Fr.nil n0
  have hv : ∀ (i : Nat) {d : Jvm.Cond}, tables_1[i]? = some d → d.before a0 Z = true := fun i d q => hw d (List.mem_of_getElem? q)
  have K0 : Keep h0 h0 [] := Keep.refl _ _
  have k0 : Go p e below m (s₁.setTop (entryFrame m args_ 1)) s₁ 0 #[.val (.int (4 : Int32))] [] := by rw [hargs]; exact fun t kt => castTop (ef_rmbf4 m ) kt
  obtain ⟨W, hWW⟩ : ∃ W, W = s₁.setTop (entryFrame m args_ 1) := ⟨_, rfl⟩
  rw [← hWW] at k0 ⊢
  show Done p e below s W (Q_rmbf4 Z  h0 n0) ({ frames := 1, cells := 1, slots := 8, locals := 12 } : Room).cells ({ frames := 1, cells := 1, slots := 8, locals := 12 } : Room).slots
  have k20 : Go p e below m W s₁ 1 #[.val (.int (4 : Int32))] [(.int (4 : Int32))] := k0.iloadN X0 hx (hb hby d_rmbf1_0) rfl
  obtain ⟨T21, v21, L21, X21, Q21, k21⟩ := k20.stat (y := (⟨"java/lang/StringUTF16", "newBytesLength", "(I)I"⟩ : MethodName)) (Wd := 0) (cells' := 0) (slots' := 0) (argsL := [(.int (4 : Int32))]) (rest := []) X0 hx hZ hown (by rw [hml]; rfl) (hv 115 rfl) (hv 116 rfl) (hv 117 rfl) (hv 70 rfl) (hb hby d_rmbf1_1) (by decide) (rmbl4 l Z a0 hw []  h0 n0 Z0) e0 rfl rfl pd_rmbf1_0 rfl (Nat.le_of_eq rfl) (by decide) (by decide) rfl rfl (by decide) (by decide)
  obtain ⟨rfl, Nq21, e21q⟩ := Q21
  have N21 := Fr.app N0 Nq21
  have e21 : T21.heap = h0 := e21q
  have k21 : Go p e below m W T21 4 #[.val (.int (4 : Int32))] [(.int (8 : Int32))] := k21
  obtain ⟨T22, h22, b22, c22, X22, e22, g22, E22, A22, k22⟩ := k21.newP (cap := 8) (cells' := 1) (slots' := 8) X21 hx hZ (hv 31 rfl) e21 (hb hby d_rmbf1_4) (by decide) (by decide) (by decide) rfl rfl (by decide) (by decide)
  have k22 : Go p e below m W T22 6 #[.val (.int (4 : Int32))] [(.ref b22)] := k22
  have Z22 : n0 ≤ h22.size := Nat.le_trans Z0 E22.1
  have G22 : n0 ≤ b22 := g22 ▸ Z0
  have H22 : h0.size ≤ b22 := g22 ▸ K0.1
  have K22 : Keep h0 h22 [] := K0.ext E22
  have V22 : Arv Z h22 b22 c22 .byte (8 : Int32) [(.int (0 : Int32)), (.int (0 : Int32)), (.int (0 : Int32)), (.int (0 : Int32)), (.int (0 : Int32)), (.int (0 : Int32)), (.int (0 : Int32)), (.int (0 : Int32))] (.int (0 : Int32)) := A22 8
  exact k22.areturn X22 hx Bd.returns rfl rfl (hb hby d_rmbf1_6) (BodyLoose.notSynchronized Bd) (by rw [e22]; exact ⟨b22, c22, rfl, N21, K22, V22, G22, H22⟩) (by decide) (by decide)

theorem ef_rmtb4 (m : MethodId) (b1 : Addr) : entryFrame m #[(.ref b1), (.int (0 : Int32)), (.int (4 : Int32))] 5 = mkF m 0 #[.val (.ref b1), .val (.int (0 : Int32)), .val (.int (4 : Int32)), .unset, .unset] [] := by first | (simp [entryFrame, mkF, argsToLocals, Value.category]; done) | rfl
def Q_rmtb4 (Z : State) (b1 : Addr) (k1 : ClassId) (x0 : Int32) (x1 : Int32) (x2 : Int32) (x3 : Int32) (h0 : Heap) (n0 : Nat) (v : Option Value) (h : Heap) (L : List Loc) : Prop := ∃ (ob : Addr) (ok : ClassId), v = some (.ref ob) ∧ Fr n0 L ∧ Keep h0 h [] ∧ Arv Z h ob ok .byte (8 : Int32) [(.int (own_b0 x0)), (.int (own_b1 x0)), (.int (own_b0 x1)), (.int (own_b1 x1)), (.int (own_b0 x2)), (.int (own_b1 x2)), (.int (own_b0 x3)), (.int (own_b1 x3))] (.int (0 : Int32)) ∧ n0 ≤ ob ∧ h0.size ≤ ob
set_option maxRecDepth 65536 in
set_option maxHeartbeats 40000000 in
theorem rmtb4 (l : Launch) (Z : State) (a0 : Array Value) (hw : ∀ d ∈ tables_1, d.before a0 Z = true) (ws : List Jvm.Cond) (b1 : Addr) (k1 : ClassId) (x0 : Int32) (x1 : Int32) (x2 : Int32) (x3 : Int32) (h0 : Heap) (n0 : Nat) (Z0 : n0 ≤ h0.size) (O0 : Old Z n0 h0) (SAD : Sta Z Z.heap "java/lang/StringUTF16" "$assertionsDisabled" "Z" (.int (1 : Int32))) (SHI : Sta Z Z.heap "java/lang/StringUTF16" "HI_BYTE_SHIFT" "I" (.int (0 : Int32))) (SLO : Sta Z Z.heap "java/lang/StringUTF16" "LO_BYTE_SHIFT" "I" (.int (8 : Int32))) (V1 : Arv Z h0 b1 k1 .char (4 : Int32) [(.int x0), (.int x1), (.int x2), (.int x3)] (.int (0 : Int32))) :
    MetFree l (⟨"java/lang/StringUTF16", "toBytes", "([CII)[B"⟩ : MethodName) (head1 (Jvm.Cond.code (⟨"java/lang/StringUTF16", "toBytes", "([CII)[B"⟩ : MethodName) jdk_52_method_14_code 5 (some (.array .byte)) :: ws) ({ frames := 2, cells := 1, slots := 8, locals := 24 } : Room)) (fun a U => a = #[(.ref b1), (.int (0 : Int32)), (.int (4 : Int32))] ∧ Z.Warmed39 U.vm ∧ U.heap = h0) (fun _ _ _ _ _ => True) (fun _ U o U' => ∃ v L, o = .returned v ∧ Q_rmtb4 Z b1 k1 x0 x1 x2 x3 h0 n0 v U'.heap L ∧ FrameEnd U o U' L ({ frames := 2, cells := 1, slots := 8, locals := 24 } : Room).cells ({ frames := 2, cells := 1, slots := 8, locals := 24 } : Room).slots) := by
  refine MetFree.of_bodySF (plainFor_of_name pn_rmgc) hisR ?_
  intro p e s m args_ below meth c s₁ Bd hml0 hP hK
  obtain ⟨hargs, hZ, hh⟩ := hP
  have hx := Bd.exec
  have hby := Bd.bytes
  have hml : c.maxLocals = 5 := hml0
  have hown : s.vm.findClass "java/lang/StringUTF16" = some m.cls := findClass_of_methodNamed Bd.named
  have hnm := (name_of_methodNamed Bd.named Bd.method).1
  have X0 : Stand p l e ({ frames := 2, cells := 1, slots := 8, locals := 24 } : Room) s m args_ below meth c s₁ [] 0 0 := Stand.of_body Bd
  have e0 : s₁.heap = h0 := by rw [← hh, Bd.state]; rfl
  have N0 := Fr.nil n0
  have hv : ∀ (i : Nat) {d : Jvm.Cond}, tables_1[i]? = some d → d.before a0 Z = true := fun i d q => hw d (List.mem_of_getElem? q)
  have K0 : Keep h0 h0 [] := Keep.refl _ _
  have k0 : Go p e below m (s₁.setTop (entryFrame m args_ 5)) s₁ 0 #[.val (.ref b1), .val (.int (0 : Int32)), .val (.int (4 : Int32)), .unset, .unset] [] := by rw [hargs]; exact fun t kt => castTop (ef_rmtb4 m b1) kt
  obtain ⟨W, hWW⟩ : ∃ W, W = s₁.setTop (entryFrame m args_ 5) := ⟨_, rfl⟩
  rw [← hWW] at k0 ⊢
  show Done p e below s W (Q_rmtb4 Z b1 k1 x0 x1 x2 x3 h0 n0) ({ frames := 2, cells := 1, slots := 8, locals := 24 } : Room).cells ({ frames := 2, cells := 1, slots := 8, locals := 24 } : Room).slots
  have k20 : Go p e below m W s₁ 1 #[.val (.ref b1), .val (.int (0 : Int32)), .val (.int (4 : Int32)), .unset, .unset] [(.int (4 : Int32))] := k0.iloadN X0 hx (hb hby d_rmtb1_0) rfl
  obtain ⟨T21, v21, L21, X21, Q21, k21⟩ := k20.stat (y := (⟨"java/lang/StringUTF16", "newBytesFor", "(I)[B"⟩ : MethodName)) (Wd := 0) (cells' := 1) (slots' := 8) (argsL := [(.int (4 : Int32))]) (rest := []) X0 hx hZ hown (by rw [hml]; rfl) (hv 112 rfl) (hv 113 rfl) (hv 114 rfl) (hv 70 rfl) (hb hby d_rmtb1_1) (by decide) (rmbf4 l Z a0 hw []  h0 n0 Z0) e0 rfl rfl pd_rmtb1_0 rfl (Nat.le_of_eq rfl) (by decide) (by decide) rfl rfl (by decide) (by decide)
  obtain ⟨ob_21, ok_21, rfl, Nq21, Kq21, q21_0, q21_1, q21_2⟩ := Q21
  have N21 := Fr.app N0 Nq21
  obtain ⟨h21, e21⟩ : ∃ h, T21.heap = h := ⟨_, rfl⟩
  rw [e21] at Kq21 q21_0
  have Z21 : n0 ≤ h21.size := Nat.le_trans Z0 Kq21.1
  have K21 : Keep h0 h21 [] := K0.trans Kq21 (fun x q => absurd q List.not_mem_nil)
  have H22 : h0.size ≤ ob_21 := Nat.le_trans K0.1 q21_2
  have k21 : Go p e below m W T21 4 #[.val (.ref b1), .val (.int (0 : Int32)), .val (.int (4 : Int32)), .unset, .unset] [(.ref ob_21)] := k21
  have k23 : Go p e below m W T21 5 #[.val (.ref b1), .val (.int (0 : Int32)), .val (.int (4 : Int32)), .val (.ref ob_21), .unset] [] := k21.astoreN X21 hx (hb hby d_rmtb1_4) rfl rfl
  have k24 : Go p e below m W T21 8 #[.val (.ref b1), .val (.int (0 : Int32)), .val (.int (4 : Int32)), .val (.ref ob_21), .val (.int (0 : Int32))] [] := (k23.iconst X21 hx (hb hby d_rmtb1_5) (v := (0 : Int32)) rfl).istore X21 hx (hb hby d_rmtb1_6) rfl
  have k25 : Go p e below m W T21 19 #[.val (.ref b1), .val (.int (0 : Int32)), .val (.int (4 : Int32)), .val (.ref ob_21), .val (.int (0 : Int32))] [(.int (0 : Int32)), (.ref b1), (.int (0 : Int32)), (.ref ob_21)] := ((((((k24.iload X21 hx (hb hby d_rmtb1_8) rfl).iloadN X21 hx (hb hby d_rmtb1_10) rfl).icmpNo X21 hx (hb hby d_rmtb1_11) (XT.ii_ge_f (by decide))).aloadN X21 hx (hb hby d_rmtb1_14) rfl rfl).iload X21 hx (hb hby d_rmtb1_15) rfl).aloadN X21 hx (hb hby d_rmtb1_17) rfl rfl).iloadN X21 hx (hb hby d_rmtb1_18) rfl
  have g_1 := V1.keep Kq21 (List.not_mem_nil)
  have k26 : Go p e below m W T21 20 #[.val (.ref b1), .val (.int (0 : Int32)), .val (.int (4 : Int32)), .val (.ref ob_21), .val (.int (0 : Int32))] [(.int x0), (.int (0 : Int32)), (.ref ob_21)] := k25.caload (i := 0) (n := 4) X21 hx hZ e21 g_1 rfl rfl (by decide) (by decide) rfl (hb hby d_rmtb1_19)
  have g_2 := O0.keep Kq21 (fun x q => absurd q List.not_mem_nil)
  obtain ⟨T27, v27, L27, X27, Q27, k27⟩ := k26.stat (y := (⟨"java/lang/StringUTF16", "putChar", "([BII)V"⟩ : MethodName)) (Wd := 0) (cells' := 1) (slots' := 8) (argsL := [(.ref ob_21), (.int (0 : Int32)), (.int x0)]) (rest := []) X21 hx hZ hown (by rw [hml]; rfl) (hv 119 rfl) (hv 120 rfl) (hv 121 rfl) (hv 70 rfl) (hb hby d_rmtb1_20) (by decide) (rmpu l Z a0 hw [] ob_21 (0 : Int32) x0 ok_21 (8 : Int32) ([(.int (0 : Int32)), (.int (0 : Int32)), (.int (0 : Int32)), (.int (0 : Int32)), (.int (0 : Int32)), (.int (0 : Int32)), (.int (0 : Int32)), (.int (0 : Int32))]) 0 h21 n0 Z21 g_2 SAD SHI SLO q21_0 q21_1 rfl (by decide) (by decide) (Nat.le_of_ble_eq_true rfl) (by decide) (by decide) (Nat.le_of_ble_eq_true rfl)) e21 rfl rfl pd_rmtb1_1 rfl (Nat.le_of_eq rfl) (by decide) (by decide) rfl rfl (by decide) (by decide)
  obtain ⟨rfl, Nq27, Kq27, q27_0⟩ := Q27
  have N27 := Fr.app N21 Nq27
  obtain ⟨h27, e27⟩ : ∃ h, T27.heap = h := ⟨_, rfl⟩
  rw [e27] at Kq27 q27_0
  have Z27 : n0 ≤ h27.size := Nat.le_trans Z21 Kq27.1
  have K27 : Keep h0 h27 [] := K21.trans Kq27 (by intro x q; simp only [List.mem_cons, List.not_mem_nil, or_false] at q; rcases q with rfl; exact (Or.inr H22))
  have k27 : Go p e below m W T27 23 #[.val (.ref b1), .val (.int (0 : Int32)), .val (.int (4 : Int32)), .val (.ref ob_21), .val (.int (0 : Int32))] [] := k27
  have vt27 : Arv Z h27 ob_21 ok_21 .byte (8 : Int32) [(.int (own_b0 x0)), (.int (own_b1 x0)), (.int (0 : Int32)), (.int (0 : Int32)), (.int (0 : Int32)), (.int (0 : Int32)), (.int (0 : Int32)), (.int (0 : Int32))] (.int (0 : Int32)) := q27_0
  have k28 : Go p e below m W T27 26 #[.val (.ref b1), .val (.int (1 : Int32)), .val (.int (4 : Int32)), .val (.ref ob_21), .val (.int (0 : Int32))] [] := k27.iinc X27 hx (hb hby d_rmtb1_23) (v := (1 : Int32)) rfl rfl rfl
  have k29 : Go p e below m W T27 29 #[.val (.ref b1), .val (.int (1 : Int32)), .val (.int (4 : Int32)), .val (.ref ob_21), .val (.int (1 : Int32))] [] := k28.iinc X27 hx (hb hby d_rmtb1_26) (v := (1 : Int32)) rfl rfl rfl
  have k30 : Go p e below m W T27 19 #[.val (.ref b1), .val (.int (1 : Int32)), .val (.int (4 : Int32)), .val (.ref ob_21), .val (.int (1 : Int32))] [(.int (1 : Int32)), (.ref b1), (.int (1 : Int32)), (.ref ob_21)] := (((((((k29.goto X27 hx (hb hby d_rmtb1_29) (by decide) (by decide)).iload X27 hx (hb hby d_rmtb1_8) rfl).iloadN X27 hx (hb hby d_rmtb1_10) rfl).icmpNo X27 hx (hb hby d_rmtb1_11) (XT.ii_ge_f (by decide))).aloadN X27 hx (hb hby d_rmtb1_14) rfl rfl).iload X27 hx (hb hby d_rmtb1_15) rfl).aloadN X27 hx (hb hby d_rmtb1_17) rfl rfl).iloadN X27 hx (hb hby d_rmtb1_18) rfl
  have g_3 := (show b1 ≠ ob_21 from Nat.ne_of_lt (Nat.lt_of_lt_of_le V1.lt q21_2))
  have g_4 := g_1.keep Kq27 (by simp only [List.mem_cons, List.not_mem_nil, or_false, not_or]; exact g_3)
  have k31 : Go p e below m W T27 20 #[.val (.ref b1), .val (.int (1 : Int32)), .val (.int (4 : Int32)), .val (.ref ob_21), .val (.int (1 : Int32))] [(.int x1), (.int (1 : Int32)), (.ref ob_21)] := k30.caload (i := 1) (n := 4) X27 hx hZ e27 g_4 rfl rfl (by decide) (by decide) rfl (hb hby d_rmtb1_19)
  have g_5 := g_2.keep Kq27 (by intro x q; simp only [List.mem_cons, List.not_mem_nil, or_false] at q; rcases q with rfl; exact q21_1)
  obtain ⟨T32, v32, L32, X32, Q32, k32⟩ := k31.stat (y := (⟨"java/lang/StringUTF16", "putChar", "([BII)V"⟩ : MethodName)) (Wd := 0) (cells' := 1) (slots' := 8) (argsL := [(.ref ob_21), (.int (1 : Int32)), (.int x1)]) (rest := []) X27 hx hZ hown (by rw [hml]; rfl) (hv 119 rfl) (hv 120 rfl) (hv 121 rfl) (hv 70 rfl) (hb hby d_rmtb1_20) (by decide) (rmpu l Z a0 hw [] ob_21 (1 : Int32) x1 ok_21 (8 : Int32) ([(.int (own_b0 x0)), (.int (own_b1 x0)), (.int (0 : Int32)), (.int (0 : Int32)), (.int (0 : Int32)), (.int (0 : Int32)), (.int (0 : Int32)), (.int (0 : Int32))]) 2 h27 n0 Z27 g_5 SAD SHI SLO vt27 q21_1 rfl (by decide) (by decide) (Nat.le_of_ble_eq_true rfl) (by decide) (by decide) (Nat.le_of_ble_eq_true rfl)) e27 rfl rfl pd_rmtb1_1 rfl (Nat.le_of_eq rfl) (by decide) (by decide) rfl rfl (by decide) (by decide)
  obtain ⟨rfl, Nq32, Kq32, q32_0⟩ := Q32
  have N32 := Fr.app N27 Nq32
  obtain ⟨h32, e32⟩ : ∃ h, T32.heap = h := ⟨_, rfl⟩
  rw [e32] at Kq32 q32_0
  have Z32 : n0 ≤ h32.size := Nat.le_trans Z27 Kq32.1
  have K32 : Keep h0 h32 [] := K27.trans Kq32 (by intro x q; simp only [List.mem_cons, List.not_mem_nil, or_false] at q; rcases q with rfl; exact (Or.inr H22))
  have k32 : Go p e below m W T32 23 #[.val (.ref b1), .val (.int (1 : Int32)), .val (.int (4 : Int32)), .val (.ref ob_21), .val (.int (1 : Int32))] [] := k32
  have vt32 : Arv Z h32 ob_21 ok_21 .byte (8 : Int32) [(.int (own_b0 x0)), (.int (own_b1 x0)), (.int (own_b0 x1)), (.int (own_b1 x1)), (.int (0 : Int32)), (.int (0 : Int32)), (.int (0 : Int32)), (.int (0 : Int32))] (.int (0 : Int32)) := q32_0
  have k33 : Go p e below m W T32 26 #[.val (.ref b1), .val (.int (2 : Int32)), .val (.int (4 : Int32)), .val (.ref ob_21), .val (.int (1 : Int32))] [] := k32.iinc X32 hx (hb hby d_rmtb1_23) (v := (1 : Int32)) rfl rfl rfl
  have k34 : Go p e below m W T32 29 #[.val (.ref b1), .val (.int (2 : Int32)), .val (.int (4 : Int32)), .val (.ref ob_21), .val (.int (2 : Int32))] [] := k33.iinc X32 hx (hb hby d_rmtb1_26) (v := (1 : Int32)) rfl rfl rfl
  have k35 : Go p e below m W T32 19 #[.val (.ref b1), .val (.int (2 : Int32)), .val (.int (4 : Int32)), .val (.ref ob_21), .val (.int (2 : Int32))] [(.int (2 : Int32)), (.ref b1), (.int (2 : Int32)), (.ref ob_21)] := (((((((k34.goto X32 hx (hb hby d_rmtb1_29) (by decide) (by decide)).iload X32 hx (hb hby d_rmtb1_8) rfl).iloadN X32 hx (hb hby d_rmtb1_10) rfl).icmpNo X32 hx (hb hby d_rmtb1_11) (XT.ii_ge_f (by decide))).aloadN X32 hx (hb hby d_rmtb1_14) rfl rfl).iload X32 hx (hb hby d_rmtb1_15) rfl).aloadN X32 hx (hb hby d_rmtb1_17) rfl rfl).iloadN X32 hx (hb hby d_rmtb1_18) rfl
  have g_6 := g_4.keep Kq32 (by simp only [List.mem_cons, List.not_mem_nil, or_false, not_or]; exact g_3)
  have k36 : Go p e below m W T32 20 #[.val (.ref b1), .val (.int (2 : Int32)), .val (.int (4 : Int32)), .val (.ref ob_21), .val (.int (2 : Int32))] [(.int x2), (.int (2 : Int32)), (.ref ob_21)] := k35.caload (i := 2) (n := 4) X32 hx hZ e32 g_6 rfl rfl (by decide) (by decide) rfl (hb hby d_rmtb1_19)
  have g_7 := g_5.keep Kq32 (by intro x q; simp only [List.mem_cons, List.not_mem_nil, or_false] at q; rcases q with rfl; exact q21_1)
  obtain ⟨T37, v37, L37, X37, Q37, k37⟩ := k36.stat (y := (⟨"java/lang/StringUTF16", "putChar", "([BII)V"⟩ : MethodName)) (Wd := 0) (cells' := 1) (slots' := 8) (argsL := [(.ref ob_21), (.int (2 : Int32)), (.int x2)]) (rest := []) X32 hx hZ hown (by rw [hml]; rfl) (hv 119 rfl) (hv 120 rfl) (hv 121 rfl) (hv 70 rfl) (hb hby d_rmtb1_20) (by decide) (rmpu l Z a0 hw [] ob_21 (2 : Int32) x2 ok_21 (8 : Int32) ([(.int (own_b0 x0)), (.int (own_b1 x0)), (.int (own_b0 x1)), (.int (own_b1 x1)), (.int (0 : Int32)), (.int (0 : Int32)), (.int (0 : Int32)), (.int (0 : Int32))]) 4 h32 n0 Z32 g_7 SAD SHI SLO vt32 q21_1 rfl (by decide) (by decide) (Nat.le_of_ble_eq_true rfl) (by decide) (by decide) (Nat.le_of_ble_eq_true rfl)) e32 rfl rfl pd_rmtb1_1 rfl (Nat.le_of_eq rfl) (by decide) (by decide) rfl rfl (by decide) (by decide)
  obtain ⟨rfl, Nq37, Kq37, q37_0⟩ := Q37
  have N37 := Fr.app N32 Nq37
  obtain ⟨h37, e37⟩ : ∃ h, T37.heap = h := ⟨_, rfl⟩
  rw [e37] at Kq37 q37_0
  have Z37 : n0 ≤ h37.size := Nat.le_trans Z32 Kq37.1
  have K37 : Keep h0 h37 [] := K32.trans Kq37 (by intro x q; simp only [List.mem_cons, List.not_mem_nil, or_false] at q; rcases q with rfl; exact (Or.inr H22))
  have k37 : Go p e below m W T37 23 #[.val (.ref b1), .val (.int (2 : Int32)), .val (.int (4 : Int32)), .val (.ref ob_21), .val (.int (2 : Int32))] [] := k37
  have vt37 : Arv Z h37 ob_21 ok_21 .byte (8 : Int32) [(.int (own_b0 x0)), (.int (own_b1 x0)), (.int (own_b0 x1)), (.int (own_b1 x1)), (.int (own_b0 x2)), (.int (own_b1 x2)), (.int (0 : Int32)), (.int (0 : Int32))] (.int (0 : Int32)) := q37_0
  have k38 : Go p e below m W T37 26 #[.val (.ref b1), .val (.int (3 : Int32)), .val (.int (4 : Int32)), .val (.ref ob_21), .val (.int (2 : Int32))] [] := k37.iinc X37 hx (hb hby d_rmtb1_23) (v := (1 : Int32)) rfl rfl rfl
  have k39 : Go p e below m W T37 29 #[.val (.ref b1), .val (.int (3 : Int32)), .val (.int (4 : Int32)), .val (.ref ob_21), .val (.int (3 : Int32))] [] := k38.iinc X37 hx (hb hby d_rmtb1_26) (v := (1 : Int32)) rfl rfl rfl
  have k40 : Go p e below m W T37 19 #[.val (.ref b1), .val (.int (3 : Int32)), .val (.int (4 : Int32)), .val (.ref ob_21), .val (.int (3 : Int32))] [(.int (3 : Int32)), (.ref b1), (.int (3 : Int32)), (.ref ob_21)] := (((((((k39.goto X37 hx (hb hby d_rmtb1_29) (by decide) (by decide)).iload X37 hx (hb hby d_rmtb1_8) rfl).iloadN X37 hx (hb hby d_rmtb1_10) rfl).icmpNo X37 hx (hb hby d_rmtb1_11) (XT.ii_ge_f (by decide))).aloadN X37 hx (hb hby d_rmtb1_14) rfl rfl).iload X37 hx (hb hby d_rmtb1_15) rfl).aloadN X37 hx (hb hby d_rmtb1_17) rfl rfl).iloadN X37 hx (hb hby d_rmtb1_18) rfl
  have g_8 := g_6.keep Kq37 (by simp only [List.mem_cons, List.not_mem_nil, or_false, not_or]; exact g_3)
  have k41 : Go p e below m W T37 20 #[.val (.ref b1), .val (.int (3 : Int32)), .val (.int (4 : Int32)), .val (.ref ob_21), .val (.int (3 : Int32))] [(.int x3), (.int (3 : Int32)), (.ref ob_21)] := k40.caload (i := 3) (n := 4) X37 hx hZ e37 g_8 rfl rfl (by decide) (by decide) rfl (hb hby d_rmtb1_19)
  have g_9 := g_7.keep Kq37 (by intro x q; simp only [List.mem_cons, List.not_mem_nil, or_false] at q; rcases q with rfl; exact q21_1)
  obtain ⟨T42, v42, L42, X42, Q42, k42⟩ := k41.stat (y := (⟨"java/lang/StringUTF16", "putChar", "([BII)V"⟩ : MethodName)) (Wd := 0) (cells' := 1) (slots' := 8) (argsL := [(.ref ob_21), (.int (3 : Int32)), (.int x3)]) (rest := []) X37 hx hZ hown (by rw [hml]; rfl) (hv 119 rfl) (hv 120 rfl) (hv 121 rfl) (hv 70 rfl) (hb hby d_rmtb1_20) (by decide) (rmpu l Z a0 hw [] ob_21 (3 : Int32) x3 ok_21 (8 : Int32) ([(.int (own_b0 x0)), (.int (own_b1 x0)), (.int (own_b0 x1)), (.int (own_b1 x1)), (.int (own_b0 x2)), (.int (own_b1 x2)), (.int (0 : Int32)), (.int (0 : Int32))]) 6 h37 n0 Z37 g_9 SAD SHI SLO vt37 q21_1 rfl (by decide) (by decide) (Nat.le_of_ble_eq_true rfl) (by decide) (by decide) (Nat.le_of_ble_eq_true rfl)) e37 rfl rfl pd_rmtb1_1 rfl (Nat.le_of_eq rfl) (by decide) (by decide) rfl rfl (by decide) (by decide)
  obtain ⟨rfl, Nq42, Kq42, q42_0⟩ := Q42
  have N42 := Fr.app N37 Nq42
  obtain ⟨h42, e42⟩ : ∃ h, T42.heap = h := ⟨_, rfl⟩
  rw [e42] at Kq42 q42_0
  have Z42 : n0 ≤ h42.size := Nat.le_trans Z37 Kq42.1
  have K42 : Keep h0 h42 [] := K37.trans Kq42 (by intro x q; simp only [List.mem_cons, List.not_mem_nil, or_false] at q; rcases q with rfl; exact (Or.inr H22))
  have k42 : Go p e below m W T42 23 #[.val (.ref b1), .val (.int (3 : Int32)), .val (.int (4 : Int32)), .val (.ref ob_21), .val (.int (3 : Int32))] [] := k42
  have vt42 : Arv Z h42 ob_21 ok_21 .byte (8 : Int32) [(.int (own_b0 x0)), (.int (own_b1 x0)), (.int (own_b0 x1)), (.int (own_b1 x1)), (.int (own_b0 x2)), (.int (own_b1 x2)), (.int (own_b0 x3)), (.int (own_b1 x3))] (.int (0 : Int32)) := q42_0
  have k43 : Go p e below m W T42 26 #[.val (.ref b1), .val (.int (4 : Int32)), .val (.int (4 : Int32)), .val (.ref ob_21), .val (.int (3 : Int32))] [] := k42.iinc X42 hx (hb hby d_rmtb1_23) (v := (1 : Int32)) rfl rfl rfl
  have k44 : Go p e below m W T42 29 #[.val (.ref b1), .val (.int (4 : Int32)), .val (.int (4 : Int32)), .val (.ref ob_21), .val (.int (4 : Int32))] [] := k43.iinc X42 hx (hb hby d_rmtb1_26) (v := (1 : Int32)) rfl rfl rfl
  have k45 : Go p e below m W T42 33 #[.val (.ref b1), .val (.int (4 : Int32)), .val (.int (4 : Int32)), .val (.ref ob_21), .val (.int (4 : Int32))] [(.ref ob_21)] := ((((k44.goto X42 hx (hb hby d_rmtb1_29) (by decide) (by decide)).iload X42 hx (hb hby d_rmtb1_8) rfl).iloadN X42 hx (hb hby d_rmtb1_10) rfl).icmpYes X42 hx (hb hby d_rmtb1_11) (XT.ii_ge_t (by decide)) (by decide) (by decide)).aloadN X42 hx (hb hby d_rmtb1_32) rfl rfl
  exact k45.areturn X42 hx Bd.returns rfl rfl (hb hby d_rmtb1_33) (BodyLoose.notSynchronized Bd) (by rw [e42]; exact ⟨ob_21, ok_21, rfl, N42, K42, vt42, q21_1, H22⟩) (by decide) (by decide)

theorem ef_rmcv4 (m : MethodId) (b1 : Addr) (b2 : Addr) : entryFrame m #[(.ref b1), (.int (0 : Int32)), (.ref b2), (.int (0 : Int32)), (.int (4 : Int32))] 7 = mkF m 0 #[.val (.ref b1), .val (.int (0 : Int32)), .val (.ref b2), .val (.int (0 : Int32)), .val (.int (4 : Int32)), .unset, .unset] [] := by first | (simp [entryFrame, mkF, argsToLocals, Value.category]; done) | rfl
def Q_rmcv4 (Z : State) (b1 : Addr) (b2 : Addr) (k1 : ClassId) (k2 : ClassId) (x0 : Int32) (x1 : Int32) (x2 : Int32) (x3 : Int32) (h0 : Heap) (n0 : Nat) (v : Option Value) (h : Heap) (L : List Loc) : Prop := ∃ (ro : Int32) (vs : List Value), v = some (.int ro) ∧ Fr n0 L ∧ Keep h0 h [b2] ∧ ((((255 : Int32) < x0) ∧ ro = (0 : Int32)) ∨ (((255 : Int32) < x1) ∧ ro = (1 : Int32)) ∨ (((255 : Int32) < x2) ∧ ro = (2 : Int32)) ∨ (((255 : Int32) < x3) ∧ ro = (3 : Int32)) ∨ ((¬ ((255 : Int32) < x0)) ∧ (¬ ((255 : Int32) < x1)) ∧ (¬ ((255 : Int32) < x2)) ∧ (¬ ((255 : Int32) < x3)) ∧ ro = (4 : Int32) ∧ vs = [(.int (x0).toInt8.toInt32), (.int (x1).toInt8.toInt32), (.int (x2).toInt8.toInt32), (.int (x3).toInt8.toInt32)])) ∧ Arv Z h b2 k2 .byte (4 : Int32) vs (.int (0 : Int32))
set_option maxRecDepth 65536 in
set_option maxHeartbeats 40000000 in
theorem rmcv4 (l : Launch) (Z : State) (a0 : Array Value) (hw : ∀ d ∈ tables_1, d.before a0 Z = true) (ws : List Jvm.Cond) (b1 : Addr) (b2 : Addr) (k1 : ClassId) (k2 : ClassId) (x0 : Int32) (x1 : Int32) (x2 : Int32) (x3 : Int32) (h0 : Heap) (n0 : Nat) (Z0 : n0 ≤ h0.size) (V1 : Arv Z h0 b1 k1 .char (4 : Int32) [(.int x0), (.int x1), (.int x2), (.int x3)] (.int (0 : Int32))) (V2 : Arv Z h0 b2 k2 .byte (4 : Int32) [(.int (0 : Int32)), (.int (0 : Int32)), (.int (0 : Int32)), (.int (0 : Int32))] (.int (0 : Int32))) (G2 : n0 ≤ b2) (N1 : b1 ≠ b2) :
    MetFree l (⟨"java/lang/StringUTF16", "compress", "([CI[BII)I"⟩ : MethodName) (head1 (Jvm.Cond.code (⟨"java/lang/StringUTF16", "compress", "([CI[BII)I"⟩ : MethodName) jdk_52_method_21_code 7 (some .int) :: ws) ({ frames := 0, cells := 0, slots := 0, locals := 0 } : Room)) (fun a U => a = #[(.ref b1), (.int (0 : Int32)), (.ref b2), (.int (0 : Int32)), (.int (4 : Int32))] ∧ Z.Warmed39 U.vm ∧ U.heap = h0) (fun _ _ _ _ _ => True) (fun _ U o U' => ∃ v L, o = .returned v ∧ Q_rmcv4 Z b1 b2 k1 k2 x0 x1 x2 x3 h0 n0 v U'.heap L ∧ FrameEnd U o U' L ({ frames := 0, cells := 0, slots := 0, locals := 0 } : Room).cells ({ frames := 0, cells := 0, slots := 0, locals := 0 } : Room).slots) := by
  refine MetFree.of_bodySF (plainFor_of_name pn_rmgc) hisR ?_
  intro p e s m args_ below meth c s₁ Bd hml0 hP hK
  obtain ⟨hargs, hZ, hh⟩ := hP
  have hx := Bd.exec
  have hby := Bd.bytes
  have hml : c.maxLocals = 7 := hml0
  have hown : s.vm.findClass "java/lang/StringUTF16" = some m.cls := findClass_of_methodNamed Bd.named
  have hnm := (name_of_methodNamed Bd.named Bd.method).1
  have X0 : Stand p l e ({ frames := 0, cells := 0, slots := 0, locals := 0 } : Room) s m args_ below meth c s₁ [] 0 0 := Stand.of_body Bd
  have e0 : s₁.heap = h0 := by rw [← hh, Bd.state]; rfl
  have N0 := Fr.nil n0
  have hv : ∀ (i : Nat) {d : Jvm.Cond}, tables_1[i]? = some d → d.before a0 Z = true := fun i d q => hw d (List.mem_of_getElem? q)
  have K0 : Keep h0 h0 [b2] := Keep.refl _ _
  have k0 : Go p e below m (s₁.setTop (entryFrame m args_ 7)) s₁ 0 #[.val (.ref b1), .val (.int (0 : Int32)), .val (.ref b2), .val (.int (0 : Int32)), .val (.int (4 : Int32)), .unset, .unset] [] := by rw [hargs]; exact fun t kt => castTop (ef_rmcv4 m b1 b2) kt
  obtain ⟨W, hWW⟩ : ∃ W, W = s₁.setTop (entryFrame m args_ 7) := ⟨_, rfl⟩
  rw [← hWW] at k0 ⊢
  show Done p e below s W (Q_rmcv4 Z b1 b2 k1 k2 x0 x1 x2 x3 h0 n0) ({ frames := 0, cells := 0, slots := 0, locals := 0 } : Room).cells ({ frames := 0, cells := 0, slots := 0, locals := 0 } : Room).slots
  have k20 : Go p e below m W s₁ 3 #[.val (.ref b1), .val (.int (0 : Int32)), .val (.ref b2), .val (.int (0 : Int32)), .val (.int (4 : Int32)), .val (.int (0 : Int32)), .unset] [] := (k0.iconst X0 hx (hb hby d_rmcv1_0) (v := (0 : Int32)) rfl).istore X0 hx (hb hby d_rmcv1_1) rfl
  have k21 : Go p e below m W s₁ 12 #[.val (.ref b1), .val (.int (0 : Int32)), .val (.ref b2), .val (.int (0 : Int32)), .val (.int (4 : Int32)), .val (.int (0 : Int32)), .unset] [(.int (0 : Int32)), (.ref b1)] := ((((k20.iload X0 hx (hb hby d_rmcv1_3) rfl).iload X0 hx (hb hby d_rmcv1_5) rfl).icmpNo X0 hx (hb hby d_rmcv1_7) (XT.ii_ge_f (by decide))).aloadN X0 hx (hb hby d_rmcv1_10) rfl rfl).iloadN X0 hx (hb hby d_rmcv1_11) rfl
  have k22 : Go p e below m W s₁ 15 #[.val (.ref b1), .val (.int (0 : Int32)), .val (.ref b2), .val (.int (0 : Int32)), .val (.int (4 : Int32)), .val (.int (0 : Int32)), .val (.int x0)] [] := (k21.caload (i := 0) (n := 4) X0 hx hZ e0 V1 rfl rfl (by decide) (by decide) rfl (hb hby d_rmcv1_12)).istore X0 hx (hb hby d_rmcv1_13) rfl
  have k23 : Go p e below m W s₁ 20 #[.val (.ref b1), .val (.int (0 : Int32)), .val (.ref b2), .val (.int (0 : Int32)), .val (.int (4 : Int32)), .val (.int (0 : Int32)), .val (.int x0)] [(.int (255 : Int32)), (.int x0)] := (k22.iload X0 hx (hb hby d_rmcv1_15) rfl).sipush X0 hx (hb hby d_rmcv1_17) (v := (255 : Int32)) rfl
  by_cases hc20_24 : (255 : Int32) < x0
  ·
    have k25 : Go p e below m W s₁ 25 #[.val (.ref b1), .val (.int (0 : Int32)), .val (.ref b2), .val (.int (0 : Int32)), .val (.int (4 : Int32)), .val (.int (0 : Int32)), .val (.int x0)] [(.int (0 : Int32))] := (k23.icmpNo X0 hx (hb hby d_rmcv1_20) (XT.ii_le_f hc20_24)).iload X0 hx (hb hby d_rmcv1_23) rfl
    exact k25.ireturnI X0 hx Bd.returns (hb hby d_rmcv1_25) (BodyLoose.notSynchronized Bd) (by rw [e0]; exact ⟨(0 : Int32), [(.int (0 : Int32)), (.int (0 : Int32)), (.int (0 : Int32)), (.int (0 : Int32))], rfl, N0, K0, (Or.inl ⟨hc20_24, rfl⟩), V2⟩) (by decide) (by decide)
  ·
    have k26 : Go p e below m W s₁ 31 #[.val (.ref b1), .val (.int (0 : Int32)), .val (.ref b2), .val (.int (0 : Int32)), .val (.int (4 : Int32)), .val (.int (0 : Int32)), .val (.int x0)] [(.int (x0).toInt8.toInt32), (.int (0 : Int32)), (.ref b2)] := ((((k23.icmpYes X0 hx (hb hby d_rmcv1_20) (XT.ii_le_t hc20_24) (by decide) (by decide)).aloadN X0 hx (hb hby d_rmcv1_26) rfl rfl).iloadN X0 hx (hb hby d_rmcv1_27) rfl).iload X0 hx (hb hby d_rmcv1_28) rfl).i2b X0 hx (hb hby d_rmcv1_30)
    obtain ⟨T27, h27, l27, X27, e27, W27, V27, N27, k27⟩ := k26.bastore (i := 0) X0 hx hZ e0 V2 rfl rfl (by decide) (Nat.le_of_ble_eq_true rfl) N0 G2 (hb hby d_rmcv1_31)
    have k27 : Go p e below m W T27 32 #[.val (.ref b1), .val (.int (0 : Int32)), .val (.ref b2), .val (.int (0 : Int32)), .val (.int (4 : Int32)), .val (.int (0 : Int32)), .val (.int x0)] [] := k27
    have Z27 : n0 ≤ h27.size := (Wr.size W27).symm ▸ Z0
    rw [own_narb] at V27
    have V27 : Arv Z h27 b2 k2 .byte (4 : Int32) [(.int (x0).toInt8.toInt32), (.int (0 : Int32)), (.int (0 : Int32)), (.int (0 : Int32))] (.int (0 : Int32)) := V27
    have K27 : Keep h0 h27 [b2] := K0.wr W27 (Or.inl (List.mem_of_getElem? (i := 0) rfl))
    have k28 : Go p e below m W T27 35 #[.val (.ref b1), .val (.int (1 : Int32)), .val (.ref b2), .val (.int (0 : Int32)), .val (.int (4 : Int32)), .val (.int (0 : Int32)), .val (.int x0)] [] := k27.iinc X27 hx (hb hby d_rmcv1_32) (v := (1 : Int32)) rfl rfl rfl
    have k29 : Go p e below m W T27 38 #[.val (.ref b1), .val (.int (1 : Int32)), .val (.ref b2), .val (.int (1 : Int32)), .val (.int (4 : Int32)), .val (.int (0 : Int32)), .val (.int x0)] [] := k28.iinc X27 hx (hb hby d_rmcv1_35) (v := (1 : Int32)) rfl rfl rfl
    have k30 : Go p e below m W T27 41 #[.val (.ref b1), .val (.int (1 : Int32)), .val (.ref b2), .val (.int (1 : Int32)), .val (.int (4 : Int32)), .val (.int (1 : Int32)), .val (.int x0)] [] := k29.iinc X27 hx (hb hby d_rmcv1_38) (v := (1 : Int32)) rfl rfl rfl
    have k31 : Go p e below m W T27 12 #[.val (.ref b1), .val (.int (1 : Int32)), .val (.ref b2), .val (.int (1 : Int32)), .val (.int (4 : Int32)), .val (.int (1 : Int32)), .val (.int x0)] [(.int (1 : Int32)), (.ref b1)] := (((((k30.goto X27 hx (hb hby d_rmcv1_41) (by decide) (by decide)).iload X27 hx (hb hby d_rmcv1_3) rfl).iload X27 hx (hb hby d_rmcv1_5) rfl).icmpNo X27 hx (hb hby d_rmcv1_7) (XT.ii_ge_f (by decide))).aloadN X27 hx (hb hby d_rmcv1_10) rfl rfl).iloadN X27 hx (hb hby d_rmcv1_11) rfl
    have g_1 := V1.other W27 N1
    have k32 : Go p e below m W T27 15 #[.val (.ref b1), .val (.int (1 : Int32)), .val (.ref b2), .val (.int (1 : Int32)), .val (.int (4 : Int32)), .val (.int (1 : Int32)), .val (.int x1)] [] := (k31.caload (i := 1) (n := 4) X27 hx hZ e27 g_1 rfl rfl (by decide) (by decide) rfl (hb hby d_rmcv1_12)).istore X27 hx (hb hby d_rmcv1_13) rfl
    have k33 : Go p e below m W T27 20 #[.val (.ref b1), .val (.int (1 : Int32)), .val (.ref b2), .val (.int (1 : Int32)), .val (.int (4 : Int32)), .val (.int (1 : Int32)), .val (.int x1)] [(.int (255 : Int32)), (.int x1)] := (k32.iload X27 hx (hb hby d_rmcv1_15) rfl).sipush X27 hx (hb hby d_rmcv1_17) (v := (255 : Int32)) rfl
    by_cases hc20_34 : (255 : Int32) < x1
    ·
      have k35 : Go p e below m W T27 25 #[.val (.ref b1), .val (.int (1 : Int32)), .val (.ref b2), .val (.int (1 : Int32)), .val (.int (4 : Int32)), .val (.int (1 : Int32)), .val (.int x1)] [(.int (1 : Int32))] := (k33.icmpNo X27 hx (hb hby d_rmcv1_20) (XT.ii_le_f hc20_34)).iload X27 hx (hb hby d_rmcv1_23) rfl
      exact k35.ireturnI X27 hx Bd.returns (hb hby d_rmcv1_25) (BodyLoose.notSynchronized Bd) (by rw [e27]; exact ⟨(1 : Int32), [(.int (x0).toInt8.toInt32), (.int (0 : Int32)), (.int (0 : Int32)), (.int (0 : Int32))], rfl, N27, K27, (Or.inr (Or.inl ⟨hc20_34, rfl⟩)), V27⟩) (by decide) (by decide)
    ·
      have k36 : Go p e below m W T27 31 #[.val (.ref b1), .val (.int (1 : Int32)), .val (.ref b2), .val (.int (1 : Int32)), .val (.int (4 : Int32)), .val (.int (1 : Int32)), .val (.int x1)] [(.int (x1).toInt8.toInt32), (.int (1 : Int32)), (.ref b2)] := ((((k33.icmpYes X27 hx (hb hby d_rmcv1_20) (XT.ii_le_t hc20_34) (by decide) (by decide)).aloadN X27 hx (hb hby d_rmcv1_26) rfl rfl).iloadN X27 hx (hb hby d_rmcv1_27) rfl).iload X27 hx (hb hby d_rmcv1_28) rfl).i2b X27 hx (hb hby d_rmcv1_30)
      obtain ⟨T37, h37, l37, X37, e37, W37, V37, N37, k37⟩ := k36.bastore (i := 1) X27 hx hZ e27 V27 rfl rfl (by decide) (Nat.le_of_ble_eq_true rfl) N27 G2 (hb hby d_rmcv1_31)
      have k37 : Go p e below m W T37 32 #[.val (.ref b1), .val (.int (1 : Int32)), .val (.ref b2), .val (.int (1 : Int32)), .val (.int (4 : Int32)), .val (.int (1 : Int32)), .val (.int x1)] [] := k37
      have Z37 : n0 ≤ h37.size := (Wr.size W37).symm ▸ Z27
      rw [own_narb] at V37
      have V37 : Arv Z h37 b2 k2 .byte (4 : Int32) [(.int (x0).toInt8.toInt32), (.int (x1).toInt8.toInt32), (.int (0 : Int32)), (.int (0 : Int32))] (.int (0 : Int32)) := V37
      have K37 : Keep h0 h37 [b2] := K27.wr W37 (Or.inl (List.mem_of_getElem? (i := 0) rfl))
      have k38 : Go p e below m W T37 35 #[.val (.ref b1), .val (.int (2 : Int32)), .val (.ref b2), .val (.int (1 : Int32)), .val (.int (4 : Int32)), .val (.int (1 : Int32)), .val (.int x1)] [] := k37.iinc X37 hx (hb hby d_rmcv1_32) (v := (1 : Int32)) rfl rfl rfl
      have k39 : Go p e below m W T37 38 #[.val (.ref b1), .val (.int (2 : Int32)), .val (.ref b2), .val (.int (2 : Int32)), .val (.int (4 : Int32)), .val (.int (1 : Int32)), .val (.int x1)] [] := k38.iinc X37 hx (hb hby d_rmcv1_35) (v := (1 : Int32)) rfl rfl rfl
      have k40 : Go p e below m W T37 41 #[.val (.ref b1), .val (.int (2 : Int32)), .val (.ref b2), .val (.int (2 : Int32)), .val (.int (4 : Int32)), .val (.int (2 : Int32)), .val (.int x1)] [] := k39.iinc X37 hx (hb hby d_rmcv1_38) (v := (1 : Int32)) rfl rfl rfl
      have k41 : Go p e below m W T37 12 #[.val (.ref b1), .val (.int (2 : Int32)), .val (.ref b2), .val (.int (2 : Int32)), .val (.int (4 : Int32)), .val (.int (2 : Int32)), .val (.int x1)] [(.int (2 : Int32)), (.ref b1)] := (((((k40.goto X37 hx (hb hby d_rmcv1_41) (by decide) (by decide)).iload X37 hx (hb hby d_rmcv1_3) rfl).iload X37 hx (hb hby d_rmcv1_5) rfl).icmpNo X37 hx (hb hby d_rmcv1_7) (XT.ii_ge_f (by decide))).aloadN X37 hx (hb hby d_rmcv1_10) rfl rfl).iloadN X37 hx (hb hby d_rmcv1_11) rfl
      have g_2 := g_1.other W37 N1
      have k42 : Go p e below m W T37 15 #[.val (.ref b1), .val (.int (2 : Int32)), .val (.ref b2), .val (.int (2 : Int32)), .val (.int (4 : Int32)), .val (.int (2 : Int32)), .val (.int x2)] [] := (k41.caload (i := 2) (n := 4) X37 hx hZ e37 g_2 rfl rfl (by decide) (by decide) rfl (hb hby d_rmcv1_12)).istore X37 hx (hb hby d_rmcv1_13) rfl
      have k43 : Go p e below m W T37 20 #[.val (.ref b1), .val (.int (2 : Int32)), .val (.ref b2), .val (.int (2 : Int32)), .val (.int (4 : Int32)), .val (.int (2 : Int32)), .val (.int x2)] [(.int (255 : Int32)), (.int x2)] := (k42.iload X37 hx (hb hby d_rmcv1_15) rfl).sipush X37 hx (hb hby d_rmcv1_17) (v := (255 : Int32)) rfl
      by_cases hc20_44 : (255 : Int32) < x2
      ·
        have k45 : Go p e below m W T37 25 #[.val (.ref b1), .val (.int (2 : Int32)), .val (.ref b2), .val (.int (2 : Int32)), .val (.int (4 : Int32)), .val (.int (2 : Int32)), .val (.int x2)] [(.int (2 : Int32))] := (k43.icmpNo X37 hx (hb hby d_rmcv1_20) (XT.ii_le_f hc20_44)).iload X37 hx (hb hby d_rmcv1_23) rfl
        exact k45.ireturnI X37 hx Bd.returns (hb hby d_rmcv1_25) (BodyLoose.notSynchronized Bd) (by rw [e37]; exact ⟨(2 : Int32), [(.int (x0).toInt8.toInt32), (.int (x1).toInt8.toInt32), (.int (0 : Int32)), (.int (0 : Int32))], rfl, N37, K37, (Or.inr (Or.inr (Or.inl ⟨hc20_44, rfl⟩))), V37⟩) (by decide) (by decide)
      ·
        have k46 : Go p e below m W T37 31 #[.val (.ref b1), .val (.int (2 : Int32)), .val (.ref b2), .val (.int (2 : Int32)), .val (.int (4 : Int32)), .val (.int (2 : Int32)), .val (.int x2)] [(.int (x2).toInt8.toInt32), (.int (2 : Int32)), (.ref b2)] := ((((k43.icmpYes X37 hx (hb hby d_rmcv1_20) (XT.ii_le_t hc20_44) (by decide) (by decide)).aloadN X37 hx (hb hby d_rmcv1_26) rfl rfl).iloadN X37 hx (hb hby d_rmcv1_27) rfl).iload X37 hx (hb hby d_rmcv1_28) rfl).i2b X37 hx (hb hby d_rmcv1_30)
        obtain ⟨T47, h47, l47, X47, e47, W47, V47, N47, k47⟩ := k46.bastore (i := 2) X37 hx hZ e37 V37 rfl rfl (by decide) (Nat.le_of_ble_eq_true rfl) N37 G2 (hb hby d_rmcv1_31)
        have k47 : Go p e below m W T47 32 #[.val (.ref b1), .val (.int (2 : Int32)), .val (.ref b2), .val (.int (2 : Int32)), .val (.int (4 : Int32)), .val (.int (2 : Int32)), .val (.int x2)] [] := k47
        have Z47 : n0 ≤ h47.size := (Wr.size W47).symm ▸ Z37
        rw [own_narb] at V47
        have V47 : Arv Z h47 b2 k2 .byte (4 : Int32) [(.int (x0).toInt8.toInt32), (.int (x1).toInt8.toInt32), (.int (x2).toInt8.toInt32), (.int (0 : Int32))] (.int (0 : Int32)) := V47
        have K47 : Keep h0 h47 [b2] := K37.wr W47 (Or.inl (List.mem_of_getElem? (i := 0) rfl))
        have k48 : Go p e below m W T47 35 #[.val (.ref b1), .val (.int (3 : Int32)), .val (.ref b2), .val (.int (2 : Int32)), .val (.int (4 : Int32)), .val (.int (2 : Int32)), .val (.int x2)] [] := k47.iinc X47 hx (hb hby d_rmcv1_32) (v := (1 : Int32)) rfl rfl rfl
        have k49 : Go p e below m W T47 38 #[.val (.ref b1), .val (.int (3 : Int32)), .val (.ref b2), .val (.int (3 : Int32)), .val (.int (4 : Int32)), .val (.int (2 : Int32)), .val (.int x2)] [] := k48.iinc X47 hx (hb hby d_rmcv1_35) (v := (1 : Int32)) rfl rfl rfl
        have k50 : Go p e below m W T47 41 #[.val (.ref b1), .val (.int (3 : Int32)), .val (.ref b2), .val (.int (3 : Int32)), .val (.int (4 : Int32)), .val (.int (3 : Int32)), .val (.int x2)] [] := k49.iinc X47 hx (hb hby d_rmcv1_38) (v := (1 : Int32)) rfl rfl rfl
        have k51 : Go p e below m W T47 12 #[.val (.ref b1), .val (.int (3 : Int32)), .val (.ref b2), .val (.int (3 : Int32)), .val (.int (4 : Int32)), .val (.int (3 : Int32)), .val (.int x2)] [(.int (3 : Int32)), (.ref b1)] := (((((k50.goto X47 hx (hb hby d_rmcv1_41) (by decide) (by decide)).iload X47 hx (hb hby d_rmcv1_3) rfl).iload X47 hx (hb hby d_rmcv1_5) rfl).icmpNo X47 hx (hb hby d_rmcv1_7) (XT.ii_ge_f (by decide))).aloadN X47 hx (hb hby d_rmcv1_10) rfl rfl).iloadN X47 hx (hb hby d_rmcv1_11) rfl
        have g_3 := g_2.other W47 N1
        have k52 : Go p e below m W T47 15 #[.val (.ref b1), .val (.int (3 : Int32)), .val (.ref b2), .val (.int (3 : Int32)), .val (.int (4 : Int32)), .val (.int (3 : Int32)), .val (.int x3)] [] := (k51.caload (i := 3) (n := 4) X47 hx hZ e47 g_3 rfl rfl (by decide) (by decide) rfl (hb hby d_rmcv1_12)).istore X47 hx (hb hby d_rmcv1_13) rfl
        have k53 : Go p e below m W T47 20 #[.val (.ref b1), .val (.int (3 : Int32)), .val (.ref b2), .val (.int (3 : Int32)), .val (.int (4 : Int32)), .val (.int (3 : Int32)), .val (.int x3)] [(.int (255 : Int32)), (.int x3)] := (k52.iload X47 hx (hb hby d_rmcv1_15) rfl).sipush X47 hx (hb hby d_rmcv1_17) (v := (255 : Int32)) rfl
        by_cases hc20_54 : (255 : Int32) < x3
        ·
          have k55 : Go p e below m W T47 25 #[.val (.ref b1), .val (.int (3 : Int32)), .val (.ref b2), .val (.int (3 : Int32)), .val (.int (4 : Int32)), .val (.int (3 : Int32)), .val (.int x3)] [(.int (3 : Int32))] := (k53.icmpNo X47 hx (hb hby d_rmcv1_20) (XT.ii_le_f hc20_54)).iload X47 hx (hb hby d_rmcv1_23) rfl
          exact k55.ireturnI X47 hx Bd.returns (hb hby d_rmcv1_25) (BodyLoose.notSynchronized Bd) (by rw [e47]; exact ⟨(3 : Int32), [(.int (x0).toInt8.toInt32), (.int (x1).toInt8.toInt32), (.int (x2).toInt8.toInt32), (.int (0 : Int32))], rfl, N47, K47, (Or.inr (Or.inr (Or.inr (Or.inl ⟨hc20_54, rfl⟩)))), V47⟩) (by decide) (by decide)
        ·
          have k56 : Go p e below m W T47 31 #[.val (.ref b1), .val (.int (3 : Int32)), .val (.ref b2), .val (.int (3 : Int32)), .val (.int (4 : Int32)), .val (.int (3 : Int32)), .val (.int x3)] [(.int (x3).toInt8.toInt32), (.int (3 : Int32)), (.ref b2)] := ((((k53.icmpYes X47 hx (hb hby d_rmcv1_20) (XT.ii_le_t hc20_54) (by decide) (by decide)).aloadN X47 hx (hb hby d_rmcv1_26) rfl rfl).iloadN X47 hx (hb hby d_rmcv1_27) rfl).iload X47 hx (hb hby d_rmcv1_28) rfl).i2b X47 hx (hb hby d_rmcv1_30)
          obtain ⟨T57, h57, l57, X57, e57, W57, V57, N57, k57⟩ := k56.bastore (i := 3) X47 hx hZ e47 V47 rfl rfl (by decide) (Nat.le_of_ble_eq_true rfl) N47 G2 (hb hby d_rmcv1_31)
          have k57 : Go p e below m W T57 32 #[.val (.ref b1), .val (.int (3 : Int32)), .val (.ref b2), .val (.int (3 : Int32)), .val (.int (4 : Int32)), .val (.int (3 : Int32)), .val (.int x3)] [] := k57
          have Z57 : n0 ≤ h57.size := (Wr.size W57).symm ▸ Z47
          rw [own_narb] at V57
          have V57 : Arv Z h57 b2 k2 .byte (4 : Int32) [(.int (x0).toInt8.toInt32), (.int (x1).toInt8.toInt32), (.int (x2).toInt8.toInt32), (.int (x3).toInt8.toInt32)] (.int (0 : Int32)) := V57
          have K57 : Keep h0 h57 [b2] := K47.wr W57 (Or.inl (List.mem_of_getElem? (i := 0) rfl))
          have k58 : Go p e below m W T57 35 #[.val (.ref b1), .val (.int (4 : Int32)), .val (.ref b2), .val (.int (3 : Int32)), .val (.int (4 : Int32)), .val (.int (3 : Int32)), .val (.int x3)] [] := k57.iinc X57 hx (hb hby d_rmcv1_32) (v := (1 : Int32)) rfl rfl rfl
          have k59 : Go p e below m W T57 38 #[.val (.ref b1), .val (.int (4 : Int32)), .val (.ref b2), .val (.int (4 : Int32)), .val (.int (4 : Int32)), .val (.int (3 : Int32)), .val (.int x3)] [] := k58.iinc X57 hx (hb hby d_rmcv1_35) (v := (1 : Int32)) rfl rfl rfl
          have k60 : Go p e below m W T57 41 #[.val (.ref b1), .val (.int (4 : Int32)), .val (.ref b2), .val (.int (4 : Int32)), .val (.int (4 : Int32)), .val (.int (4 : Int32)), .val (.int x3)] [] := k59.iinc X57 hx (hb hby d_rmcv1_38) (v := (1 : Int32)) rfl rfl rfl
          have k61 : Go p e below m W T57 46 #[.val (.ref b1), .val (.int (4 : Int32)), .val (.ref b2), .val (.int (4 : Int32)), .val (.int (4 : Int32)), .val (.int (4 : Int32)), .val (.int x3)] [(.int (4 : Int32))] := ((((k60.goto X57 hx (hb hby d_rmcv1_41) (by decide) (by decide)).iload X57 hx (hb hby d_rmcv1_3) rfl).iload X57 hx (hb hby d_rmcv1_5) rfl).icmpYes X57 hx (hb hby d_rmcv1_7) (XT.ii_ge_t (by decide)) (by decide) (by decide)).iload X57 hx (hb hby d_rmcv1_44) rfl
          exact k61.ireturnI X57 hx Bd.returns (hb hby d_rmcv1_46) (BodyLoose.notSynchronized Bd) (by rw [e57]; exact ⟨(4 : Int32), [(.int (x0).toInt8.toInt32), (.int (x1).toInt8.toInt32), (.int (x2).toInt8.toInt32), (.int (x3).toInt8.toInt32)], rfl, N57, K57, (Or.inr (Or.inr (Or.inr (Or.inr ⟨hc20_24, hc20_34, hc20_44, hc20_54, rfl, rfl⟩)))), V57⟩) (by decide) (by decide)

theorem ef_rmcw4 (m : MethodId) (b1 : Addr) : entryFrame m #[(.ref b1), (.int (0 : Int32)), (.int (4 : Int32))] 6 = mkF m 0 #[.val (.ref b1), .val (.int (0 : Int32)), .val (.int (4 : Int32)), .unset, .unset, .unset] [] := by first | (simp [entryFrame, mkF, argsToLocals, Value.category]; done) | rfl
def Q_rmcw4 (Z : State) (b1 : Addr) (k1 : ClassId) (x0 : Int32) (x1 : Int32) (x2 : Int32) (x3 : Int32) (h0 : Heap) (n0 : Nat) (v : Option Value) (h : Heap) (L : List Loc) : Prop := ∃ (ob : Addr) (ok : ClassId) (zz : Int32) (vs : List Value), v = some (.ref ob) ∧ Fr n0 L ∧ Keep h0 h [] ∧ (((¬ ((255 : Int32) < x0)) ∧ (¬ ((255 : Int32) < x1)) ∧ (¬ ((255 : Int32) < x2)) ∧ (¬ ((255 : Int32) < x3)) ∧ zz = (4 : Int32) ∧ vs = [(.int (x0).toInt8.toInt32), (.int (x1).toInt8.toInt32), (.int (x2).toInt8.toInt32), (.int (x3).toInt8.toInt32)]) ∨ (zz = (8 : Int32) ∧ vs = [(.int (own_b0 x0)), (.int (own_b1 x0)), (.int (own_b0 x1)), (.int (own_b1 x1)), (.int (own_b0 x2)), (.int (own_b1 x2)), (.int (own_b0 x3)), (.int (own_b1 x3))])) ∧ Arv Z h ob ok .byte zz vs (.int (0 : Int32)) ∧ n0 ≤ ob ∧ h0.size ≤ ob
set_option maxRecDepth 65536 in
set_option maxHeartbeats 40000000 in
theorem rmcw4 (l : Launch) (Z : State) (a0 : Array Value) (hw : ∀ d ∈ tables_1, d.before a0 Z = true) (ws : List Jvm.Cond) (b1 : Addr) (k1 : ClassId) (x0 : Int32) (x1 : Int32) (x2 : Int32) (x3 : Int32) (h0 : Heap) (n0 : Nat) (Z0 : n0 ≤ h0.size) (O0 : Old Z n0 h0) (SAD : Sta Z Z.heap "java/lang/StringUTF16" "$assertionsDisabled" "Z" (.int (1 : Int32))) (SHI : Sta Z Z.heap "java/lang/StringUTF16" "HI_BYTE_SHIFT" "I" (.int (0 : Int32))) (SLO : Sta Z Z.heap "java/lang/StringUTF16" "LO_BYTE_SHIFT" "I" (.int (8 : Int32))) (V1 : Arv Z h0 b1 k1 .char (4 : Int32) [(.int x0), (.int x1), (.int x2), (.int x3)] (.int (0 : Int32))) (R0 : own_rk x0) (R1 : own_rk x1) (R2 : own_rk x2) (R3 : own_rk x3) :
    MetFree l (⟨"java/lang/StringUTF16", "compress", "([CII)[B"⟩ : MethodName) (head1 (Jvm.Cond.code (⟨"java/lang/StringUTF16", "compress", "([CII)[B"⟩ : MethodName) jdk_52_method_16_code 6 (some (.array .byte)) :: ws) ({ frames := 3, cells := 2, slots := 12, locals := 40 } : Room)) (fun a U => a = #[(.ref b1), (.int (0 : Int32)), (.int (4 : Int32))] ∧ Z.Warmed39 U.vm ∧ U.heap = h0) (fun _ _ _ _ _ => True) (fun _ U o U' => ∃ v L, o = .returned v ∧ Q_rmcw4 Z b1 k1 x0 x1 x2 x3 h0 n0 v U'.heap L ∧ FrameEnd U o U' L ({ frames := 3, cells := 2, slots := 12, locals := 40 } : Room).cells ({ frames := 3, cells := 2, slots := 12, locals := 40 } : Room).slots) := by
  refine MetFree.of_bodySF (plainFor_of_name pn_rmgc) hisR ?_
  intro p e s m args_ below meth c s₁ Bd hml0 hP hK
  obtain ⟨hargs, hZ, hh⟩ := hP
  have hx := Bd.exec
  have hby := Bd.bytes
  have hml : c.maxLocals = 6 := hml0
  have hown : s.vm.findClass "java/lang/StringUTF16" = some m.cls := findClass_of_methodNamed Bd.named
  have hnm := (name_of_methodNamed Bd.named Bd.method).1
  have X0 : Stand p l e ({ frames := 3, cells := 2, slots := 12, locals := 40 } : Room) s m args_ below meth c s₁ [] 0 0 := Stand.of_body Bd
  have e0 : s₁.heap = h0 := by rw [← hh, Bd.state]; rfl
  have N0 := Fr.nil n0
  have hv : ∀ (i : Nat) {d : Jvm.Cond}, tables_1[i]? = some d → d.before a0 Z = true := fun i d q => hw d (List.mem_of_getElem? q)
  have K0 : Keep h0 h0 [] := Keep.refl _ _
  have k0 : Go p e below m (s₁.setTop (entryFrame m args_ 6)) s₁ 0 #[.val (.ref b1), .val (.int (0 : Int32)), .val (.int (4 : Int32)), .unset, .unset, .unset] [] := by rw [hargs]; exact fun t kt => castTop (ef_rmcw4 m b1) kt
  obtain ⟨W, hWW⟩ : ∃ W, W = s₁.setTop (entryFrame m args_ 6) := ⟨_, rfl⟩
  rw [← hWW] at k0 ⊢
  show Done p e below s W (Q_rmcw4 Z b1 k1 x0 x1 x2 x3 h0 n0) ({ frames := 3, cells := 2, slots := 12, locals := 40 } : Room).cells ({ frames := 3, cells := 2, slots := 12, locals := 40 } : Room).slots
  have k20 : Go p e below m W s₁ 1 #[.val (.ref b1), .val (.int (0 : Int32)), .val (.int (4 : Int32)), .unset, .unset, .unset] [(.int (4 : Int32))] := k0.iloadN X0 hx (hb hby d_rmcw1_0) rfl
  obtain ⟨T21, h21, b21, c21, X21, e21, g21, E21, A21, k21⟩ := k20.newP (cap := 4) (cells' := 1) (slots' := 4) X0 hx hZ (hv 31 rfl) e0 (hb hby d_rmcw1_1) (by decide) (by decide) (by decide) rfl rfl (by decide) (by decide)
  have k21 : Go p e below m W T21 3 #[.val (.ref b1), .val (.int (0 : Int32)), .val (.int (4 : Int32)), .unset, .unset, .unset] [(.ref b21)] := k21
  have Z21 : n0 ≤ h21.size := Nat.le_trans Z0 E21.1
  have G21 : n0 ≤ b21 := g21 ▸ Z0
  have H21 : h0.size ≤ b21 := g21 ▸ K0.1
  have K21 : Keep h0 h21 [] := K0.ext E21
  have V21 : Arv Z h21 b21 c21 .byte (4 : Int32) [(.int (0 : Int32)), (.int (0 : Int32)), (.int (0 : Int32)), (.int (0 : Int32))] (.int (0 : Int32)) := A21 4
  have k22 : Go p e below m W T21 4 #[.val (.ref b1), .val (.int (0 : Int32)), .val (.int (4 : Int32)), .val (.ref b21), .unset, .unset] [] := k21.astoreN X21 hx (hb hby d_rmcw1_3) rfl rfl
  have k23 : Go p e below m W T21 9 #[.val (.ref b1), .val (.int (0 : Int32)), .val (.int (4 : Int32)), .val (.ref b21), .unset, .unset] [(.int (4 : Int32)), (.int (0 : Int32)), (.ref b21), (.int (0 : Int32)), (.ref b1)] := ((((k22.aloadN X21 hx (hb hby d_rmcw1_4) rfl rfl).iloadN X21 hx (hb hby d_rmcw1_5) rfl).aloadN X21 hx (hb hby d_rmcw1_6) rfl rfl).iconst X21 hx (hb hby d_rmcw1_7) (v := (0 : Int32)) rfl).iloadN X21 hx (hb hby d_rmcw1_8) rfl
  have g_1 := V1.ext E21
  have g_2 := (show b1 ≠ b21 from Nat.ne_of_lt (g21 ▸ V1.lt))
  obtain ⟨T24, v24, L24, X24, Q24, k24⟩ := k23.stat (y := (⟨"java/lang/StringUTF16", "compress", "([CI[BII)I"⟩ : MethodName)) (Wd := 0) (cells' := 1) (slots' := 4) (argsL := [(.ref b1), (.int (0 : Int32)), (.ref b21), (.int (0 : Int32)), (.int (4 : Int32))]) (rest := []) X21 hx hZ hown (by rw [hml]; rfl) (hv 72 rfl) (hv 73 rfl) (hv 74 rfl) (hv 70 rfl) (hb hby d_rmcw1_9) (by decide) (rmcv4 l Z a0 hw [] b1 b21 k1 c21 x0 x1 x2 x3 h21 n0 Z21 g_1 V21 G21 g_2) e21 rfl rfl pd_rmcw1_0 rfl (Nat.le_of_eq rfl) (by decide) (by decide) rfl rfl (by decide) (by decide)
  obtain ⟨ro_24, vs_24, rfl, Nq24, Kq24, p24_0, q24_0⟩ := Q24
  have N24 := Fr.app N0 Nq24
  obtain ⟨h24, e24⟩ : ∃ h, T24.heap = h := ⟨_, rfl⟩
  rw [e24] at Kq24 q24_0
  have Z24 : n0 ≤ h24.size := Nat.le_trans Z21 Kq24.1
  have K24 : Keep h0 h24 [] := K21.trans Kq24 (by intro x q; simp only [List.mem_cons, List.not_mem_nil, or_false] at q; rcases q with rfl; exact (Or.inr H21))
  have k24 : Go p e below m W T24 12 #[.val (.ref b1), .val (.int (0 : Int32)), .val (.int (4 : Int32)), .val (.ref b21), .unset, .unset] [(.int ro_24)] := k24
  rcases p24_0 with ⟨hs25, q26⟩ | ⟨hs27, q28⟩ | ⟨hs29, q30⟩ | ⟨hs31, q32⟩ | ⟨hs33, hs34, hs35, hs36, q37, q38⟩
  ·
    subst ro_24
    have k39 : Go p e below m W T24 14 #[.val (.ref b1), .val (.int (0 : Int32)), .val (.int (4 : Int32)), .val (.ref b21), .val (.int (0 : Int32)), .unset] [] := k24.istore X24 hx (hb hby d_rmcw1_12) rfl
    have k40 : Go p e below m W T24 23 #[.val (.ref b1), .val (.int (0 : Int32)), .val (.int (4 : Int32)), .val (.ref b21), .val (.int (0 : Int32)), .unset] [(.int (4 : Int32)), (.int (0 : Int32)), (.ref b1)] := (((((k39.iload X24 hx (hb hby d_rmcw1_14) rfl).iloadN X24 hx (hb hby d_rmcw1_16) rfl).icmpNo X24 hx (hb hby d_rmcw1_17) (XT.ii_eq_f (by decide))).aloadN X24 hx (hb hby d_rmcw1_20) rfl rfl).iloadN X24 hx (hb hby d_rmcw1_21) rfl).iloadN X24 hx (hb hby d_rmcw1_22) rfl
    have g_3 := (O0.ext E21).keep Kq24 (by intro x q; simp only [List.mem_cons, List.not_mem_nil, or_false] at q; rcases q with rfl; exact G21)
    have g_4 := g_1.keep Kq24 (by simp only [List.mem_cons, List.not_mem_nil, or_false, not_or]; exact g_2)
    obtain ⟨T41, v41, L41, X41, Q41, k41⟩ := k40.stat (y := (⟨"java/lang/StringUTF16", "toBytes", "([CII)[B"⟩ : MethodName)) (Wd := 0) (cells' := 2) (slots' := 12) (argsL := [(.ref b1), (.int (0 : Int32)), (.int (4 : Int32))]) (rest := []) X24 hx hZ hown (by rw [hml]; rfl) (hv 109 rfl) (hv 110 rfl) (hv 111 rfl) (hv 70 rfl) (hb hby d_rmcw1_23) (by decide) (rmtb4 l Z a0 hw [] b1 k1 x0 x1 x2 x3 h24 n0 Z24 g_3 SAD SHI SLO g_4) e24 rfl rfl pd_rmcw1_1 rfl (Nat.le_of_eq rfl) (by decide) (by decide) rfl rfl (by decide) (by decide)
    obtain ⟨ob_41, ok_41, rfl, Nq41, Kq41, q41_0, q41_1, q41_2⟩ := Q41
    have N41 := Fr.app N24 Nq41
    obtain ⟨h41, e41⟩ : ∃ h, T41.heap = h := ⟨_, rfl⟩
    rw [e41] at Kq41 q41_0
    have Z41 : n0 ≤ h41.size := Nat.le_trans Z24 Kq41.1
    have K41 : Keep h0 h41 [] := K24.trans Kq41 (fun x q => absurd q List.not_mem_nil)
    have H42 : h0.size ≤ ob_41 := Nat.le_trans K24.1 q41_2
    have k41 : Go p e below m W T41 26 #[.val (.ref b1), .val (.int (0 : Int32)), .val (.int (4 : Int32)), .val (.ref b21), .val (.int (0 : Int32)), .unset] [(.ref ob_41)] := k41
    have k43 : Go p e below m W T41 28 #[.val (.ref b1), .val (.int (0 : Int32)), .val (.int (4 : Int32)), .val (.ref b21), .val (.int (0 : Int32)), .val (.ref ob_41)] [] := k41.astore X41 hx (hb hby d_rmcw1_26) rfl rfl
    have k44 : Go p e below m W T41 32 #[.val (.ref b1), .val (.int (0 : Int32)), .val (.int (4 : Int32)), .val (.ref b21), .val (.int (0 : Int32)), .val (.ref ob_41)] [(.int (0 : Int32)), (.ref ob_41)] := (k43.aload X41 hx (hb hby d_rmcw1_28) rfl rfl).iload X41 hx (hb hby d_rmcw1_30) rfl
    have g_5 := g_3.keep Kq41 (fun x q => absurd q List.not_mem_nil)
    obtain ⟨T45, v45, L45, X45, Q45, k45⟩ := k44.stat (y := (⟨"java/lang/StringUTF16", "getChar", "([BI)C"⟩ : MethodName)) (Wd := 0) (cells' := 2) (slots' := 12) (argsL := [(.ref ob_41), (.int (0 : Int32))]) (rest := []) X41 hx hZ hown (by rw [hml]; rfl) (hv 125 rfl) (hv 126 rfl) (hv 127 rfl) (hv 70 rfl) (hb hby d_rmcw1_32) (by decide) (rmgc l Z a0 hw [] ob_41 (0 : Int32) ok_41 (8 : Int32) ([(.int (own_b0 x0)), (.int (own_b1 x0)), (.int (own_b0 x1)), (.int (own_b1 x1)), (.int (own_b0 x2)), (.int (own_b1 x2)), (.int (own_b0 x3)), (.int (own_b1 x3))]) 8 0 (own_b0 x0) (own_b1 x0) x0 h41 n0 Z41 g_5 SAD SHI SLO q41_0 (by decide) (by decide) (by decide) (by decide) rfl (by decide) (by decide) (by decide) rfl (own_chr R0) R0) e41 rfl rfl pd_rmua_1 rfl (Nat.le_of_eq rfl) (by decide) (by decide) rfl rfl (by decide) (by decide)
    obtain ⟨rfl, Nq45, e45q⟩ := Q45
    have N45 := Fr.app N41 Nq45
    have e45 : T45.heap = h41 := e45q
    have k45 : Go p e below m W T45 35 #[.val (.ref b1), .val (.int (0 : Int32)), .val (.int (4 : Int32)), .val (.ref b21), .val (.int (0 : Int32)), .val (.ref ob_41)] [(.int x0)] := k45
    have k46 : Go p e below m W T45 56 #[.val (.ref b1), .val (.int (0 : Int32)), .val (.int (4 : Int32)), .val (.ref b21), .val (.int (0 : Int32)), .val (.ref ob_41)] [(.ref ob_41)] := ((k45.sipush X45 hx (hb hby d_rmcw1_35) (v := (255 : Int32)) rfl).icmpYes X45 hx (hb hby d_rmcw1_38) (XT.ii_gt_t hs25) (by decide) (by decide)).aload X45 hx (hb hby d_rmcw1_54) rfl rfl
    exact k46.areturn X45 hx Bd.returns rfl rfl (hb hby d_rmcw1_56) (BodyLoose.notSynchronized Bd) (by rw [e45]; exact ⟨ob_41, ok_41, (8 : Int32), [(.int (own_b0 x0)), (.int (own_b1 x0)), (.int (own_b0 x1)), (.int (own_b1 x1)), (.int (own_b0 x2)), (.int (own_b1 x2)), (.int (own_b0 x3)), (.int (own_b1 x3))], rfl, N45, K41, (Or.inr ⟨rfl, rfl⟩), q41_0, q41_1, H42⟩) (by decide) (by decide)
  ·
    subst ro_24
    have k47 : Go p e below m W T24 14 #[.val (.ref b1), .val (.int (0 : Int32)), .val (.int (4 : Int32)), .val (.ref b21), .val (.int (1 : Int32)), .unset] [] := k24.istore X24 hx (hb hby d_rmcw1_12) rfl
    have k48 : Go p e below m W T24 23 #[.val (.ref b1), .val (.int (0 : Int32)), .val (.int (4 : Int32)), .val (.ref b21), .val (.int (1 : Int32)), .unset] [(.int (4 : Int32)), (.int (0 : Int32)), (.ref b1)] := (((((k47.iload X24 hx (hb hby d_rmcw1_14) rfl).iloadN X24 hx (hb hby d_rmcw1_16) rfl).icmpNo X24 hx (hb hby d_rmcw1_17) (XT.ii_eq_f (by decide))).aloadN X24 hx (hb hby d_rmcw1_20) rfl rfl).iloadN X24 hx (hb hby d_rmcw1_21) rfl).iloadN X24 hx (hb hby d_rmcw1_22) rfl
    have g_6 := (O0.ext E21).keep Kq24 (by intro x q; simp only [List.mem_cons, List.not_mem_nil, or_false] at q; rcases q with rfl; exact G21)
    have g_7 := g_1.keep Kq24 (by simp only [List.mem_cons, List.not_mem_nil, or_false, not_or]; exact g_2)
    obtain ⟨T49, v49, L49, X49, Q49, k49⟩ := k48.stat (y := (⟨"java/lang/StringUTF16", "toBytes", "([CII)[B"⟩ : MethodName)) (Wd := 0) (cells' := 2) (slots' := 12) (argsL := [(.ref b1), (.int (0 : Int32)), (.int (4 : Int32))]) (rest := []) X24 hx hZ hown (by rw [hml]; rfl) (hv 109 rfl) (hv 110 rfl) (hv 111 rfl) (hv 70 rfl) (hb hby d_rmcw1_23) (by decide) (rmtb4 l Z a0 hw [] b1 k1 x0 x1 x2 x3 h24 n0 Z24 g_6 SAD SHI SLO g_7) e24 rfl rfl pd_rmcw1_1 rfl (Nat.le_of_eq rfl) (by decide) (by decide) rfl rfl (by decide) (by decide)
    obtain ⟨ob_49, ok_49, rfl, Nq49, Kq49, q49_0, q49_1, q49_2⟩ := Q49
    have N49 := Fr.app N24 Nq49
    obtain ⟨h49, e49⟩ : ∃ h, T49.heap = h := ⟨_, rfl⟩
    rw [e49] at Kq49 q49_0
    have Z49 : n0 ≤ h49.size := Nat.le_trans Z24 Kq49.1
    have K49 : Keep h0 h49 [] := K24.trans Kq49 (fun x q => absurd q List.not_mem_nil)
    have H50 : h0.size ≤ ob_49 := Nat.le_trans K24.1 q49_2
    have k49 : Go p e below m W T49 26 #[.val (.ref b1), .val (.int (0 : Int32)), .val (.int (4 : Int32)), .val (.ref b21), .val (.int (1 : Int32)), .unset] [(.ref ob_49)] := k49
    have k51 : Go p e below m W T49 28 #[.val (.ref b1), .val (.int (0 : Int32)), .val (.int (4 : Int32)), .val (.ref b21), .val (.int (1 : Int32)), .val (.ref ob_49)] [] := k49.astore X49 hx (hb hby d_rmcw1_26) rfl rfl
    have k52 : Go p e below m W T49 32 #[.val (.ref b1), .val (.int (0 : Int32)), .val (.int (4 : Int32)), .val (.ref b21), .val (.int (1 : Int32)), .val (.ref ob_49)] [(.int (1 : Int32)), (.ref ob_49)] := (k51.aload X49 hx (hb hby d_rmcw1_28) rfl rfl).iload X49 hx (hb hby d_rmcw1_30) rfl
    have g_8 := g_6.keep Kq49 (fun x q => absurd q List.not_mem_nil)
    obtain ⟨T53, v53, L53, X53, Q53, k53⟩ := k52.stat (y := (⟨"java/lang/StringUTF16", "getChar", "([BI)C"⟩ : MethodName)) (Wd := 0) (cells' := 2) (slots' := 12) (argsL := [(.ref ob_49), (.int (1 : Int32))]) (rest := []) X49 hx hZ hown (by rw [hml]; rfl) (hv 125 rfl) (hv 126 rfl) (hv 127 rfl) (hv 70 rfl) (hb hby d_rmcw1_32) (by decide) (rmgc l Z a0 hw [] ob_49 (1 : Int32) ok_49 (8 : Int32) ([(.int (own_b0 x0)), (.int (own_b1 x0)), (.int (own_b0 x1)), (.int (own_b1 x1)), (.int (own_b0 x2)), (.int (own_b1 x2)), (.int (own_b0 x3)), (.int (own_b1 x3))]) 8 2 (own_b0 x1) (own_b1 x1) x1 h49 n0 Z49 g_8 SAD SHI SLO q49_0 (by decide) (by decide) (by decide) (by decide) rfl (by decide) (by decide) (by decide) rfl (own_chr R1) R1) e49 rfl rfl pd_rmua_1 rfl (Nat.le_of_eq rfl) (by decide) (by decide) rfl rfl (by decide) (by decide)
    obtain ⟨rfl, Nq53, e53q⟩ := Q53
    have N53 := Fr.app N49 Nq53
    have e53 : T53.heap = h49 := e53q
    have k53 : Go p e below m W T53 35 #[.val (.ref b1), .val (.int (0 : Int32)), .val (.int (4 : Int32)), .val (.ref b21), .val (.int (1 : Int32)), .val (.ref ob_49)] [(.int x1)] := k53
    have k54 : Go p e below m W T53 56 #[.val (.ref b1), .val (.int (0 : Int32)), .val (.int (4 : Int32)), .val (.ref b21), .val (.int (1 : Int32)), .val (.ref ob_49)] [(.ref ob_49)] := ((k53.sipush X53 hx (hb hby d_rmcw1_35) (v := (255 : Int32)) rfl).icmpYes X53 hx (hb hby d_rmcw1_38) (XT.ii_gt_t hs27) (by decide) (by decide)).aload X53 hx (hb hby d_rmcw1_54) rfl rfl
    exact k54.areturn X53 hx Bd.returns rfl rfl (hb hby d_rmcw1_56) (BodyLoose.notSynchronized Bd) (by rw [e53]; exact ⟨ob_49, ok_49, (8 : Int32), [(.int (own_b0 x0)), (.int (own_b1 x0)), (.int (own_b0 x1)), (.int (own_b1 x1)), (.int (own_b0 x2)), (.int (own_b1 x2)), (.int (own_b0 x3)), (.int (own_b1 x3))], rfl, N53, K49, (Or.inr ⟨rfl, rfl⟩), q49_0, q49_1, H50⟩) (by decide) (by decide)
  ·
    subst ro_24
    have k55 : Go p e below m W T24 14 #[.val (.ref b1), .val (.int (0 : Int32)), .val (.int (4 : Int32)), .val (.ref b21), .val (.int (2 : Int32)), .unset] [] := k24.istore X24 hx (hb hby d_rmcw1_12) rfl
    have k56 : Go p e below m W T24 23 #[.val (.ref b1), .val (.int (0 : Int32)), .val (.int (4 : Int32)), .val (.ref b21), .val (.int (2 : Int32)), .unset] [(.int (4 : Int32)), (.int (0 : Int32)), (.ref b1)] := (((((k55.iload X24 hx (hb hby d_rmcw1_14) rfl).iloadN X24 hx (hb hby d_rmcw1_16) rfl).icmpNo X24 hx (hb hby d_rmcw1_17) (XT.ii_eq_f (by decide))).aloadN X24 hx (hb hby d_rmcw1_20) rfl rfl).iloadN X24 hx (hb hby d_rmcw1_21) rfl).iloadN X24 hx (hb hby d_rmcw1_22) rfl
    have g_9 := (O0.ext E21).keep Kq24 (by intro x q; simp only [List.mem_cons, List.not_mem_nil, or_false] at q; rcases q with rfl; exact G21)
    have g_10 := g_1.keep Kq24 (by simp only [List.mem_cons, List.not_mem_nil, or_false, not_or]; exact g_2)
    obtain ⟨T57, v57, L57, X57, Q57, k57⟩ := k56.stat (y := (⟨"java/lang/StringUTF16", "toBytes", "([CII)[B"⟩ : MethodName)) (Wd := 0) (cells' := 2) (slots' := 12) (argsL := [(.ref b1), (.int (0 : Int32)), (.int (4 : Int32))]) (rest := []) X24 hx hZ hown (by rw [hml]; rfl) (hv 109 rfl) (hv 110 rfl) (hv 111 rfl) (hv 70 rfl) (hb hby d_rmcw1_23) (by decide) (rmtb4 l Z a0 hw [] b1 k1 x0 x1 x2 x3 h24 n0 Z24 g_9 SAD SHI SLO g_10) e24 rfl rfl pd_rmcw1_1 rfl (Nat.le_of_eq rfl) (by decide) (by decide) rfl rfl (by decide) (by decide)
    obtain ⟨ob_57, ok_57, rfl, Nq57, Kq57, q57_0, q57_1, q57_2⟩ := Q57
    have N57 := Fr.app N24 Nq57
    obtain ⟨h57, e57⟩ : ∃ h, T57.heap = h := ⟨_, rfl⟩
    rw [e57] at Kq57 q57_0
    have Z57 : n0 ≤ h57.size := Nat.le_trans Z24 Kq57.1
    have K57 : Keep h0 h57 [] := K24.trans Kq57 (fun x q => absurd q List.not_mem_nil)
    have H58 : h0.size ≤ ob_57 := Nat.le_trans K24.1 q57_2
    have k57 : Go p e below m W T57 26 #[.val (.ref b1), .val (.int (0 : Int32)), .val (.int (4 : Int32)), .val (.ref b21), .val (.int (2 : Int32)), .unset] [(.ref ob_57)] := k57
    have k59 : Go p e below m W T57 28 #[.val (.ref b1), .val (.int (0 : Int32)), .val (.int (4 : Int32)), .val (.ref b21), .val (.int (2 : Int32)), .val (.ref ob_57)] [] := k57.astore X57 hx (hb hby d_rmcw1_26) rfl rfl
    have k60 : Go p e below m W T57 32 #[.val (.ref b1), .val (.int (0 : Int32)), .val (.int (4 : Int32)), .val (.ref b21), .val (.int (2 : Int32)), .val (.ref ob_57)] [(.int (2 : Int32)), (.ref ob_57)] := (k59.aload X57 hx (hb hby d_rmcw1_28) rfl rfl).iload X57 hx (hb hby d_rmcw1_30) rfl
    have g_11 := g_9.keep Kq57 (fun x q => absurd q List.not_mem_nil)
    obtain ⟨T61, v61, L61, X61, Q61, k61⟩ := k60.stat (y := (⟨"java/lang/StringUTF16", "getChar", "([BI)C"⟩ : MethodName)) (Wd := 0) (cells' := 2) (slots' := 12) (argsL := [(.ref ob_57), (.int (2 : Int32))]) (rest := []) X57 hx hZ hown (by rw [hml]; rfl) (hv 125 rfl) (hv 126 rfl) (hv 127 rfl) (hv 70 rfl) (hb hby d_rmcw1_32) (by decide) (rmgc l Z a0 hw [] ob_57 (2 : Int32) ok_57 (8 : Int32) ([(.int (own_b0 x0)), (.int (own_b1 x0)), (.int (own_b0 x1)), (.int (own_b1 x1)), (.int (own_b0 x2)), (.int (own_b1 x2)), (.int (own_b0 x3)), (.int (own_b1 x3))]) 8 4 (own_b0 x2) (own_b1 x2) x2 h57 n0 Z57 g_11 SAD SHI SLO q57_0 (by decide) (by decide) (by decide) (by decide) rfl (by decide) (by decide) (by decide) rfl (own_chr R2) R2) e57 rfl rfl pd_rmua_1 rfl (Nat.le_of_eq rfl) (by decide) (by decide) rfl rfl (by decide) (by decide)
    obtain ⟨rfl, Nq61, e61q⟩ := Q61
    have N61 := Fr.app N57 Nq61
    have e61 : T61.heap = h57 := e61q
    have k61 : Go p e below m W T61 35 #[.val (.ref b1), .val (.int (0 : Int32)), .val (.int (4 : Int32)), .val (.ref b21), .val (.int (2 : Int32)), .val (.ref ob_57)] [(.int x2)] := k61
    have k62 : Go p e below m W T61 56 #[.val (.ref b1), .val (.int (0 : Int32)), .val (.int (4 : Int32)), .val (.ref b21), .val (.int (2 : Int32)), .val (.ref ob_57)] [(.ref ob_57)] := ((k61.sipush X61 hx (hb hby d_rmcw1_35) (v := (255 : Int32)) rfl).icmpYes X61 hx (hb hby d_rmcw1_38) (XT.ii_gt_t hs29) (by decide) (by decide)).aload X61 hx (hb hby d_rmcw1_54) rfl rfl
    exact k62.areturn X61 hx Bd.returns rfl rfl (hb hby d_rmcw1_56) (BodyLoose.notSynchronized Bd) (by rw [e61]; exact ⟨ob_57, ok_57, (8 : Int32), [(.int (own_b0 x0)), (.int (own_b1 x0)), (.int (own_b0 x1)), (.int (own_b1 x1)), (.int (own_b0 x2)), (.int (own_b1 x2)), (.int (own_b0 x3)), (.int (own_b1 x3))], rfl, N61, K57, (Or.inr ⟨rfl, rfl⟩), q57_0, q57_1, H58⟩) (by decide) (by decide)
  ·
    subst ro_24
    have k63 : Go p e below m W T24 14 #[.val (.ref b1), .val (.int (0 : Int32)), .val (.int (4 : Int32)), .val (.ref b21), .val (.int (3 : Int32)), .unset] [] := k24.istore X24 hx (hb hby d_rmcw1_12) rfl
    have k64 : Go p e below m W T24 23 #[.val (.ref b1), .val (.int (0 : Int32)), .val (.int (4 : Int32)), .val (.ref b21), .val (.int (3 : Int32)), .unset] [(.int (4 : Int32)), (.int (0 : Int32)), (.ref b1)] := (((((k63.iload X24 hx (hb hby d_rmcw1_14) rfl).iloadN X24 hx (hb hby d_rmcw1_16) rfl).icmpNo X24 hx (hb hby d_rmcw1_17) (XT.ii_eq_f (by decide))).aloadN X24 hx (hb hby d_rmcw1_20) rfl rfl).iloadN X24 hx (hb hby d_rmcw1_21) rfl).iloadN X24 hx (hb hby d_rmcw1_22) rfl
    have g_12 := (O0.ext E21).keep Kq24 (by intro x q; simp only [List.mem_cons, List.not_mem_nil, or_false] at q; rcases q with rfl; exact G21)
    have g_13 := g_1.keep Kq24 (by simp only [List.mem_cons, List.not_mem_nil, or_false, not_or]; exact g_2)
    obtain ⟨T65, v65, L65, X65, Q65, k65⟩ := k64.stat (y := (⟨"java/lang/StringUTF16", "toBytes", "([CII)[B"⟩ : MethodName)) (Wd := 0) (cells' := 2) (slots' := 12) (argsL := [(.ref b1), (.int (0 : Int32)), (.int (4 : Int32))]) (rest := []) X24 hx hZ hown (by rw [hml]; rfl) (hv 109 rfl) (hv 110 rfl) (hv 111 rfl) (hv 70 rfl) (hb hby d_rmcw1_23) (by decide) (rmtb4 l Z a0 hw [] b1 k1 x0 x1 x2 x3 h24 n0 Z24 g_12 SAD SHI SLO g_13) e24 rfl rfl pd_rmcw1_1 rfl (Nat.le_of_eq rfl) (by decide) (by decide) rfl rfl (by decide) (by decide)
    obtain ⟨ob_65, ok_65, rfl, Nq65, Kq65, q65_0, q65_1, q65_2⟩ := Q65
    have N65 := Fr.app N24 Nq65
    obtain ⟨h65, e65⟩ : ∃ h, T65.heap = h := ⟨_, rfl⟩
    rw [e65] at Kq65 q65_0
    have Z65 : n0 ≤ h65.size := Nat.le_trans Z24 Kq65.1
    have K65 : Keep h0 h65 [] := K24.trans Kq65 (fun x q => absurd q List.not_mem_nil)
    have H66 : h0.size ≤ ob_65 := Nat.le_trans K24.1 q65_2
    have k65 : Go p e below m W T65 26 #[.val (.ref b1), .val (.int (0 : Int32)), .val (.int (4 : Int32)), .val (.ref b21), .val (.int (3 : Int32)), .unset] [(.ref ob_65)] := k65
    have k67 : Go p e below m W T65 28 #[.val (.ref b1), .val (.int (0 : Int32)), .val (.int (4 : Int32)), .val (.ref b21), .val (.int (3 : Int32)), .val (.ref ob_65)] [] := k65.astore X65 hx (hb hby d_rmcw1_26) rfl rfl
    have k68 : Go p e below m W T65 32 #[.val (.ref b1), .val (.int (0 : Int32)), .val (.int (4 : Int32)), .val (.ref b21), .val (.int (3 : Int32)), .val (.ref ob_65)] [(.int (3 : Int32)), (.ref ob_65)] := (k67.aload X65 hx (hb hby d_rmcw1_28) rfl rfl).iload X65 hx (hb hby d_rmcw1_30) rfl
    have g_14 := g_12.keep Kq65 (fun x q => absurd q List.not_mem_nil)
    obtain ⟨T69, v69, L69, X69, Q69, k69⟩ := k68.stat (y := (⟨"java/lang/StringUTF16", "getChar", "([BI)C"⟩ : MethodName)) (Wd := 0) (cells' := 2) (slots' := 12) (argsL := [(.ref ob_65), (.int (3 : Int32))]) (rest := []) X65 hx hZ hown (by rw [hml]; rfl) (hv 125 rfl) (hv 126 rfl) (hv 127 rfl) (hv 70 rfl) (hb hby d_rmcw1_32) (by decide) (rmgc l Z a0 hw [] ob_65 (3 : Int32) ok_65 (8 : Int32) ([(.int (own_b0 x0)), (.int (own_b1 x0)), (.int (own_b0 x1)), (.int (own_b1 x1)), (.int (own_b0 x2)), (.int (own_b1 x2)), (.int (own_b0 x3)), (.int (own_b1 x3))]) 8 6 (own_b0 x3) (own_b1 x3) x3 h65 n0 Z65 g_14 SAD SHI SLO q65_0 (by decide) (by decide) (by decide) (by decide) rfl (by decide) (by decide) (by decide) rfl (own_chr R3) R3) e65 rfl rfl pd_rmua_1 rfl (Nat.le_of_eq rfl) (by decide) (by decide) rfl rfl (by decide) (by decide)
    obtain ⟨rfl, Nq69, e69q⟩ := Q69
    have N69 := Fr.app N65 Nq69
    have e69 : T69.heap = h65 := e69q
    have k69 : Go p e below m W T69 35 #[.val (.ref b1), .val (.int (0 : Int32)), .val (.int (4 : Int32)), .val (.ref b21), .val (.int (3 : Int32)), .val (.ref ob_65)] [(.int x3)] := k69
    have k70 : Go p e below m W T69 56 #[.val (.ref b1), .val (.int (0 : Int32)), .val (.int (4 : Int32)), .val (.ref b21), .val (.int (3 : Int32)), .val (.ref ob_65)] [(.ref ob_65)] := ((k69.sipush X69 hx (hb hby d_rmcw1_35) (v := (255 : Int32)) rfl).icmpYes X69 hx (hb hby d_rmcw1_38) (XT.ii_gt_t hs31) (by decide) (by decide)).aload X69 hx (hb hby d_rmcw1_54) rfl rfl
    exact k70.areturn X69 hx Bd.returns rfl rfl (hb hby d_rmcw1_56) (BodyLoose.notSynchronized Bd) (by rw [e69]; exact ⟨ob_65, ok_65, (8 : Int32), [(.int (own_b0 x0)), (.int (own_b1 x0)), (.int (own_b0 x1)), (.int (own_b1 x1)), (.int (own_b0 x2)), (.int (own_b1 x2)), (.int (own_b0 x3)), (.int (own_b1 x3))], rfl, N69, K65, (Or.inr ⟨rfl, rfl⟩), q65_0, q65_1, H66⟩) (by decide) (by decide)
  ·
    subst ro_24
    subst vs_24
    have k71 : Go p e below m W T24 14 #[.val (.ref b1), .val (.int (0 : Int32)), .val (.int (4 : Int32)), .val (.ref b21), .val (.int (4 : Int32)), .unset] [] := k24.istore X24 hx (hb hby d_rmcw1_12) rfl
    have k72 : Go p e below m W T24 58 #[.val (.ref b1), .val (.int (0 : Int32)), .val (.int (4 : Int32)), .val (.ref b21), .val (.int (4 : Int32)), .unset] [(.ref b21)] := (((k71.iload X24 hx (hb hby d_rmcw1_14) rfl).iloadN X24 hx (hb hby d_rmcw1_16) rfl).icmpYes X24 hx (hb hby d_rmcw1_17) (XT.ii_eq_t (by decide)) (by decide) (by decide)).aloadN X24 hx (hb hby d_rmcw1_57) rfl rfl
    exact k72.areturn X24 hx Bd.returns rfl rfl (hb hby d_rmcw1_58) (BodyLoose.notSynchronized Bd) (by rw [e24]; exact ⟨b21, c21, (4 : Int32), [(.int (x0).toInt8.toInt32), (.int (x1).toInt8.toInt32), (.int (x2).toInt8.toInt32), (.int (x3).toInt8.toInt32)], rfl, N24, K24, (Or.inl ⟨hs33, hs34, hs35, hs36, rfl, rfl⟩), q24_0, G21, H21⟩) (by decide) (by decide)

theorem ef_rmcf4_4 (m : MethodId) (a1 : Addr) : entryFrame m #[(.ref a1), (.int (4 : Int32))] 2 = mkF m 0 #[.val (.ref a1), .val (.int (4 : Int32))] [] := by first | (simp [entryFrame, mkF, argsToLocals, Value.category]; done) | rfl
def Q_rmcf4_4 (Z : State) (a1 : Addr) (kb : ClassId) (vs : List Value) (h0 : Heap) (n0 : Nat) (v : Option Value) (h : Heap) (L : List Loc) : Prop := v = some (.int (0 : Int32)) ∧ Fr n0 L ∧ h = h0
set_option maxRecDepth 65536 in
set_option maxHeartbeats 40000000 in
theorem rmcf4_4 (l : Launch) (Z : State) (a0 : Array Value) (hw : ∀ d ∈ tables_1, d.before a0 Z = true) (ws : List Jvm.Cond) (a1 : Addr) (kb : ClassId) (vs : List Value) (h0 : Heap) (n0 : Nat) (Z0 : n0 ≤ h0.size) (V1 : Arv Z h0 a1 kb .byte (4 : Int32) vs (.int (0 : Int32))) :
    MetFree l (⟨"java/lang/StringUTF16", "coderFromArrayLen", "([BI)B"⟩ : MethodName) (head1 (Jvm.Cond.code (⟨"java/lang/StringUTF16", "coderFromArrayLen", "([BI)B"⟩ : MethodName) jdk_52_method_15_code 2 (some .byte) :: ws) ({ frames := 0, cells := 0, slots := 0, locals := 0 } : Room)) (fun a U => a = #[(.ref a1), (.int (4 : Int32))] ∧ Z.Warmed39 U.vm ∧ U.heap = h0) (fun _ _ _ _ _ => True) (fun _ U o U' => ∃ v L, o = .returned v ∧ Q_rmcf4_4 Z a1 kb vs h0 n0 v U'.heap L ∧ FrameEnd U o U' L ({ frames := 0, cells := 0, slots := 0, locals := 0 } : Room).cells ({ frames := 0, cells := 0, slots := 0, locals := 0 } : Room).slots) := by
  refine MetFree.of_bodySF (plainFor_of_name pn_rmgc) hisR ?_
  intro p e s m args_ below meth c s₁ Bd hml0 hP hK
  obtain ⟨hargs, hZ, hh⟩ := hP
  have hx := Bd.exec
  have hby := Bd.bytes
  have hml : c.maxLocals = 2 := hml0
  have hown : s.vm.findClass "java/lang/StringUTF16" = some m.cls := findClass_of_methodNamed Bd.named
  have hnm := (name_of_methodNamed Bd.named Bd.method).1
  have X0 : Stand p l e ({ frames := 0, cells := 0, slots := 0, locals := 0 } : Room) s m args_ below meth c s₁ [] 0 0 := Stand.of_body Bd
  have e0 : s₁.heap = h0 := by rw [← hh, Bd.state]; rfl
  have N0 := Fr.nil n0
  have hv : ∀ (i : Nat) {d : Jvm.Cond}, tables_1[i]? = some d → d.before a0 Z = true := fun i d q => hw d (List.mem_of_getElem? q)
  have k0 : Go p e below m (s₁.setTop (entryFrame m args_ 2)) s₁ 0 #[.val (.ref a1), .val (.int (4 : Int32))] [] := by rw [hargs]; exact fun t kt => castTop (ef_rmcf4_4 m a1) kt
  obtain ⟨W, hWW⟩ : ∃ W, W = s₁.setTop (entryFrame m args_ 2) := ⟨_, rfl⟩
  rw [← hWW] at k0 ⊢
  show Done p e below s W (Q_rmcf4_4 Z a1 kb vs h0 n0) ({ frames := 0, cells := 0, slots := 0, locals := 0 } : Room).cells ({ frames := 0, cells := 0, slots := 0, locals := 0 } : Room).slots
  have k20 : Go p e below m W s₁ 2 #[.val (.ref a1), .val (.int (4 : Int32))] [(.ref a1), (.int (4 : Int32))] := (k0.iloadN X0 hx (hb hby d_rmcf1_1_0) rfl).aloadN X0 hx (hb hby d_rmcf1_1_1) rfl rfl
  have k21 : Go p e below m W s₁ 8 #[.val (.ref a1), .val (.int (4 : Int32))] [(.int (0 : Int32))] := (((((((k20.arraylength X0 hx hZ e0 V1 (hb hby d_rmcf1_1_2)).isub X0 hx (hb hby d_rmcf1_1_3)).cast (y := (0 : Int32)) (by decide)).bipush X0 hx (hb hby d_rmcf1_1_4) (v := (31 : Int32)) rfl).iushr X0 hx (hb hby d_rmcf1_1_6)).cast (y := (0 : Int32)) (by decide)).i2b X0 hx (hb hby d_rmcf1_1_7)).cast (y := (0 : Int32)) (by decide)
  exact k21.ireturnN X0 hx (t := .byte) Bd.returns (by simp) rfl (hb hby d_rmcf1_1_8) (BodyLoose.notSynchronized Bd) (by rw [e0]; exact ⟨rfl, N0, rfl⟩) (by decide) (by decide)

theorem ef_rmcf4_8 (m : MethodId) (a1 : Addr) : entryFrame m #[(.ref a1), (.int (4 : Int32))] 2 = mkF m 0 #[.val (.ref a1), .val (.int (4 : Int32))] [] := by first | (simp [entryFrame, mkF, argsToLocals, Value.category]; done) | rfl
def Q_rmcf4_8 (Z : State) (a1 : Addr) (kb : ClassId) (vs : List Value) (h0 : Heap) (n0 : Nat) (v : Option Value) (h : Heap) (L : List Loc) : Prop := v = some (.int (1 : Int32)) ∧ Fr n0 L ∧ h = h0
set_option maxRecDepth 65536 in
set_option maxHeartbeats 40000000 in
theorem rmcf4_8 (l : Launch) (Z : State) (a0 : Array Value) (hw : ∀ d ∈ tables_1, d.before a0 Z = true) (ws : List Jvm.Cond) (a1 : Addr) (kb : ClassId) (vs : List Value) (h0 : Heap) (n0 : Nat) (Z0 : n0 ≤ h0.size) (V1 : Arv Z h0 a1 kb .byte (8 : Int32) vs (.int (0 : Int32))) :
    MetFree l (⟨"java/lang/StringUTF16", "coderFromArrayLen", "([BI)B"⟩ : MethodName) (head1 (Jvm.Cond.code (⟨"java/lang/StringUTF16", "coderFromArrayLen", "([BI)B"⟩ : MethodName) jdk_52_method_15_code 2 (some .byte) :: ws) ({ frames := 0, cells := 0, slots := 0, locals := 0 } : Room)) (fun a U => a = #[(.ref a1), (.int (4 : Int32))] ∧ Z.Warmed39 U.vm ∧ U.heap = h0) (fun _ _ _ _ _ => True) (fun _ U o U' => ∃ v L, o = .returned v ∧ Q_rmcf4_8 Z a1 kb vs h0 n0 v U'.heap L ∧ FrameEnd U o U' L ({ frames := 0, cells := 0, slots := 0, locals := 0 } : Room).cells ({ frames := 0, cells := 0, slots := 0, locals := 0 } : Room).slots) := by
  refine MetFree.of_bodySF (plainFor_of_name pn_rmgc) hisR ?_
  intro p e s m args_ below meth c s₁ Bd hml0 hP hK
  obtain ⟨hargs, hZ, hh⟩ := hP
  have hx := Bd.exec
  have hby := Bd.bytes
  have hml : c.maxLocals = 2 := hml0
  have hown : s.vm.findClass "java/lang/StringUTF16" = some m.cls := findClass_of_methodNamed Bd.named
  have hnm := (name_of_methodNamed Bd.named Bd.method).1
  have X0 : Stand p l e ({ frames := 0, cells := 0, slots := 0, locals := 0 } : Room) s m args_ below meth c s₁ [] 0 0 := Stand.of_body Bd
  have e0 : s₁.heap = h0 := by rw [← hh, Bd.state]; rfl
  have N0 := Fr.nil n0
  have hv : ∀ (i : Nat) {d : Jvm.Cond}, tables_1[i]? = some d → d.before a0 Z = true := fun i d q => hw d (List.mem_of_getElem? q)
  have k0 : Go p e below m (s₁.setTop (entryFrame m args_ 2)) s₁ 0 #[.val (.ref a1), .val (.int (4 : Int32))] [] := by rw [hargs]; exact fun t kt => castTop (ef_rmcf4_8 m a1) kt
  obtain ⟨W, hWW⟩ : ∃ W, W = s₁.setTop (entryFrame m args_ 2) := ⟨_, rfl⟩
  rw [← hWW] at k0 ⊢
  show Done p e below s W (Q_rmcf4_8 Z a1 kb vs h0 n0) ({ frames := 0, cells := 0, slots := 0, locals := 0 } : Room).cells ({ frames := 0, cells := 0, slots := 0, locals := 0 } : Room).slots
  have k20 : Go p e below m W s₁ 2 #[.val (.ref a1), .val (.int (4 : Int32))] [(.ref a1), (.int (4 : Int32))] := (k0.iloadN X0 hx (hb hby d_rmcf1_1_0) rfl).aloadN X0 hx (hb hby d_rmcf1_1_1) rfl rfl
  have k21 : Go p e below m W s₁ 8 #[.val (.ref a1), .val (.int (4 : Int32))] [(.int (1 : Int32))] := (((((((k20.arraylength X0 hx hZ e0 V1 (hb hby d_rmcf1_1_2)).isub X0 hx (hb hby d_rmcf1_1_3)).cast (y := (-4 : Int32)) (by decide)).bipush X0 hx (hb hby d_rmcf1_1_4) (v := (31 : Int32)) rfl).iushr X0 hx (hb hby d_rmcf1_1_6)).cast (y := (1 : Int32)) (by decide)).i2b X0 hx (hb hby d_rmcf1_1_7)).cast (y := (1 : Int32)) (by decide)
  exact k21.ireturnN X0 hx (t := .byte) Bd.returns (by simp) rfl (hb hby d_rmcf1_1_8) (BodyLoose.notSynchronized Bd) (by rw [e0]; exact ⟨rfl, N0, rfl⟩) (by decide) (by decide)

theorem ef_rmi4_4 (m : MethodId) (a1 : Addr) (b1 : Addr) : entryFrame m #[(.ref a1), (.ref b1), (.int (0 : Int32)), (.int (4 : Int32)), .null] 6 = mkF m 0 #[.val (.ref a1), .val (.ref b1), .val (.int (0 : Int32)), .val (.int (4 : Int32)), .val .null, .unset] [] := by first | (simp [entryFrame, mkF, argsToLocals, Value.category]; done) | rfl
def Q_rmi4_4 (Z : State) (a1 : Addr) (b1 : Addr) (k1 : ClassId) (x0 : Int32) (x1 : Int32) (x2 : Int32) (x3 : Int32) (u0 : Value) (u1 : Value) (cz : Int32) (h0 : Heap) (n0 : Nat) (v : Option Value) (h : Heap) (L : List Loc) : Prop := ∃ (ot : Addr) (ok : ClassId) (zz : Int32) (cd : Int32) (vs : List Value), v = none ∧ Fr n0 L ∧ Keep h0 h [a1] ∧ (own_Enc [x0, x1, x2, x3] zz cd vs) ∧ Exa Z h a1 "java/lang/String" ∧ Fld Z h a1 "java/lang/String" "value" "[B" (.ref ot) ∧ Fld Z h a1 "java/lang/String" "coder" "B" (.int cd) ∧ Arv Z h ot ok .byte zz vs (.int (0 : Int32))
set_option maxRecDepth 65536 in
set_option maxHeartbeats 40000000 in
theorem rmi4_4 (l : Launch) (Z : State) (a0 : Array Value) (hw : ∀ d ∈ tables_1, d.before a0 Z = true) (ws : List Jvm.Cond) (a1 : Addr) (b1 : Addr) (k1 : ClassId) (x0 : Int32) (x1 : Int32) (x2 : Int32) (x3 : Int32) (u0 : Value) (u1 : Value) (cz : Int32) (h0 : Heap) (n0 : Nat) (Z0 : n0 ≤ h0.size) (O0 : Old Z n0 h0) (SCZ : Sta Z Z.heap "java/lang/String" "COMPACT_STRINGS" "Z" (.int cz)) (hcz : ¬ (cz = (0 : Int32))) (SAD : Sta Z Z.heap "java/lang/StringUTF16" "$assertionsDisabled" "Z" (.int (1 : Int32))) (SHI : Sta Z Z.heap "java/lang/StringUTF16" "HI_BYTE_SHIFT" "I" (.int (0 : Int32))) (SLO : Sta Z Z.heap "java/lang/StringUTF16" "LO_BYTE_SHIFT" "I" (.int (8 : Int32))) (E1 : Exa Z h0 a1 "java/lang/String") (G1 : n0 ≤ a1) (F0 : Fld Z h0 a1 "java/lang/String" "value" "[B" u0) (F1 : Fld Z h0 a1 "java/lang/String" "coder" "B" u1) (V1 : Arv Z h0 b1 k1 .char (4 : Int32) [(.int x0), (.int x1), (.int x2), (.int x3)] (.int (0 : Int32))) (R0 : own_rk x0) (R1 : own_rk x1) (R2 : own_rk x2) (R3 : own_rk x3) :
    MetFree l (⟨"java/lang/String", "<init>", "([CIILjava/lang/Void;)V"⟩ : MethodName) (head1 (Jvm.Cond.code (⟨"java/lang/String", "<init>", "([CIILjava/lang/Void;)V"⟩ : MethodName) jdk_42_method_149_code 6 none :: ws) ({ frames := 4, cells := 2, slots := 12, locals := 57 } : Room)) (fun a U => a = #[(.ref a1), (.ref b1), (.int (0 : Int32)), (.int (4 : Int32)), .null] ∧ Z.Warmed39 U.vm ∧ U.heap = h0) (fun _ _ _ _ _ => True) (fun _ U o U' => ∃ v L, o = .returned v ∧ Q_rmi4_4 Z a1 b1 k1 x0 x1 x2 x3 u0 u1 cz h0 n0 v U'.heap L ∧ FrameEnd U o U' L ({ frames := 4, cells := 2, slots := 12, locals := 57 } : Room).cells ({ frames := 4, cells := 2, slots := 12, locals := 57 } : Room).slots) := by
  refine MetFree.of_bodySF (plainFor_of_name pn_rmci) hisR ?_
  intro p e s m args_ below meth c s₁ Bd hml0 hP hK
  obtain ⟨hargs, hZ, hh⟩ := hP
  have hx := Bd.exec
  have hby := Bd.bytes
  have hml : c.maxLocals = 6 := hml0
  have hown : s.vm.findClass "java/lang/String" = some m.cls := findClass_of_methodNamed Bd.named
  have hnm := (name_of_methodNamed Bd.named Bd.method).1
  have X0 : Stand p l e ({ frames := 4, cells := 2, slots := 12, locals := 57 } : Room) s m args_ below meth c s₁ [] 0 0 := Stand.of_body Bd
  have e0 : s₁.heap = h0 := by rw [← hh, Bd.state]; rfl
  have N0 := Fr.nil n0
  have hv : ∀ (i : Nat) {d : Jvm.Cond}, tables_1[i]? = some d → d.before a0 Z = true := fun i d q => hw d (List.mem_of_getElem? q)
  have K0 : Keep h0 h0 [a1] := Keep.refl _ _
  have k0 : Go p e below m (s₁.setTop (entryFrame m args_ 6)) s₁ 0 #[.val (.ref a1), .val (.ref b1), .val (.int (0 : Int32)), .val (.int (4 : Int32)), .val .null, .unset] [] := by rw [hargs]; exact fun t kt => castTop (ef_rmi4_4 m a1 b1) kt
  obtain ⟨W, hWW⟩ : ∃ W, W = s₁.setTop (entryFrame m args_ 6) := ⟨_, rfl⟩
  rw [← hWW] at k0 ⊢
  show Done p e below s W (Q_rmi4_4 Z a1 b1 k1 x0 x1 x2 x3 u0 u1 cz h0 n0) ({ frames := 4, cells := 2, slots := 12, locals := 57 } : Room).cells ({ frames := 4, cells := 2, slots := 12, locals := 57 } : Room).slots
  have k20 : Go p e below m W s₁ 1 #[.val (.ref a1), .val (.ref b1), .val (.int (0 : Int32)), .val (.int (4 : Int32)), .val .null, .unset] [(.ref a1)] := k0.aloadN X0 hx (hb hby d_rms4_0) rfl rfl
  obtain ⟨T21, X21, e21, k21⟩ := k20.initO (Wd := 0) X0 hx hZ hown (by rw [hml]; rfl) (hv 27 rfl) (hv 28 rfl) (hv 29 rfl) e0 (hb hby d_rms4_1) (Nat.le_of_eq rfl) (by decide) (by decide)
  have k21 : Go p e below m W T21 4 #[.val (.ref a1), .val (.ref b1), .val (.int (0 : Int32)), .val (.int (4 : Int32)), .val .null, .unset] [] := k21
  have k22 : Go p e below m W T21 27 #[.val (.ref a1), .val (.ref b1), .val (.int (0 : Int32)), .val (.int (4 : Int32)), .val .null, .unset] [] := (k21.iloadN X21 hx (hb hby d_rms4_4) rfl).ifYes X21 hx (hb hby d_rms4_5) (XT.i0_ne_t (by decide)) (by decide) (by decide)
  obtain ⟨T23, X23, e23, k23⟩ := k22.getS X21 hx hZ hown (host := "") (Or.inl (hv 52 rfl)) Via.refl e21 (SCZ.ext O0.2) (hb hby d_rms4_27)
  have k23 : Go p e below m W T23 30 #[.val (.ref a1), .val (.ref b1), .val (.int (0 : Int32)), .val (.int (4 : Int32)), .val .null, .unset] [(.int cz)] := k23
  have k24 : Go p e below m W T23 36 #[.val (.ref a1), .val (.ref b1), .val (.int (0 : Int32)), .val (.int (4 : Int32)), .val .null, .unset] [(.int (4 : Int32)), (.int (0 : Int32)), (.ref b1)] := (((k23.ifNo X23 hx (hb hby d_rms4_30) (XT.i0_eq_f hcz)).aloadN X23 hx (hb hby d_rms4_33) rfl rfl).iloadN X23 hx (hb hby d_rms4_34) rfl).iloadN X23 hx (hb hby d_rms4_35) rfl
  obtain ⟨T25, v25, L25, X25, Q25, k25⟩ := k24.stat (y := (⟨"java/lang/StringUTF16", "compress", "([CII)[B"⟩ : MethodName)) (Wd := 0) (cells' := 2) (slots' := 12) (argsL := [(.ref b1), (.int (0 : Int32)), (.int (4 : Int32))]) (rest := []) X23 hx hZ hown (by rw [hml]; rfl) (hv 68 rfl) (hv 69 rfl) (hv 71 rfl) (hv 70 rfl) (hb hby d_rms4_36) (by decide) (rmcw4 l Z a0 hw [] b1 k1 x0 x1 x2 x3 h0 n0 Z0 O0 SAD SHI SLO V1 R0 R1 R2 R3) e23 rfl rfl pd_rmcw1_1 rfl (Nat.le_of_eq rfl) (by decide) (by decide) rfl rfl (by decide) (by decide)
  obtain ⟨ob_25, ok_25, zz_25, vs_25, rfl, Nq25, Kq25, p25_0, q25_0, q25_1, q25_2⟩ := Q25
  have N25 := Fr.app N0 Nq25
  obtain ⟨h25, e25⟩ : ∃ h, T25.heap = h := ⟨_, rfl⟩
  rw [e25] at Kq25 q25_0
  have Z25 : n0 ≤ h25.size := Nat.le_trans Z0 Kq25.1
  have K25 : Keep h0 h25 [a1] := K0.trans Kq25 (fun x q => absurd q List.not_mem_nil)
  have H26 : h0.size ≤ ob_25 := Nat.le_trans K0.1 q25_2
  have k25 : Go p e below m W T25 39 #[.val (.ref a1), .val (.ref b1), .val (.int (0 : Int32)), .val (.int (4 : Int32)), .val .null, .unset] [(.ref ob_25)] := k25
  rcases p25_0 with ⟨hs27, hs28, hs29, hs30, q31, q32⟩ | ⟨q33, q34⟩
  ·
    subst zz_25
    subst vs_25
    have k35 : Go p e below m W T25 41 #[.val (.ref a1), .val (.ref b1), .val (.int (0 : Int32)), .val (.int (4 : Int32)), .val .null, .val (.ref ob_25)] [] := k25.astore X25 hx (hb hby d_rms4_39) rfl rfl
    have k36 : Go p e below m W T25 45 #[.val (.ref a1), .val (.ref b1), .val (.int (0 : Int32)), .val (.int (4 : Int32)), .val .null, .val (.ref ob_25)] [(.int (4 : Int32)), (.ref ob_25), (.ref a1)] := ((k35.aloadN X25 hx (hb hby d_rms4_41) rfl rfl).aload X25 hx (hb hby d_rms4_42) rfl rfl).iloadN X25 hx (hb hby d_rms4_44) rfl
    obtain ⟨T37, v37, L37, X37, Q37, k37⟩ := k36.stat (y := (⟨"java/lang/StringUTF16", "coderFromArrayLen", "([BI)B"⟩ : MethodName)) (Wd := 1) (cells' := 2) (slots' := 12) (argsL := [(.ref ob_25), (.int (4 : Int32))]) (rest := [(.ref a1)]) X25 hx hZ hown (by rw [hml]; rfl) (hv 75 rfl) (hv 76 rfl) (hv 77 rfl) (hv 70 rfl) (hb hby d_rms4_45) (by decide) (rmcf4_4 l Z a0 hw [] ob_25 ok_25 ([(.int (x0).toInt8.toInt32), (.int (x1).toInt8.toInt32), (.int (x2).toInt8.toInt32), (.int (x3).toInt8.toInt32)]) h25 n0 Z25 q25_0) e25 rfl rfl pd_rmi4_1_1 rfl (Nat.le_of_eq rfl) (by decide) (by decide) rfl rfl (by decide) (by decide)
    obtain ⟨rfl, Nq37, e37q⟩ := Q37
    have N37 := Fr.app N25 Nq37
    have e37 : T37.heap = h25 := e37q
    have k37 : Go p e below m W T37 48 #[.val (.ref a1), .val (.ref b1), .val (.int (0 : Int32)), .val (.int (4 : Int32)), .val .null, .val (.ref ob_25)] [(.int (0 : Int32)), (.ref a1)] := k37
    have g_1 := F1.keep Kq25 (List.not_mem_nil)
    have g_2 := E1.keep Kq25
    obtain ⟨T38, h38, l38, X38, e38, W38, N38, k38⟩ := k37.putF X37 hx hZ hown (host := "") (Or.inl (hv 37 rfl)) Via.refl e37 g_1 g_2 (Or.inr ⟨(hv 33 rfl), rfl, hnm⟩) (hv 18 rfl) (ty := .byte) (by decide) rfl rfl N37 G1 (hb hby d_rms4_48)
    have k38 : Go p e below m W T38 51 #[.val (.ref a1), .val (.ref b1), .val (.int (0 : Int32)), .val (.int (4 : Int32)), .val .null, .val (.ref ob_25)] [] := k38
    have Z38 : n0 ≤ h38.size := (Wr.size W38).symm ▸ Z25
    have K38 : Keep h0 h38 [a1] := K25.wr W38 (Or.inl (List.mem_of_getElem? (i := 0) rfl))
    have k39 : Go p e below m W T38 54 #[.val (.ref a1), .val (.ref b1), .val (.int (0 : Int32)), .val (.int (4 : Int32)), .val .null, .val (.ref ob_25)] [(.ref ob_25), (.ref a1)] := (k38.aloadN X38 hx (hb hby d_rms4_51) rfl rfl).aload X38 hx (hb hby d_rms4_52) rfl rfl
    have g_3 := (F0.keep Kq25 (List.not_mem_nil)).other W38 (Or.inr (slot_ne (Or.inr (hv 32 rfl)) (Or.inr (hv 33 rfl)) (by decide) (by decide : parseFieldDescriptor "[B" = some (.array .byte)) (by decide : parseFieldDescriptor "B" = some .byte)))
    have g_4 := g_2.wr W38
    obtain ⟨T40, h40, l40, X40, e40, W40, N40, k40⟩ := k39.putF X38 hx hZ hown (host := "") (Or.inl (hv 36 rfl)) Via.refl e38 g_3 g_4 (Or.inr ⟨(hv 32 rfl), rfl, hnm⟩) (hv 18 rfl) (ty := (.array .byte)) (by decide) rfl rfl N38 G1 (hb hby d_rms4_54)
    have k40 : Go p e below m W T40 57 #[.val (.ref a1), .val (.ref b1), .val (.int (0 : Int32)), .val (.int (4 : Int32)), .val .null, .val (.ref ob_25)] [] := k40
    have Z40 : n0 ≤ h40.size := (Wr.size W40).symm ▸ Z38
    have K40 : Keep h0 h40 [a1] := K38.wr W40 (Or.inl (List.mem_of_getElem? (i := 0) rfl))
    have g_5 := g_4.wr W40
    have g_6 := g_3.same W40
    have g_7 := (g_1.same W38).other W40 (Or.inr (slot_ne (Or.inr (hv 33 rfl)) (Or.inr (hv 32 rfl)) (by decide) (by decide : parseFieldDescriptor "B" = some .byte) (by decide : parseFieldDescriptor "[B" = some (.array .byte))))
    have g_8 := (show a1 ≠ ob_25 from Nat.ne_of_lt (Nat.lt_of_lt_of_le E1.lt q25_2))
    have g_9 := (q25_0.other W38 (Ne.symm g_8)).other W40 (Ne.symm g_8)
    exact k40.return_ X40 hx Bd.returns (hb hby d_rms4_57) (BodyLoose.notSynchronized Bd) (by rw [e40]; exact ⟨ob_25, ok_25, (4 : Int32), (0 : Int32), [(.int (x0).toInt8.toInt32), (.int (x1).toInt8.toInt32), (.int (x2).toInt8.toInt32), (.int (x3).toInt8.toInt32)], rfl, N40, K40, (Or.inl ⟨rfl, rfl, rfl, (own_N1 hs27 (own_N1 hs28 (own_N1 hs29 (own_N1 hs30 own_N0))))⟩), g_5, g_6, g_7, g_9⟩) (by decide) (by decide)
  ·
    subst zz_25
    subst vs_25
    have k41 : Go p e below m W T25 41 #[.val (.ref a1), .val (.ref b1), .val (.int (0 : Int32)), .val (.int (4 : Int32)), .val .null, .val (.ref ob_25)] [] := k25.astore X25 hx (hb hby d_rms4_39) rfl rfl
    have k42 : Go p e below m W T25 45 #[.val (.ref a1), .val (.ref b1), .val (.int (0 : Int32)), .val (.int (4 : Int32)), .val .null, .val (.ref ob_25)] [(.int (4 : Int32)), (.ref ob_25), (.ref a1)] := ((k41.aloadN X25 hx (hb hby d_rms4_41) rfl rfl).aload X25 hx (hb hby d_rms4_42) rfl rfl).iloadN X25 hx (hb hby d_rms4_44) rfl
    obtain ⟨T43, v43, L43, X43, Q43, k43⟩ := k42.stat (y := (⟨"java/lang/StringUTF16", "coderFromArrayLen", "([BI)B"⟩ : MethodName)) (Wd := 1) (cells' := 2) (slots' := 12) (argsL := [(.ref ob_25), (.int (4 : Int32))]) (rest := [(.ref a1)]) X25 hx hZ hown (by rw [hml]; rfl) (hv 75 rfl) (hv 76 rfl) (hv 77 rfl) (hv 70 rfl) (hb hby d_rms4_45) (by decide) (rmcf4_8 l Z a0 hw [] ob_25 ok_25 ([(.int (own_b0 x0)), (.int (own_b1 x0)), (.int (own_b0 x1)), (.int (own_b1 x1)), (.int (own_b0 x2)), (.int (own_b1 x2)), (.int (own_b0 x3)), (.int (own_b1 x3))]) h25 n0 Z25 q25_0) e25 rfl rfl pd_rmi4_1_1 rfl (Nat.le_of_eq rfl) (by decide) (by decide) rfl rfl (by decide) (by decide)
    obtain ⟨rfl, Nq43, e43q⟩ := Q43
    have N43 := Fr.app N25 Nq43
    have e43 : T43.heap = h25 := e43q
    have k43 : Go p e below m W T43 48 #[.val (.ref a1), .val (.ref b1), .val (.int (0 : Int32)), .val (.int (4 : Int32)), .val .null, .val (.ref ob_25)] [(.int (1 : Int32)), (.ref a1)] := k43
    have g_10 := F1.keep Kq25 (List.not_mem_nil)
    have g_11 := E1.keep Kq25
    obtain ⟨T44, h44, l44, X44, e44, W44, N44, k44⟩ := k43.putF X43 hx hZ hown (host := "") (Or.inl (hv 37 rfl)) Via.refl e43 g_10 g_11 (Or.inr ⟨(hv 33 rfl), rfl, hnm⟩) (hv 18 rfl) (ty := .byte) (by decide) rfl rfl N43 G1 (hb hby d_rms4_48)
    have k44 : Go p e below m W T44 51 #[.val (.ref a1), .val (.ref b1), .val (.int (0 : Int32)), .val (.int (4 : Int32)), .val .null, .val (.ref ob_25)] [] := k44
    have Z44 : n0 ≤ h44.size := (Wr.size W44).symm ▸ Z25
    have K44 : Keep h0 h44 [a1] := K25.wr W44 (Or.inl (List.mem_of_getElem? (i := 0) rfl))
    have k45 : Go p e below m W T44 54 #[.val (.ref a1), .val (.ref b1), .val (.int (0 : Int32)), .val (.int (4 : Int32)), .val .null, .val (.ref ob_25)] [(.ref ob_25), (.ref a1)] := (k44.aloadN X44 hx (hb hby d_rms4_51) rfl rfl).aload X44 hx (hb hby d_rms4_52) rfl rfl
    have g_12 := (F0.keep Kq25 (List.not_mem_nil)).other W44 (Or.inr (slot_ne (Or.inr (hv 32 rfl)) (Or.inr (hv 33 rfl)) (by decide) (by decide : parseFieldDescriptor "[B" = some (.array .byte)) (by decide : parseFieldDescriptor "B" = some .byte)))
    have g_13 := g_11.wr W44
    obtain ⟨T46, h46, l46, X46, e46, W46, N46, k46⟩ := k45.putF X44 hx hZ hown (host := "") (Or.inl (hv 36 rfl)) Via.refl e44 g_12 g_13 (Or.inr ⟨(hv 32 rfl), rfl, hnm⟩) (hv 18 rfl) (ty := (.array .byte)) (by decide) rfl rfl N44 G1 (hb hby d_rms4_54)
    have k46 : Go p e below m W T46 57 #[.val (.ref a1), .val (.ref b1), .val (.int (0 : Int32)), .val (.int (4 : Int32)), .val .null, .val (.ref ob_25)] [] := k46
    have Z46 : n0 ≤ h46.size := (Wr.size W46).symm ▸ Z44
    have K46 : Keep h0 h46 [a1] := K44.wr W46 (Or.inl (List.mem_of_getElem? (i := 0) rfl))
    have g_14 := g_13.wr W46
    have g_15 := g_12.same W46
    have g_16 := (g_10.same W44).other W46 (Or.inr (slot_ne (Or.inr (hv 33 rfl)) (Or.inr (hv 32 rfl)) (by decide) (by decide : parseFieldDescriptor "B" = some .byte) (by decide : parseFieldDescriptor "[B" = some (.array .byte))))
    have g_17 := (show a1 ≠ ob_25 from Nat.ne_of_lt (Nat.lt_of_lt_of_le E1.lt q25_2))
    have g_18 := (q25_0.other W44 (Ne.symm g_17)).other W46 (Ne.symm g_17)
    exact k46.return_ X46 hx Bd.returns (hb hby d_rms4_57) (BodyLoose.notSynchronized Bd) (by rw [e46]; exact ⟨ob_25, ok_25, (8 : Int32), (1 : Int32), [(.int (own_b0 x0)), (.int (own_b1 x0)), (.int (own_b0 x1)), (.int (own_b1 x1)), (.int (own_b0 x2)), (.int (own_b1 x2)), (.int (own_b0 x3)), (.int (own_b1 x3))], rfl, N46, K46, (Or.inr ⟨rfl, rfl, rfl⟩), g_14, g_15, g_16, g_18⟩) (by decide) (by decide)

theorem ef_rmi1_4 (m : MethodId) (a1 : Addr) (b1 : Addr) : entryFrame m #[(.ref a1), (.ref b1)] 2 = mkF m 0 #[.val (.ref a1), .val (.ref b1)] [] := by first | (simp [entryFrame, mkF, argsToLocals, Value.category]; done) | rfl
def Q_rmi1_4 (Z : State) (a1 : Addr) (b1 : Addr) (k1 : ClassId) (x0 : Int32) (x1 : Int32) (x2 : Int32) (x3 : Int32) (u0 : Value) (u1 : Value) (cz : Int32) (h0 : Heap) (n0 : Nat) (v : Option Value) (h : Heap) (L : List Loc) : Prop := ∃ (ot : Addr) (ok : ClassId) (zz : Int32) (cd : Int32) (vs : List Value), v = none ∧ Fr n0 L ∧ Keep h0 h [a1] ∧ (own_Enc [x0, x1, x2, x3] zz cd vs) ∧ Exa Z h a1 "java/lang/String" ∧ Fld Z h a1 "java/lang/String" "value" "[B" (.ref ot) ∧ Fld Z h a1 "java/lang/String" "coder" "B" (.int cd) ∧ Arv Z h ot ok .byte zz vs (.int (0 : Int32))
set_option maxRecDepth 65536 in
set_option maxHeartbeats 40000000 in
theorem rmi1_4 (l : Launch) (Z : State) (a0 : Array Value) (hw : ∀ d ∈ tables_1, d.before a0 Z = true) (ws : List Jvm.Cond) (a1 : Addr) (b1 : Addr) (k1 : ClassId) (x0 : Int32) (x1 : Int32) (x2 : Int32) (x3 : Int32) (u0 : Value) (u1 : Value) (cz : Int32) (h0 : Heap) (n0 : Nat) (Z0 : n0 ≤ h0.size) (O0 : Old Z n0 h0) (SCZ : Sta Z Z.heap "java/lang/String" "COMPACT_STRINGS" "Z" (.int cz)) (hcz : ¬ (cz = (0 : Int32))) (SAD : Sta Z Z.heap "java/lang/StringUTF16" "$assertionsDisabled" "Z" (.int (1 : Int32))) (SHI : Sta Z Z.heap "java/lang/StringUTF16" "HI_BYTE_SHIFT" "I" (.int (0 : Int32))) (SLO : Sta Z Z.heap "java/lang/StringUTF16" "LO_BYTE_SHIFT" "I" (.int (8 : Int32))) (E1 : Exa Z h0 a1 "java/lang/String") (G1 : n0 ≤ a1) (F0 : Fld Z h0 a1 "java/lang/String" "value" "[B" u0) (F1 : Fld Z h0 a1 "java/lang/String" "coder" "B" u1) (V1 : Arv Z h0 b1 k1 .char (4 : Int32) [(.int x0), (.int x1), (.int x2), (.int x3)] (.int (0 : Int32))) (R0 : own_rk x0) (R1 : own_rk x1) (R2 : own_rk x2) (R3 : own_rk x3) :
    MetFree l (⟨"java/lang/String", "<init>", "([C)V"⟩ : MethodName) (head1 (Jvm.Cond.code (⟨"java/lang/String", "<init>", "([C)V"⟩ : MethodName) jdk_42_method_3_code 2 none :: ws) ({ frames := 5, cells := 2, slots := 12, locals := 74 } : Room)) (fun a U => a = #[(.ref a1), (.ref b1)] ∧ Z.Warmed39 U.vm ∧ U.heap = h0) (fun _ _ _ _ _ => True) (fun _ U o U' => ∃ v L, o = .returned v ∧ Q_rmi1_4 Z a1 b1 k1 x0 x1 x2 x3 u0 u1 cz h0 n0 v U'.heap L ∧ FrameEnd U o U' L ({ frames := 5, cells := 2, slots := 12, locals := 74 } : Room).cells ({ frames := 5, cells := 2, slots := 12, locals := 74 } : Room).slots) := by
  refine MetFree.of_bodySF (plainFor_of_name pn_rmci) hisR ?_
  intro p e s m args_ below meth c s₁ Bd hml0 hP hK
  obtain ⟨hargs, hZ, hh⟩ := hP
  have hx := Bd.exec
  have hby := Bd.bytes
  have hml : c.maxLocals = 2 := hml0
  have hown : s.vm.findClass "java/lang/String" = some m.cls := findClass_of_methodNamed Bd.named
  have hnm := (name_of_methodNamed Bd.named Bd.method).1
  have X0 : Stand p l e ({ frames := 5, cells := 2, slots := 12, locals := 74 } : Room) s m args_ below meth c s₁ [] 0 0 := Stand.of_body Bd
  have e0 : s₁.heap = h0 := by rw [← hh, Bd.state]; rfl
  have N0 := Fr.nil n0
  have hv : ∀ (i : Nat) {d : Jvm.Cond}, tables_1[i]? = some d → d.before a0 Z = true := fun i d q => hw d (List.mem_of_getElem? q)
  have K0 : Keep h0 h0 [a1] := Keep.refl _ _
  have k0 : Go p e below m (s₁.setTop (entryFrame m args_ 2)) s₁ 0 #[.val (.ref a1), .val (.ref b1)] [] := by rw [hargs]; exact fun t kt => castTop (ef_rmi1_4 m a1 b1) kt
  obtain ⟨W, hWW⟩ : ∃ W, W = s₁.setTop (entryFrame m args_ 2) := ⟨_, rfl⟩
  rw [← hWW] at k0 ⊢
  show Done p e below s W (Q_rmi1_4 Z a1 b1 k1 x0 x1 x2 x3 u0 u1 cz h0 n0) ({ frames := 5, cells := 2, slots := 12, locals := 74 } : Room).cells ({ frames := 5, cells := 2, slots := 12, locals := 74 } : Room).slots
  have k20 : Go p e below m W s₁ 4 #[.val (.ref a1), .val (.ref b1)] [(.ref b1), (.int (0 : Int32)), (.ref b1), (.ref a1)] := (((k0.aloadN X0 hx (hb hby d_rms1_0) rfl rfl).aloadN X0 hx (hb hby d_rms1_1) rfl rfl).iconst X0 hx (hb hby d_rms1_2) (v := (0 : Int32)) rfl).aloadN X0 hx (hb hby d_rms1_3) rfl rfl
  have k21 : Go p e below m W s₁ 6 #[.val (.ref a1), .val (.ref b1)] [.null, (.int (4 : Int32)), (.int (0 : Int32)), (.ref b1), (.ref a1)] := (k20.arraylength X0 hx hZ e0 V1 (hb hby d_rms1_4)).aconstNull X0 hx (hb hby d_rms1_5)
  obtain ⟨T22, v22, L22, X22, Q22, k22⟩ := k21.spec (y := (⟨"java/lang/String", "<init>", "([CIILjava/lang/Void;)V"⟩ : MethodName)) (b := a1) (Wd := 0) (cells' := 2) (slots' := 12) (argsL := [(.ref b1), (.int (0 : Int32)), (.int (4 : Int32)), .null]) (rest := []) X0 hx hZ hown (by rw [hml]; rfl) rfl (hv 23 rfl) (hv 24 rfl) (hv 26 rfl) (hv 19 rfl) (hb hby d_rms1_6) (by decide) (rmi4_4 l Z a0 hw [] a1 b1 k1 x0 x1 x2 x3 u0 u1 cz h0 n0 Z0 O0 SCZ hcz SAD SHI SLO E1 G1 F0 F1 V1 R0 R1 R2 R3) e0 rfl rfl pd_rms1_0 rfl (Nat.le_of_eq rfl) (by decide) (by decide) rfl rfl (by decide) (by decide)
  obtain ⟨ot_22, ok_22, zz_22, cd_22, vs_22, rfl, Nq22, Kq22, p22_0, q22_0, q22_1, q22_2, q22_3⟩ := Q22
  have N22 := Fr.app N0 Nq22
  obtain ⟨h22, e22⟩ : ∃ h, T22.heap = h := ⟨_, rfl⟩
  rw [e22] at Kq22 q22_0 q22_1 q22_2 q22_3
  have Z22 : n0 ≤ h22.size := Nat.le_trans Z0 Kq22.1
  have K22 : Keep h0 h22 [a1] := K0.trans Kq22 (by intro x q; simp only [List.mem_cons, List.not_mem_nil, or_false] at q; rcases q with rfl; exact (Or.inl (List.mem_of_getElem? (i := 0) rfl)))
  have k22 : Go p e below m W T22 9 #[.val (.ref a1), .val (.ref b1)] [] := k22
  exact k22.return_ X22 hx Bd.returns (hb hby d_rms1_9) (BodyLoose.notSynchronized Bd) (by rw [e22]; exact ⟨ot_22, ok_22, zz_22, cd_22, vs_22, rfl, N22, K22, p22_0, q22_0, q22_1, q22_2, q22_3⟩) (by decide) (by decide)

theorem d_rmmk0_99 : decode method_5_code 99 = .ok (.new 14, 3) := by decide +kernel
theorem d_rmmk0_102 : decode method_5_code 102 = .ok (.dup, 1) := by decide +kernel
theorem d_rmmk0_103 : decode method_5_code 103 = .ok (.iconst 4, 1) := by decide +kernel
theorem d_rmmk0_104 : decode method_5_code 104 = .ok (.newarray .char, 2) := by decide +kernel
theorem d_rmmk0_106 : decode method_5_code 106 = .ok (.dup, 1) := by decide +kernel
theorem d_rmmk0_107 : decode method_5_code 107 = .ok (.iconst 0, 1) := by decide +kernel
theorem d_rmmk0_108 : decode method_5_code 108 = .ok (.aload_n 0, 1) := by decide +kernel
theorem d_rmmk0_109 : decode method_5_code 109 = .ok (.iconst 0, 1) := by decide +kernel
theorem d_rmmk0_110 : decode method_5_code 110 = .ok (.caload, 1) := by decide +kernel
theorem d_rmmk0_111 : decode method_5_code 111 = .ok (.castore, 1) := by decide +kernel
theorem d_rmmk0_112 : decode method_5_code 112 = .ok (.dup, 1) := by decide +kernel
theorem d_rmmk0_113 : decode method_5_code 113 = .ok (.iconst 1, 1) := by decide +kernel
theorem d_rmmk0_114 : decode method_5_code 114 = .ok (.aload_n 0, 1) := by decide +kernel
theorem d_rmmk0_115 : decode method_5_code 115 = .ok (.iconst 1, 1) := by decide +kernel
theorem d_rmmk0_116 : decode method_5_code 116 = .ok (.caload, 1) := by decide +kernel
theorem d_rmmk0_117 : decode method_5_code 117 = .ok (.castore, 1) := by decide +kernel
theorem d_rmmk0_118 : decode method_5_code 118 = .ok (.dup, 1) := by decide +kernel
theorem d_rmmk0_119 : decode method_5_code 119 = .ok (.iconst 2, 1) := by decide +kernel
theorem d_rmmk0_120 : decode method_5_code 120 = .ok (.aload_n 0, 1) := by decide +kernel
theorem d_rmmk0_121 : decode method_5_code 121 = .ok (.iconst 2, 1) := by decide +kernel
theorem d_rmmk0_122 : decode method_5_code 122 = .ok (.caload, 1) := by decide +kernel
theorem d_rmmk0_123 : decode method_5_code 123 = .ok (.castore, 1) := by decide +kernel
theorem d_rmmk0_124 : decode method_5_code 124 = .ok (.dup, 1) := by decide +kernel
theorem d_rmmk0_125 : decode method_5_code 125 = .ok (.iconst 3, 1) := by decide +kernel
theorem d_rmmk0_126 : decode method_5_code 126 = .ok (.aload_n 0, 1) := by decide +kernel
theorem d_rmmk0_127 : decode method_5_code 127 = .ok (.iconst 3, 1) := by decide +kernel
theorem d_rmmk0_128 : decode method_5_code 128 = .ok (.caload, 1) := by decide +kernel
theorem d_rmmk0_129 : decode method_5_code 129 = .ok (.castore, 1) := by decide +kernel
theorem d_rmmk0_130 : decode method_5_code 130 = .ok (.invokespecial 16, 3) := by decide +kernel
theorem d_rmmk0_133 : decode method_5_code 133 = .ok (.areturn, 1) := by decide +kernel
theorem ef_rmmk4 (m : MethodId) (b1 : Addr) : entryFrame m #[(.ref b1), (.int (4 : Int32))] 2 = mkF m 0 #[.val (.ref b1), .val (.int (4 : Int32))] [] := by first | (simp [entryFrame, mkF, argsToLocals, Value.category]; done) | rfl
def Q_rmmk4 (Z : State) (b1 : Addr) (k1 : ClassId) (x0 : Int32) (x1 : Int32) (x2 : Int32) (x3 : Int32) (cz : Int32) (h0 : Heap) (n0 : Nat) (v : Option Value) (h : Heap) (L : List Loc) : Prop := ∃ (ro : Addr), v = some (.ref ro) ∧ Fr n0 L ∧ Keep h0 h [] ∧ Exa Z h ro "java/lang/String" ∧ own_Str Z h ro [x0, x1, x2, x3] ∧ n0 ≤ ro ∧ h0.size ≤ ro
set_option maxRecDepth 65536 in
set_option maxHeartbeats 40000000 in
theorem rmmk4 (l : Launch) (Z : State) (a0 : Array Value) (hw : ∀ d ∈ tables_1, d.before a0 Z = true) (ws : List Jvm.Cond) (b1 : Addr) (k1 : ClassId) (x0 : Int32) (x1 : Int32) (x2 : Int32) (x3 : Int32) (cz : Int32) (h0 : Heap) (n0 : Nat) (Z0 : n0 ≤ h0.size) (O0 : Old Z n0 h0) (SCZ : Sta Z Z.heap "java/lang/String" "COMPACT_STRINGS" "Z" (.int cz)) (hcz : ¬ (cz = (0 : Int32))) (SAD : Sta Z Z.heap "java/lang/StringUTF16" "$assertionsDisabled" "Z" (.int (1 : Int32))) (SHI : Sta Z Z.heap "java/lang/StringUTF16" "HI_BYTE_SHIFT" "I" (.int (0 : Int32))) (SLO : Sta Z Z.heap "java/lang/StringUTF16" "LO_BYTE_SHIFT" "I" (.int (8 : Int32))) (V1 : Arv Z h0 b1 k1 .char (4 : Int32) [(.int x0), (.int x1), (.int x2), (.int x3)] (.int (0 : Int32))) (R0 : own_rk x0) (R1 : own_rk x1) (R2 : own_rk x2) (R3 : own_rk x3) :
    MetFree l (⟨"com/example/promovent/promovent/library/CodePointsComparePinLaw", "make", "([CI)Ljava/lang/String;"⟩ : MethodName) (head1 (Jvm.Cond.code (⟨"com/example/promovent/promovent/library/CodePointsComparePinLaw", "make", "([CI)Ljava/lang/String;"⟩ : MethodName) method_5_code 2 (some (.object "java/lang/String")) :: ws) ({ frames := 6, cells := 4, slots := 20, locals := 88 } : Room)) (fun a U => a = #[(.ref b1), (.int (4 : Int32))] ∧ Z.Warmed39 U.vm ∧ U.heap = h0) (fun _ _ _ _ _ => True) (fun _ U o U' => ∃ v L, o = .returned v ∧ Q_rmmk4 Z b1 k1 x0 x1 x2 x3 cz h0 n0 v U'.heap L ∧ FrameEnd U o U' L ({ frames := 6, cells := 4, slots := 20, locals := 88 } : Room).cells ({ frames := 6, cells := 4, slots := 20, locals := 88 } : Room).slots) := by
  refine MetFree.of_bodySF (plainFor_of_name pn_rmraw) hisR ?_
  intro p e s m args_ below meth c s₁ Bd hml0 hP hK
  obtain ⟨hargs, hZ, hh⟩ := hP
  have hx := Bd.exec
  have hby := Bd.bytes
  have hml : c.maxLocals = 2 := hml0
  have hown : s.vm.findClass "com/example/promovent/promovent/library/CodePointsComparePinLaw" = some m.cls := findClass_of_methodNamed Bd.named
  have hnm := (name_of_methodNamed Bd.named Bd.method).1
  have X0 : Stand p l e ({ frames := 6, cells := 4, slots := 20, locals := 88 } : Room) s m args_ below meth c s₁ [] 0 0 := Stand.of_body Bd
  have e0 : s₁.heap = h0 := by rw [← hh, Bd.state]; rfl
  have N0 := Fr.nil n0
  have hv : ∀ (i : Nat) {d : Jvm.Cond}, tables_1[i]? = some d → d.before a0 Z = true := fun i d q => hw d (List.mem_of_getElem? q)
  have K0 : Keep h0 h0 [] := Keep.refl _ _
  have k0 : Go p e below m (s₁.setTop (entryFrame m args_ 2)) s₁ 0 #[.val (.ref b1), .val (.int (4 : Int32))] [] := by rw [hargs]; exact fun t kt => castTop (ef_rmmk4 m b1) kt
  obtain ⟨W, hWW⟩ : ∃ W, W = s₁.setTop (entryFrame m args_ 2) := ⟨_, rfl⟩
  rw [← hWW] at k0 ⊢
  show Done p e below s W (Q_rmmk4 Z b1 k1 x0 x1 x2 x3 cz h0 n0) ({ frames := 6, cells := 4, slots := 20, locals := 88 } : Room).cells ({ frames := 6, cells := 4, slots := 20, locals := 88 } : Room).slots
  have k20 : Go p e below m W s₁ 67 #[.val (.ref b1), .val (.int (4 : Int32))] [(.int (3 : Int32)), (.int (4 : Int32))] := (((((((((k0.iloadN X0 hx (hb hby d_rmmk0_0) rfl).ifYes X0 hx (hb hby d_rmmk0_1) (XT.i0_ne_t (by decide)) (by decide) (by decide)).iloadN X0 hx (hb hby d_rmmk0_15) rfl).iconst X0 hx (hb hby d_rmmk0_16) (v := (1 : Int32)) rfl).icmpYes X0 hx (hb hby d_rmmk0_17) (XT.ii_ne_t (by decide)) (by decide) (by decide)).iloadN X0 hx (hb hby d_rmmk0_37) rfl).iconst X0 hx (hb hby d_rmmk0_38) (v := (2 : Int32)) rfl).icmpYes X0 hx (hb hby d_rmmk0_39) (XT.ii_ne_t (by decide)) (by decide) (by decide)).iloadN X0 hx (hb hby d_rmmk0_65) rfl).iconst X0 hx (hb hby d_rmmk0_66) (v := (3 : Int32)) rfl
  have k21 : Go p e below m W s₁ 99 #[.val (.ref b1), .val (.int (4 : Int32))] [] := k20.icmpYes X0 hx (hb hby d_rmmk0_67) (XT.ii_ne_t (by decide)) (by decide) (by decide)
  obtain ⟨T22, h22, b22, X22, e22, g22, E22, A22, D22, k22⟩ := k21.newO (cells' := 1) (slots' := 4) X0 hx hZ hown (hv 17 rfl) (hv 18 rfl) (hv 19 rfl) e0 (hb hby d_rmmk0_99) rfl rfl (by decide) (by decide)
  have k22 : Go p e below m W T22 102 #[.val (.ref b1), .val (.int (4 : Int32))] [(.ref b22)] := k22
  have Z22 : n0 ≤ h22.size := Nat.le_trans Z0 E22.1
  have G22 : n0 ≤ b22 := g22 ▸ Z0
  have H22 : h0.size ≤ b22 := g22 ▸ K0.1
  have K22 : Keep h0 h22 [] := K0.ext E22
  have f23 : Fld Z h22 b22 "java/lang/String" "value" "[B" .null := D22 (Or.inr (hv 32 rfl)) (ty := (.array .byte)) (by decide)
  have f24 : Fld Z h22 b22 "java/lang/String" "coder" "B" (.int (0 : Int32)) := D22 (Or.inr (hv 33 rfl)) (ty := .byte) (by decide)
  have k25 : Go p e below m W T22 104 #[.val (.ref b1), .val (.int (4 : Int32))] [(.int (4 : Int32)), (.ref b22), (.ref b22)] := (k22.dup X22 hx (hb hby d_rmmk0_102) rfl).iconst X22 hx (hb hby d_rmmk0_103) (v := (4 : Int32)) rfl
  obtain ⟨T26, h26, b26, c26, X26, e26, g26, E26, A26, k26⟩ := k25.newP (cap := 4) (cells' := 2) (slots' := 8) X22 hx hZ (hv 13 rfl) e22 (hb hby d_rmmk0_104) (by decide) (by decide) (by decide) rfl rfl (by decide) (by decide)
  have k26 : Go p e below m W T26 106 #[.val (.ref b1), .val (.int (4 : Int32))] [(.ref b26), (.ref b22), (.ref b22)] := k26
  have Z26 : n0 ≤ h26.size := Nat.le_trans Z22 E26.1
  have G26 : n0 ≤ b26 := g26 ▸ Z22
  have H26 : h0.size ≤ b26 := g26 ▸ K22.1
  have K26 : Keep h0 h26 [] := K22.ext E26
  have V26 : Arv Z h26 b26 c26 .char (4 : Int32) [(.int (0 : Int32)), (.int (0 : Int32)), (.int (0 : Int32)), (.int (0 : Int32))] (.int (0 : Int32)) := A26 4
  have k27 : Go p e below m W T26 110 #[.val (.ref b1), .val (.int (4 : Int32))] [(.int (0 : Int32)), (.ref b1), (.int (0 : Int32)), (.ref b26), (.ref b26), (.ref b22), (.ref b22)] := (((k26.dup X26 hx (hb hby d_rmmk0_106) rfl).iconst X26 hx (hb hby d_rmmk0_107) (v := (0 : Int32)) rfl).aloadN X26 hx (hb hby d_rmmk0_108) rfl rfl).iconst X26 hx (hb hby d_rmmk0_109) (v := (0 : Int32)) rfl
  have g_1 := (V1.ext E22).ext E26
  have k28 : Go p e below m W T26 111 #[.val (.ref b1), .val (.int (4 : Int32))] [(.int x0), (.int (0 : Int32)), (.ref b26), (.ref b26), (.ref b22), (.ref b22)] := k27.caload (i := 0) (n := 4) X26 hx hZ e26 g_1 rfl rfl (by decide) (by decide) rfl (hb hby d_rmmk0_110)
  obtain ⟨T29, h29, l29, X29, e29, W29, V29, N29, k29⟩ := k28.castore (i := 0) X26 hx hZ e26 V26 rfl rfl (by decide) (Nat.le_of_ble_eq_true rfl) N0 G26 (hb hby d_rmmk0_111)
  have k29 : Go p e below m W T29 112 #[.val (.ref b1), .val (.int (4 : Int32))] [(.ref b26), (.ref b22), (.ref b22)] := k29
  have Z29 : n0 ≤ h29.size := (Wr.size W29).symm ▸ Z26
  rw [own_narr R0] at V29
  have V29 : Arv Z h29 b26 c26 .char (4 : Int32) [(.int x0), (.int (0 : Int32)), (.int (0 : Int32)), (.int (0 : Int32))] (.int (0 : Int32)) := V29
  have K29 : Keep h0 h29 [] := K26.wr W29 (Or.inr H26)
  have k30 : Go p e below m W T29 116 #[.val (.ref b1), .val (.int (4 : Int32))] [(.int (1 : Int32)), (.ref b1), (.int (1 : Int32)), (.ref b26), (.ref b26), (.ref b22), (.ref b22)] := (((k29.dup X29 hx (hb hby d_rmmk0_112) rfl).iconst X29 hx (hb hby d_rmmk0_113) (v := (1 : Int32)) rfl).aloadN X29 hx (hb hby d_rmmk0_114) rfl rfl).iconst X29 hx (hb hby d_rmmk0_115) (v := (1 : Int32)) rfl
  have g_2 := V1.ext E22
  have g_3 := (show b1 ≠ b26 from Nat.ne_of_lt (g26 ▸ g_2.lt))
  have g_4 := g_1.other W29 g_3
  have k31 : Go p e below m W T29 117 #[.val (.ref b1), .val (.int (4 : Int32))] [(.int x1), (.int (1 : Int32)), (.ref b26), (.ref b26), (.ref b22), (.ref b22)] := k30.caload (i := 1) (n := 4) X29 hx hZ e29 g_4 rfl rfl (by decide) (by decide) rfl (hb hby d_rmmk0_116)
  obtain ⟨T32, h32, l32, X32, e32, W32, V32, N32, k32⟩ := k31.castore (i := 1) X29 hx hZ e29 V29 rfl rfl (by decide) (Nat.le_of_ble_eq_true rfl) N29 G26 (hb hby d_rmmk0_117)
  have k32 : Go p e below m W T32 118 #[.val (.ref b1), .val (.int (4 : Int32))] [(.ref b26), (.ref b22), (.ref b22)] := k32
  have Z32 : n0 ≤ h32.size := (Wr.size W32).symm ▸ Z29
  rw [own_narr R1] at V32
  have V32 : Arv Z h32 b26 c26 .char (4 : Int32) [(.int x0), (.int x1), (.int (0 : Int32)), (.int (0 : Int32))] (.int (0 : Int32)) := V32
  have K32 : Keep h0 h32 [] := K29.wr W32 (Or.inr H26)
  have k33 : Go p e below m W T32 122 #[.val (.ref b1), .val (.int (4 : Int32))] [(.int (2 : Int32)), (.ref b1), (.int (2 : Int32)), (.ref b26), (.ref b26), (.ref b22), (.ref b22)] := (((k32.dup X32 hx (hb hby d_rmmk0_118) rfl).iconst X32 hx (hb hby d_rmmk0_119) (v := (2 : Int32)) rfl).aloadN X32 hx (hb hby d_rmmk0_120) rfl rfl).iconst X32 hx (hb hby d_rmmk0_121) (v := (2 : Int32)) rfl
  have g_5 := g_4.other W32 g_3
  have k34 : Go p e below m W T32 123 #[.val (.ref b1), .val (.int (4 : Int32))] [(.int x2), (.int (2 : Int32)), (.ref b26), (.ref b26), (.ref b22), (.ref b22)] := k33.caload (i := 2) (n := 4) X32 hx hZ e32 g_5 rfl rfl (by decide) (by decide) rfl (hb hby d_rmmk0_122)
  obtain ⟨T35, h35, l35, X35, e35, W35, V35, N35, k35⟩ := k34.castore (i := 2) X32 hx hZ e32 V32 rfl rfl (by decide) (Nat.le_of_ble_eq_true rfl) N32 G26 (hb hby d_rmmk0_123)
  have k35 : Go p e below m W T35 124 #[.val (.ref b1), .val (.int (4 : Int32))] [(.ref b26), (.ref b22), (.ref b22)] := k35
  have Z35 : n0 ≤ h35.size := (Wr.size W35).symm ▸ Z32
  rw [own_narr R2] at V35
  have V35 : Arv Z h35 b26 c26 .char (4 : Int32) [(.int x0), (.int x1), (.int x2), (.int (0 : Int32))] (.int (0 : Int32)) := V35
  have K35 : Keep h0 h35 [] := K32.wr W35 (Or.inr H26)
  have k36 : Go p e below m W T35 128 #[.val (.ref b1), .val (.int (4 : Int32))] [(.int (3 : Int32)), (.ref b1), (.int (3 : Int32)), (.ref b26), (.ref b26), (.ref b22), (.ref b22)] := (((k35.dup X35 hx (hb hby d_rmmk0_124) rfl).iconst X35 hx (hb hby d_rmmk0_125) (v := (3 : Int32)) rfl).aloadN X35 hx (hb hby d_rmmk0_126) rfl rfl).iconst X35 hx (hb hby d_rmmk0_127) (v := (3 : Int32)) rfl
  have g_6 := g_5.other W35 g_3
  have k37 : Go p e below m W T35 129 #[.val (.ref b1), .val (.int (4 : Int32))] [(.int x3), (.int (3 : Int32)), (.ref b26), (.ref b26), (.ref b22), (.ref b22)] := k36.caload (i := 3) (n := 4) X35 hx hZ e35 g_6 rfl rfl (by decide) (by decide) rfl (hb hby d_rmmk0_128)
  obtain ⟨T38, h38, l38, X38, e38, W38, V38, N38, k38⟩ := k37.castore (i := 3) X35 hx hZ e35 V35 rfl rfl (by decide) (Nat.le_of_ble_eq_true rfl) N35 G26 (hb hby d_rmmk0_129)
  have k38 : Go p e below m W T38 130 #[.val (.ref b1), .val (.int (4 : Int32))] [(.ref b26), (.ref b22), (.ref b22)] := k38
  have Z38 : n0 ≤ h38.size := (Wr.size W38).symm ▸ Z35
  rw [own_narr R3] at V38
  have V38 : Arv Z h38 b26 c26 .char (4 : Int32) [(.int x0), (.int x1), (.int x2), (.int x3)] (.int (0 : Int32)) := V38
  have K38 : Keep h0 h38 [] := K35.wr W38 (Or.inr H26)
  have g_7 := (((((O0.ext E22).ext E26).wr W29 G26).wr W32 G26).wr W35 G26).wr W38 G26
  have g_8 := ((((A22.ext E26).wr W29).wr W32).wr W35).wr W38
  have g_9 := (show b22 ≠ b26 from Nat.ne_of_lt (g26 ▸ A22.lt))
  have g_10 := ((((f23.ext E26).other W29 (Or.inl g_9)).other W32 (Or.inl g_9)).other W35 (Or.inl g_9)).other W38 (Or.inl g_9)
  have g_11 := ((((f24.ext E26).other W29 (Or.inl g_9)).other W32 (Or.inl g_9)).other W35 (Or.inl g_9)).other W38 (Or.inl g_9)
  obtain ⟨T39, v39, L39, X39, Q39, k39⟩ := k38.spec (y := (⟨"java/lang/String", "<init>", "([C)V"⟩ : MethodName)) (b := b22) (Wd := 1) (cells' := 4) (slots' := 20) (argsL := [(.ref b26)]) (rest := [(.ref b22)]) X38 hx hZ hown (by rw [hml]; rfl) rfl (hv 20 rfl) (hv 21 rfl) (hv 22 rfl) (hv 19 rfl) (hb hby d_rmmk0_130) (by decide) (rmi1_4 l Z a0 hw [] b22 b26 c26 x0 x1 x2 x3 .null (.int (0 : Int32)) cz h38 n0 Z38 g_7 SCZ hcz SAD SHI SLO g_8 G22 g_10 g_11 V38 R0 R1 R2 R3) e38 rfl rfl pd_rmmk0_0 rfl (Nat.le_of_eq rfl) (by decide) (by decide) rfl rfl (by decide) (by decide)
  obtain ⟨ot_39, ok_39, zz_39, cd_39, vs_39, rfl, Nq39, Kq39, p39_0, q39_0, q39_1, q39_2, q39_3⟩ := Q39
  have N39 := Fr.app N38 Nq39
  obtain ⟨h39, e39⟩ : ∃ h, T39.heap = h := ⟨_, rfl⟩
  rw [e39] at Kq39 q39_0 q39_1 q39_2 q39_3
  have Z39 : n0 ≤ h39.size := Nat.le_trans Z38 Kq39.1
  have K39 : Keep h0 h39 [] := K38.trans Kq39 (by intro x q; simp only [List.mem_cons, List.not_mem_nil, or_false] at q; rcases q with rfl; exact (Or.inr H22))
  have k39 : Go p e below m W T39 133 #[.val (.ref b1), .val (.int (4 : Int32))] [(.ref b22)] := k39
  have st40 : own_Str Z h39 b22 [x0, x1, x2, x3] := ⟨(Nat.le_of_ble_eq_true rfl), (own_E1 R0 (own_E1 R1 (own_E1 R2 (own_E1 R3 own_E0)))), _, _, _, _, _, q39_1, q39_2, q39_3, p39_0⟩
  exact k39.areturn X39 hx Bd.returns rfl rfl (hb hby d_rmmk0_133) (BodyLoose.notSynchronized Bd) (by rw [e39]; exact ⟨b22, rfl, N39, K39, q39_0, st40, G22, H22⟩) (by decide) (by decide)

theorem d_rmpt0s_0 : decode method_4_code 0 = .ok (.iload_n 2, 1) := by decide +kernel
theorem d_rmpt0s_1 : decode method_4_code 1 = .ok (.ldc 12, 2) := by decide +kernel
theorem d_rmpt0s_3 : decode method_4_code 3 = .ok (.if_icmp .ge 12, 3) := by decide +kernel
theorem d_rmpt0s_6 : decode method_4_code 6 = .ok (.aload_n 0, 1) := by decide +kernel
theorem d_rmpt0s_7 : decode method_4_code 7 = .ok (.iload_n 1, 1) := by decide +kernel
theorem d_rmpt0s_8 : decode method_4_code 8 = .ok (.iload_n 2, 1) := by decide +kernel
theorem d_rmpt0s_9 : decode method_4_code 9 = .ok (.i2c, 1) := by decide +kernel
theorem d_rmpt0s_10 : decode method_4_code 10 = .ok (.castore, 1) := by decide +kernel
theorem d_rmpt0s_11 : decode method_4_code 11 = .ok (.iload_n 1, 1) := by decide +kernel
theorem d_rmpt0s_12 : decode method_4_code 12 = .ok (.iconst 1, 1) := by decide +kernel
theorem d_rmpt0s_13 : decode method_4_code 13 = .ok (.iadd, 1) := by decide +kernel
theorem d_rmpt0s_14 : decode method_4_code 14 = .ok (.ireturn, 1) := by decide +kernel
theorem ef_rmpt0s (m : MethodId) (b1 : Addr) (cc : Int32) : entryFrame m #[(.ref b1), (.int (0 : Int32)), (.int cc)] 4 = mkF m 0 #[.val (.ref b1), .val (.int (0 : Int32)), .val (.int cc), .unset] [] := by first | (simp [entryFrame, mkF, argsToLocals, Value.category]; done) | rfl
def Q_rmpt0s (Z : State) (b1 : Addr) (cc : Int32) (k1 : ClassId) (w0 : Int32) (w1 : Int32) (w2 : Int32) (w3 : Int32) (h0 : Heap) (n0 : Nat) (v : Option Value) (h : Heap) (L : List Loc) : Prop := v = some (.int (1 : Int32)) ∧ Fr n0 L ∧ Keep h0 h [b1] ∧ Arv Z h b1 k1 .char (4 : Int32) [(.int (cc).toUInt32.toUInt16.toUInt32.toInt32), (.int w1), (.int w2), (.int w3)] (.int (0 : Int32))
set_option maxRecDepth 65536 in
set_option maxHeartbeats 40000000 in
theorem rmpt0s (l : Launch) (Z : State) (a0 : Array Value) (hw : ∀ d ∈ tables_1, d.before a0 Z = true) (ws : List Jvm.Cond) (b1 : Addr) (cc : Int32) (k1 : ClassId) (w0 : Int32) (w1 : Int32) (w2 : Int32) (w3 : Int32) (h0 : Heap) (n0 : Nat) (Z0 : n0 ≤ h0.size) (V1 : Arv Z h0 b1 k1 .char (4 : Int32) [(.int w0), (.int w1), (.int w2), (.int w3)] (.int (0 : Int32))) (G1 : n0 ≤ b1) (hs : cc < (65536 : Int32)) :
    MetFree l (⟨"com/example/promovent/promovent/library/CodePointsComparePinLaw", "put", "([CII)I"⟩ : MethodName) (head1 (Jvm.Cond.code (⟨"com/example/promovent/promovent/library/CodePointsComparePinLaw", "put", "([CII)I"⟩ : MethodName) method_4_code 4 (some .int) :: ws) ({ frames := 0, cells := 0, slots := 0, locals := 0 } : Room)) (fun a U => a = #[(.ref b1), (.int (0 : Int32)), (.int cc)] ∧ Z.Warmed39 U.vm ∧ U.heap = h0) (fun _ _ _ _ _ => True) (fun _ U o U' => ∃ v L, o = .returned v ∧ Q_rmpt0s Z b1 cc k1 w0 w1 w2 w3 h0 n0 v U'.heap L ∧ FrameEnd U o U' L ({ frames := 0, cells := 0, slots := 0, locals := 0 } : Room).cells ({ frames := 0, cells := 0, slots := 0, locals := 0 } : Room).slots) := by
  refine MetFree.of_bodySF (plainFor_of_name pn_rmraw) hisR ?_
  intro p e s m args_ below meth c s₁ Bd hml0 hP hK
  obtain ⟨hargs, hZ, hh⟩ := hP
  have hx := Bd.exec
  have hby := Bd.bytes
  have hml : c.maxLocals = 4 := hml0
  have hown : s.vm.findClass "com/example/promovent/promovent/library/CodePointsComparePinLaw" = some m.cls := findClass_of_methodNamed Bd.named
  have hnm := (name_of_methodNamed Bd.named Bd.method).1
  have X0 : Stand p l e ({ frames := 0, cells := 0, slots := 0, locals := 0 } : Room) s m args_ below meth c s₁ [] 0 0 := Stand.of_body Bd
  have e0 : s₁.heap = h0 := by rw [← hh, Bd.state]; rfl
  have N0 := Fr.nil n0
  have hv : ∀ (i : Nat) {d : Jvm.Cond}, tables_1[i]? = some d → d.before a0 Z = true := fun i d q => hw d (List.mem_of_getElem? q)
  have K0 : Keep h0 h0 [b1] := Keep.refl _ _
  have k0 : Go p e below m (s₁.setTop (entryFrame m args_ 4)) s₁ 0 #[.val (.ref b1), .val (.int (0 : Int32)), .val (.int cc), .unset] [] := by rw [hargs]; exact fun t kt => castTop (ef_rmpt0s m b1 cc) kt
  obtain ⟨W, hWW⟩ : ∃ W, W = s₁.setTop (entryFrame m args_ 4) := ⟨_, rfl⟩
  rw [← hWW] at k0 ⊢
  show Done p e below s W (Q_rmpt0s Z b1 cc k1 w0 w1 w2 w3 h0 n0) ({ frames := 0, cells := 0, slots := 0, locals := 0 } : Room).cells ({ frames := 0, cells := 0, slots := 0, locals := 0 } : Room).slots
  have k20 : Go p e below m W s₁ 10 #[.val (.ref b1), .val (.int (0 : Int32)), .val (.int cc), .unset] [(.int (cc).toUInt32.toUInt16.toUInt32.toInt32), (.int (0 : Int32)), (.ref b1)] := ((((((k0.iloadN X0 hx (hb hby d_rmpt0s_0) rfl).ldcI X0 hx hZ hown (hv 67 rfl) (hb hby d_rmpt0s_1)).icmpNo X0 hx (hb hby d_rmpt0s_3) (XT.ii_ge_f hs)).aloadN X0 hx (hb hby d_rmpt0s_6) rfl rfl).iloadN X0 hx (hb hby d_rmpt0s_7) rfl).iloadN X0 hx (hb hby d_rmpt0s_8) rfl).i2c X0 hx (hb hby d_rmpt0s_9)
  obtain ⟨T21, h21, l21, X21, e21, W21, V21, N21, k21⟩ := k20.castore (i := 0) X0 hx hZ e0 V1 rfl rfl (by decide) (Nat.le_of_ble_eq_true rfl) N0 G1 (hb hby d_rmpt0s_10)
  have k21 : Go p e below m W T21 11 #[.val (.ref b1), .val (.int (0 : Int32)), .val (.int cc), .unset] [] := k21
  have Z21 : n0 ≤ h21.size := (Wr.size W21).symm ▸ Z0
  rw [own_nari] at V21
  have V21 : Arv Z h21 b1 k1 .char (4 : Int32) [(.int (cc).toUInt32.toUInt16.toUInt32.toInt32), (.int w1), (.int w2), (.int w3)] (.int (0 : Int32)) := V21
  have K21 : Keep h0 h21 [b1] := K0.wr W21 (Or.inl (List.mem_of_getElem? (i := 0) rfl))
  have k22 : Go p e below m W T21 14 #[.val (.ref b1), .val (.int (0 : Int32)), .val (.int cc), .unset] [(.int (1 : Int32))] := (((k21.iloadN X21 hx (hb hby d_rmpt0s_11) rfl).iconst X21 hx (hb hby d_rmpt0s_12) (v := (1 : Int32)) rfl).iadd X21 hx (hb hby d_rmpt0s_13)).cast (y := (1 : Int32)) (by decide)
  exact k22.ireturnI X21 hx Bd.returns (hb hby d_rmpt0s_14) (BodyLoose.notSynchronized Bd) (by rw [e21]; exact ⟨rfl, N21, K21, V21⟩) (by decide) (by decide)

theorem d_rmpt0s_15 : decode method_4_code 15 = .ok (.iload_n 2, 1) := by decide +kernel
theorem d_rmpt0s_16 : decode method_4_code 16 = .ok (.ldc 12, 2) := by decide +kernel
theorem d_rmpt0s_18 : decode method_4_code 18 = .ok (.isub, 1) := by decide +kernel
theorem d_rmpt0s_19 : decode method_4_code 19 = .ok (.istore_n 3, 1) := by decide +kernel
theorem d_rmpt0s_20 : decode method_4_code 20 = .ok (.aload_n 0, 1) := by decide +kernel
theorem d_rmpt0s_21 : decode method_4_code 21 = .ok (.iload_n 1, 1) := by decide +kernel
theorem d_rmpt0s_22 : decode method_4_code 22 = .ok (.ldc 11, 2) := by decide +kernel
theorem d_rmpt0s_24 : decode method_4_code 24 = .ok (.iload_n 3, 1) := by decide +kernel
theorem d_rmpt0s_25 : decode method_4_code 25 = .ok (.bipush 10, 2) := by decide +kernel
theorem d_rmpt0s_27 : decode method_4_code 27 = .ok (.ishr, 1) := by decide +kernel
theorem d_rmpt0s_28 : decode method_4_code 28 = .ok (.iadd, 1) := by decide +kernel
theorem d_rmpt0s_29 : decode method_4_code 29 = .ok (.i2c, 1) := by decide +kernel
theorem d_rmpt0s_30 : decode method_4_code 30 = .ok (.castore, 1) := by decide +kernel
theorem d_rmpt0s_31 : decode method_4_code 31 = .ok (.aload_n 0, 1) := by decide +kernel
theorem d_rmpt0s_32 : decode method_4_code 32 = .ok (.iload_n 1, 1) := by decide +kernel
theorem d_rmpt0s_33 : decode method_4_code 33 = .ok (.iconst 1, 1) := by decide +kernel
theorem d_rmpt0s_34 : decode method_4_code 34 = .ok (.iadd, 1) := by decide +kernel
theorem d_rmpt0s_35 : decode method_4_code 35 = .ok (.ldc 13, 2) := by decide +kernel
theorem d_rmpt0s_37 : decode method_4_code 37 = .ok (.iload_n 3, 1) := by decide +kernel
theorem d_rmpt0s_38 : decode method_4_code 38 = .ok (.sipush 1023, 3) := by decide +kernel
theorem d_rmpt0s_41 : decode method_4_code 41 = .ok (.iand, 1) := by decide +kernel
theorem d_rmpt0s_42 : decode method_4_code 42 = .ok (.iadd, 1) := by decide +kernel
theorem d_rmpt0s_43 : decode method_4_code 43 = .ok (.i2c, 1) := by decide +kernel
theorem d_rmpt0s_44 : decode method_4_code 44 = .ok (.castore, 1) := by decide +kernel
theorem d_rmpt0s_45 : decode method_4_code 45 = .ok (.iload_n 1, 1) := by decide +kernel
theorem d_rmpt0s_46 : decode method_4_code 46 = .ok (.iconst 2, 1) := by decide +kernel
theorem d_rmpt0s_47 : decode method_4_code 47 = .ok (.iadd, 1) := by decide +kernel
theorem d_rmpt0s_48 : decode method_4_code 48 = .ok (.ireturn, 1) := by decide +kernel
theorem ef_rmpt0b (m : MethodId) (b1 : Addr) (cc : Int32) : entryFrame m #[(.ref b1), (.int (0 : Int32)), (.int cc)] 4 = mkF m 0 #[.val (.ref b1), .val (.int (0 : Int32)), .val (.int cc), .unset] [] := by first | (simp [entryFrame, mkF, argsToLocals, Value.category]; done) | rfl
def Q_rmpt0b (Z : State) (b1 : Addr) (cc : Int32) (k1 : ClassId) (w0 : Int32) (w1 : Int32) (w2 : Int32) (w3 : Int32) (h0 : Heap) (n0 : Nat) (v : Option Value) (h : Heap) (L : List Loc) : Prop := v = some (.int (2 : Int32)) ∧ Fr n0 L ∧ Keep h0 h [b1] ∧ Arv Z h b1 k1 .char (4 : Int32) [(.int (((55296 : Int32) + ((cc - (65536 : Int32)) >>> ((10 : Int32) &&& 31)))).toUInt32.toUInt16.toUInt32.toInt32), (.int (((56320 : Int32) + ((cc - (65536 : Int32)) &&& (1023 : Int32)))).toUInt32.toUInt16.toUInt32.toInt32), (.int w2), (.int w3)] (.int (0 : Int32))
set_option maxRecDepth 65536 in
set_option maxHeartbeats 40000000 in
theorem rmpt0b (l : Launch) (Z : State) (a0 : Array Value) (hw : ∀ d ∈ tables_1, d.before a0 Z = true) (ws : List Jvm.Cond) (b1 : Addr) (cc : Int32) (k1 : ClassId) (w0 : Int32) (w1 : Int32) (w2 : Int32) (w3 : Int32) (h0 : Heap) (n0 : Nat) (Z0 : n0 ≤ h0.size) (V1 : Arv Z h0 b1 k1 .char (4 : Int32) [(.int w0), (.int w1), (.int w2), (.int w3)] (.int (0 : Int32))) (G1 : n0 ≤ b1) (hs : ¬ (cc < (65536 : Int32))) :
    MetFree l (⟨"com/example/promovent/promovent/library/CodePointsComparePinLaw", "put", "([CII)I"⟩ : MethodName) (head1 (Jvm.Cond.code (⟨"com/example/promovent/promovent/library/CodePointsComparePinLaw", "put", "([CII)I"⟩ : MethodName) method_4_code 4 (some .int) :: ws) ({ frames := 0, cells := 0, slots := 0, locals := 0 } : Room)) (fun a U => a = #[(.ref b1), (.int (0 : Int32)), (.int cc)] ∧ Z.Warmed39 U.vm ∧ U.heap = h0) (fun _ _ _ _ _ => True) (fun _ U o U' => ∃ v L, o = .returned v ∧ Q_rmpt0b Z b1 cc k1 w0 w1 w2 w3 h0 n0 v U'.heap L ∧ FrameEnd U o U' L ({ frames := 0, cells := 0, slots := 0, locals := 0 } : Room).cells ({ frames := 0, cells := 0, slots := 0, locals := 0 } : Room).slots) := by
  refine MetFree.of_bodySF (plainFor_of_name pn_rmraw) hisR ?_
  intro p e s m args_ below meth c s₁ Bd hml0 hP hK
  obtain ⟨hargs, hZ, hh⟩ := hP
  have hx := Bd.exec
  have hby := Bd.bytes
  have hml : c.maxLocals = 4 := hml0
  have hown : s.vm.findClass "com/example/promovent/promovent/library/CodePointsComparePinLaw" = some m.cls := findClass_of_methodNamed Bd.named
  have hnm := (name_of_methodNamed Bd.named Bd.method).1
  have X0 : Stand p l e ({ frames := 0, cells := 0, slots := 0, locals := 0 } : Room) s m args_ below meth c s₁ [] 0 0 := Stand.of_body Bd
  have e0 : s₁.heap = h0 := by rw [← hh, Bd.state]; rfl
  have N0 := Fr.nil n0
  have hv : ∀ (i : Nat) {d : Jvm.Cond}, tables_1[i]? = some d → d.before a0 Z = true := fun i d q => hw d (List.mem_of_getElem? q)
  have K0 : Keep h0 h0 [b1] := Keep.refl _ _
  have k0 : Go p e below m (s₁.setTop (entryFrame m args_ 4)) s₁ 0 #[.val (.ref b1), .val (.int (0 : Int32)), .val (.int cc), .unset] [] := by rw [hargs]; exact fun t kt => castTop (ef_rmpt0b m b1 cc) kt
  obtain ⟨W, hWW⟩ : ∃ W, W = s₁.setTop (entryFrame m args_ 4) := ⟨_, rfl⟩
  rw [← hWW] at k0 ⊢
  show Done p e below s W (Q_rmpt0b Z b1 cc k1 w0 w1 w2 w3 h0 n0) ({ frames := 0, cells := 0, slots := 0, locals := 0 } : Room).cells ({ frames := 0, cells := 0, slots := 0, locals := 0 } : Room).slots
  have k20 : Go p e below m W s₁ 20 #[.val (.ref b1), .val (.int (0 : Int32)), .val (.int cc), .val (.int (cc - (65536 : Int32)))] [] := ((((((k0.iloadN X0 hx (hb hby d_rmpt0s_0) rfl).ldcI X0 hx hZ hown (hv 67 rfl) (hb hby d_rmpt0s_1)).icmpYes X0 hx (hb hby d_rmpt0s_3) (XT.ii_ge_t hs) (by decide) (by decide)).iloadN X0 hx (hb hby d_rmpt0s_15) rfl).ldcI X0 hx hZ hown (hv 67 rfl) (hb hby d_rmpt0s_16)).isub X0 hx (hb hby d_rmpt0s_18)).istoreN X0 hx (hb hby d_rmpt0s_19) rfl
  have k21 : Go p e below m W s₁ 30 #[.val (.ref b1), .val (.int (0 : Int32)), .val (.int cc), .val (.int (cc - (65536 : Int32)))] [(.int (((55296 : Int32) + ((cc - (65536 : Int32)) >>> ((10 : Int32) &&& 31)))).toUInt32.toUInt16.toUInt32.toInt32), (.int (0 : Int32)), (.ref b1)] := (((((((k20.aloadN X0 hx (hb hby d_rmpt0s_20) rfl rfl).iloadN X0 hx (hb hby d_rmpt0s_21) rfl).ldcI X0 hx hZ hown (hv 9 rfl) (hb hby d_rmpt0s_22)).iloadN X0 hx (hb hby d_rmpt0s_24) rfl).bipush X0 hx (hb hby d_rmpt0s_25) (v := (10 : Int32)) rfl).ishr X0 hx (hb hby d_rmpt0s_27)).iadd X0 hx (hb hby d_rmpt0s_28)).i2c X0 hx (hb hby d_rmpt0s_29)
  obtain ⟨T22, h22, l22, X22, e22, W22, V22, N22, k22⟩ := k21.castore (i := 0) X0 hx hZ e0 V1 rfl rfl (by decide) (Nat.le_of_ble_eq_true rfl) N0 G1 (hb hby d_rmpt0s_30)
  have k22 : Go p e below m W T22 31 #[.val (.ref b1), .val (.int (0 : Int32)), .val (.int cc), .val (.int (cc - (65536 : Int32)))] [] := k22
  have Z22 : n0 ≤ h22.size := (Wr.size W22).symm ▸ Z0
  rw [own_nari] at V22
  have V22 : Arv Z h22 b1 k1 .char (4 : Int32) [(.int (((55296 : Int32) + ((cc - (65536 : Int32)) >>> ((10 : Int32) &&& 31)))).toUInt32.toUInt16.toUInt32.toInt32), (.int w1), (.int w2), (.int w3)] (.int (0 : Int32)) := V22
  have K22 : Keep h0 h22 [b1] := K0.wr W22 (Or.inl (List.mem_of_getElem? (i := 0) rfl))
  have k23 : Go p e below m W T22 43 #[.val (.ref b1), .val (.int (0 : Int32)), .val (.int cc), .val (.int (cc - (65536 : Int32)))] [(.int ((56320 : Int32) + ((cc - (65536 : Int32)) &&& (1023 : Int32)))), (.int (1 : Int32)), (.ref b1)] := (((((((((k22.aloadN X22 hx (hb hby d_rmpt0s_31) rfl rfl).iloadN X22 hx (hb hby d_rmpt0s_32) rfl).iconst X22 hx (hb hby d_rmpt0s_33) (v := (1 : Int32)) rfl).iadd X22 hx (hb hby d_rmpt0s_34)).cast (y := (1 : Int32)) (by decide)).ldcI X22 hx hZ hown (hv 108 rfl) (hb hby d_rmpt0s_35)).iloadN X22 hx (hb hby d_rmpt0s_37) rfl).sipush X22 hx (hb hby d_rmpt0s_38) (v := (1023 : Int32)) rfl).iand X22 hx (hb hby d_rmpt0s_41)).iadd X22 hx (hb hby d_rmpt0s_42)
  have k24 : Go p e below m W T22 44 #[.val (.ref b1), .val (.int (0 : Int32)), .val (.int cc), .val (.int (cc - (65536 : Int32)))] [(.int (((56320 : Int32) + ((cc - (65536 : Int32)) &&& (1023 : Int32)))).toUInt32.toUInt16.toUInt32.toInt32), (.int (1 : Int32)), (.ref b1)] := k23.i2c X22 hx (hb hby d_rmpt0s_43)
  obtain ⟨T25, h25, l25, X25, e25, W25, V25, N25, k25⟩ := k24.castore (i := 1) X22 hx hZ e22 V22 rfl rfl (by decide) (Nat.le_of_ble_eq_true rfl) N22 G1 (hb hby d_rmpt0s_44)
  have k25 : Go p e below m W T25 45 #[.val (.ref b1), .val (.int (0 : Int32)), .val (.int cc), .val (.int (cc - (65536 : Int32)))] [] := k25
  have Z25 : n0 ≤ h25.size := (Wr.size W25).symm ▸ Z22
  rw [own_nari] at V25
  have V25 : Arv Z h25 b1 k1 .char (4 : Int32) [(.int (((55296 : Int32) + ((cc - (65536 : Int32)) >>> ((10 : Int32) &&& 31)))).toUInt32.toUInt16.toUInt32.toInt32), (.int (((56320 : Int32) + ((cc - (65536 : Int32)) &&& (1023 : Int32)))).toUInt32.toUInt16.toUInt32.toInt32), (.int w2), (.int w3)] (.int (0 : Int32)) := V25
  have K25 : Keep h0 h25 [b1] := K22.wr W25 (Or.inl (List.mem_of_getElem? (i := 0) rfl))
  have k26 : Go p e below m W T25 48 #[.val (.ref b1), .val (.int (0 : Int32)), .val (.int cc), .val (.int (cc - (65536 : Int32)))] [(.int (2 : Int32))] := (((k25.iloadN X25 hx (hb hby d_rmpt0s_45) rfl).iconst X25 hx (hb hby d_rmpt0s_46) (v := (2 : Int32)) rfl).iadd X25 hx (hb hby d_rmpt0s_47)).cast (y := (2 : Int32)) (by decide)
  exact k26.ireturnI X25 hx Bd.returns (hb hby d_rmpt0s_48) (BodyLoose.notSynchronized Bd) (by rw [e25]; exact ⟨rfl, N25, K25, V25⟩) (by decide) (by decide)

theorem ef_rmpt1s (m : MethodId) (b1 : Addr) (cc : Int32) : entryFrame m #[(.ref b1), (.int (1 : Int32)), (.int cc)] 4 = mkF m 0 #[.val (.ref b1), .val (.int (1 : Int32)), .val (.int cc), .unset] [] := by first | (simp [entryFrame, mkF, argsToLocals, Value.category]; done) | rfl
def Q_rmpt1s (Z : State) (b1 : Addr) (cc : Int32) (k1 : ClassId) (w0 : Int32) (w1 : Int32) (w2 : Int32) (w3 : Int32) (h0 : Heap) (n0 : Nat) (v : Option Value) (h : Heap) (L : List Loc) : Prop := v = some (.int (2 : Int32)) ∧ Fr n0 L ∧ Keep h0 h [b1] ∧ Arv Z h b1 k1 .char (4 : Int32) [(.int w0), (.int (cc).toUInt32.toUInt16.toUInt32.toInt32), (.int w2), (.int w3)] (.int (0 : Int32))
set_option maxRecDepth 65536 in
set_option maxHeartbeats 40000000 in
theorem rmpt1s (l : Launch) (Z : State) (a0 : Array Value) (hw : ∀ d ∈ tables_1, d.before a0 Z = true) (ws : List Jvm.Cond) (b1 : Addr) (cc : Int32) (k1 : ClassId) (w0 : Int32) (w1 : Int32) (w2 : Int32) (w3 : Int32) (h0 : Heap) (n0 : Nat) (Z0 : n0 ≤ h0.size) (V1 : Arv Z h0 b1 k1 .char (4 : Int32) [(.int w0), (.int w1), (.int w2), (.int w3)] (.int (0 : Int32))) (G1 : n0 ≤ b1) (hs : cc < (65536 : Int32)) :
    MetFree l (⟨"com/example/promovent/promovent/library/CodePointsComparePinLaw", "put", "([CII)I"⟩ : MethodName) (head1 (Jvm.Cond.code (⟨"com/example/promovent/promovent/library/CodePointsComparePinLaw", "put", "([CII)I"⟩ : MethodName) method_4_code 4 (some .int) :: ws) ({ frames := 0, cells := 0, slots := 0, locals := 0 } : Room)) (fun a U => a = #[(.ref b1), (.int (1 : Int32)), (.int cc)] ∧ Z.Warmed39 U.vm ∧ U.heap = h0) (fun _ _ _ _ _ => True) (fun _ U o U' => ∃ v L, o = .returned v ∧ Q_rmpt1s Z b1 cc k1 w0 w1 w2 w3 h0 n0 v U'.heap L ∧ FrameEnd U o U' L ({ frames := 0, cells := 0, slots := 0, locals := 0 } : Room).cells ({ frames := 0, cells := 0, slots := 0, locals := 0 } : Room).slots) := by
  refine MetFree.of_bodySF (plainFor_of_name pn_rmraw) hisR ?_
  intro p e s m args_ below meth c s₁ Bd hml0 hP hK
  obtain ⟨hargs, hZ, hh⟩ := hP
  have hx := Bd.exec
  have hby := Bd.bytes
  have hml : c.maxLocals = 4 := hml0
  have hown : s.vm.findClass "com/example/promovent/promovent/library/CodePointsComparePinLaw" = some m.cls := findClass_of_methodNamed Bd.named
  have hnm := (name_of_methodNamed Bd.named Bd.method).1
  have X0 : Stand p l e ({ frames := 0, cells := 0, slots := 0, locals := 0 } : Room) s m args_ below meth c s₁ [] 0 0 := Stand.of_body Bd
  have e0 : s₁.heap = h0 := by rw [← hh, Bd.state]; rfl
  have N0 := Fr.nil n0
  have hv : ∀ (i : Nat) {d : Jvm.Cond}, tables_1[i]? = some d → d.before a0 Z = true := fun i d q => hw d (List.mem_of_getElem? q)
  have K0 : Keep h0 h0 [b1] := Keep.refl _ _
  have k0 : Go p e below m (s₁.setTop (entryFrame m args_ 4)) s₁ 0 #[.val (.ref b1), .val (.int (1 : Int32)), .val (.int cc), .unset] [] := by rw [hargs]; exact fun t kt => castTop (ef_rmpt1s m b1 cc) kt
  obtain ⟨W, hWW⟩ : ∃ W, W = s₁.setTop (entryFrame m args_ 4) := ⟨_, rfl⟩
  rw [← hWW] at k0 ⊢
  show Done p e below s W (Q_rmpt1s Z b1 cc k1 w0 w1 w2 w3 h0 n0) ({ frames := 0, cells := 0, slots := 0, locals := 0 } : Room).cells ({ frames := 0, cells := 0, slots := 0, locals := 0 } : Room).slots
  have k20 : Go p e below m W s₁ 10 #[.val (.ref b1), .val (.int (1 : Int32)), .val (.int cc), .unset] [(.int (cc).toUInt32.toUInt16.toUInt32.toInt32), (.int (1 : Int32)), (.ref b1)] := ((((((k0.iloadN X0 hx (hb hby d_rmpt0s_0) rfl).ldcI X0 hx hZ hown (hv 67 rfl) (hb hby d_rmpt0s_1)).icmpNo X0 hx (hb hby d_rmpt0s_3) (XT.ii_ge_f hs)).aloadN X0 hx (hb hby d_rmpt0s_6) rfl rfl).iloadN X0 hx (hb hby d_rmpt0s_7) rfl).iloadN X0 hx (hb hby d_rmpt0s_8) rfl).i2c X0 hx (hb hby d_rmpt0s_9)
  obtain ⟨T21, h21, l21, X21, e21, W21, V21, N21, k21⟩ := k20.castore (i := 1) X0 hx hZ e0 V1 rfl rfl (by decide) (Nat.le_of_ble_eq_true rfl) N0 G1 (hb hby d_rmpt0s_10)
  have k21 : Go p e below m W T21 11 #[.val (.ref b1), .val (.int (1 : Int32)), .val (.int cc), .unset] [] := k21
  have Z21 : n0 ≤ h21.size := (Wr.size W21).symm ▸ Z0
  rw [own_nari] at V21
  have V21 : Arv Z h21 b1 k1 .char (4 : Int32) [(.int w0), (.int (cc).toUInt32.toUInt16.toUInt32.toInt32), (.int w2), (.int w3)] (.int (0 : Int32)) := V21
  have K21 : Keep h0 h21 [b1] := K0.wr W21 (Or.inl (List.mem_of_getElem? (i := 0) rfl))
  have k22 : Go p e below m W T21 14 #[.val (.ref b1), .val (.int (1 : Int32)), .val (.int cc), .unset] [(.int (2 : Int32))] := (((k21.iloadN X21 hx (hb hby d_rmpt0s_11) rfl).iconst X21 hx (hb hby d_rmpt0s_12) (v := (1 : Int32)) rfl).iadd X21 hx (hb hby d_rmpt0s_13)).cast (y := (2 : Int32)) (by decide)
  exact k22.ireturnI X21 hx Bd.returns (hb hby d_rmpt0s_14) (BodyLoose.notSynchronized Bd) (by rw [e21]; exact ⟨rfl, N21, K21, V21⟩) (by decide) (by decide)

theorem ef_rmpt1b (m : MethodId) (b1 : Addr) (cc : Int32) : entryFrame m #[(.ref b1), (.int (1 : Int32)), (.int cc)] 4 = mkF m 0 #[.val (.ref b1), .val (.int (1 : Int32)), .val (.int cc), .unset] [] := by first | (simp [entryFrame, mkF, argsToLocals, Value.category]; done) | rfl
def Q_rmpt1b (Z : State) (b1 : Addr) (cc : Int32) (k1 : ClassId) (w0 : Int32) (w1 : Int32) (w2 : Int32) (w3 : Int32) (h0 : Heap) (n0 : Nat) (v : Option Value) (h : Heap) (L : List Loc) : Prop := v = some (.int (3 : Int32)) ∧ Fr n0 L ∧ Keep h0 h [b1] ∧ Arv Z h b1 k1 .char (4 : Int32) [(.int w0), (.int (((55296 : Int32) + ((cc - (65536 : Int32)) >>> ((10 : Int32) &&& 31)))).toUInt32.toUInt16.toUInt32.toInt32), (.int (((56320 : Int32) + ((cc - (65536 : Int32)) &&& (1023 : Int32)))).toUInt32.toUInt16.toUInt32.toInt32), (.int w3)] (.int (0 : Int32))
set_option maxRecDepth 65536 in
set_option maxHeartbeats 40000000 in
theorem rmpt1b (l : Launch) (Z : State) (a0 : Array Value) (hw : ∀ d ∈ tables_1, d.before a0 Z = true) (ws : List Jvm.Cond) (b1 : Addr) (cc : Int32) (k1 : ClassId) (w0 : Int32) (w1 : Int32) (w2 : Int32) (w3 : Int32) (h0 : Heap) (n0 : Nat) (Z0 : n0 ≤ h0.size) (V1 : Arv Z h0 b1 k1 .char (4 : Int32) [(.int w0), (.int w1), (.int w2), (.int w3)] (.int (0 : Int32))) (G1 : n0 ≤ b1) (hs : ¬ (cc < (65536 : Int32))) :
    MetFree l (⟨"com/example/promovent/promovent/library/CodePointsComparePinLaw", "put", "([CII)I"⟩ : MethodName) (head1 (Jvm.Cond.code (⟨"com/example/promovent/promovent/library/CodePointsComparePinLaw", "put", "([CII)I"⟩ : MethodName) method_4_code 4 (some .int) :: ws) ({ frames := 0, cells := 0, slots := 0, locals := 0 } : Room)) (fun a U => a = #[(.ref b1), (.int (1 : Int32)), (.int cc)] ∧ Z.Warmed39 U.vm ∧ U.heap = h0) (fun _ _ _ _ _ => True) (fun _ U o U' => ∃ v L, o = .returned v ∧ Q_rmpt1b Z b1 cc k1 w0 w1 w2 w3 h0 n0 v U'.heap L ∧ FrameEnd U o U' L ({ frames := 0, cells := 0, slots := 0, locals := 0 } : Room).cells ({ frames := 0, cells := 0, slots := 0, locals := 0 } : Room).slots) := by
  refine MetFree.of_bodySF (plainFor_of_name pn_rmraw) hisR ?_
  intro p e s m args_ below meth c s₁ Bd hml0 hP hK
  obtain ⟨hargs, hZ, hh⟩ := hP
  have hx := Bd.exec
  have hby := Bd.bytes
  have hml : c.maxLocals = 4 := hml0
  have hown : s.vm.findClass "com/example/promovent/promovent/library/CodePointsComparePinLaw" = some m.cls := findClass_of_methodNamed Bd.named
  have hnm := (name_of_methodNamed Bd.named Bd.method).1
  have X0 : Stand p l e ({ frames := 0, cells := 0, slots := 0, locals := 0 } : Room) s m args_ below meth c s₁ [] 0 0 := Stand.of_body Bd
  have e0 : s₁.heap = h0 := by rw [← hh, Bd.state]; rfl
  have N0 := Fr.nil n0
  have hv : ∀ (i : Nat) {d : Jvm.Cond}, tables_1[i]? = some d → d.before a0 Z = true := fun i d q => hw d (List.mem_of_getElem? q)
  have K0 : Keep h0 h0 [b1] := Keep.refl _ _
  have k0 : Go p e below m (s₁.setTop (entryFrame m args_ 4)) s₁ 0 #[.val (.ref b1), .val (.int (1 : Int32)), .val (.int cc), .unset] [] := by rw [hargs]; exact fun t kt => castTop (ef_rmpt1b m b1 cc) kt
  obtain ⟨W, hWW⟩ : ∃ W, W = s₁.setTop (entryFrame m args_ 4) := ⟨_, rfl⟩
  rw [← hWW] at k0 ⊢
  show Done p e below s W (Q_rmpt1b Z b1 cc k1 w0 w1 w2 w3 h0 n0) ({ frames := 0, cells := 0, slots := 0, locals := 0 } : Room).cells ({ frames := 0, cells := 0, slots := 0, locals := 0 } : Room).slots
  have k20 : Go p e below m W s₁ 20 #[.val (.ref b1), .val (.int (1 : Int32)), .val (.int cc), .val (.int (cc - (65536 : Int32)))] [] := ((((((k0.iloadN X0 hx (hb hby d_rmpt0s_0) rfl).ldcI X0 hx hZ hown (hv 67 rfl) (hb hby d_rmpt0s_1)).icmpYes X0 hx (hb hby d_rmpt0s_3) (XT.ii_ge_t hs) (by decide) (by decide)).iloadN X0 hx (hb hby d_rmpt0s_15) rfl).ldcI X0 hx hZ hown (hv 67 rfl) (hb hby d_rmpt0s_16)).isub X0 hx (hb hby d_rmpt0s_18)).istoreN X0 hx (hb hby d_rmpt0s_19) rfl
  have k21 : Go p e below m W s₁ 30 #[.val (.ref b1), .val (.int (1 : Int32)), .val (.int cc), .val (.int (cc - (65536 : Int32)))] [(.int (((55296 : Int32) + ((cc - (65536 : Int32)) >>> ((10 : Int32) &&& 31)))).toUInt32.toUInt16.toUInt32.toInt32), (.int (1 : Int32)), (.ref b1)] := (((((((k20.aloadN X0 hx (hb hby d_rmpt0s_20) rfl rfl).iloadN X0 hx (hb hby d_rmpt0s_21) rfl).ldcI X0 hx hZ hown (hv 9 rfl) (hb hby d_rmpt0s_22)).iloadN X0 hx (hb hby d_rmpt0s_24) rfl).bipush X0 hx (hb hby d_rmpt0s_25) (v := (10 : Int32)) rfl).ishr X0 hx (hb hby d_rmpt0s_27)).iadd X0 hx (hb hby d_rmpt0s_28)).i2c X0 hx (hb hby d_rmpt0s_29)
  obtain ⟨T22, h22, l22, X22, e22, W22, V22, N22, k22⟩ := k21.castore (i := 1) X0 hx hZ e0 V1 rfl rfl (by decide) (Nat.le_of_ble_eq_true rfl) N0 G1 (hb hby d_rmpt0s_30)
  have k22 : Go p e below m W T22 31 #[.val (.ref b1), .val (.int (1 : Int32)), .val (.int cc), .val (.int (cc - (65536 : Int32)))] [] := k22
  have Z22 : n0 ≤ h22.size := (Wr.size W22).symm ▸ Z0
  rw [own_nari] at V22
  have V22 : Arv Z h22 b1 k1 .char (4 : Int32) [(.int w0), (.int (((55296 : Int32) + ((cc - (65536 : Int32)) >>> ((10 : Int32) &&& 31)))).toUInt32.toUInt16.toUInt32.toInt32), (.int w2), (.int w3)] (.int (0 : Int32)) := V22
  have K22 : Keep h0 h22 [b1] := K0.wr W22 (Or.inl (List.mem_of_getElem? (i := 0) rfl))
  have k23 : Go p e below m W T22 43 #[.val (.ref b1), .val (.int (1 : Int32)), .val (.int cc), .val (.int (cc - (65536 : Int32)))] [(.int ((56320 : Int32) + ((cc - (65536 : Int32)) &&& (1023 : Int32)))), (.int (2 : Int32)), (.ref b1)] := (((((((((k22.aloadN X22 hx (hb hby d_rmpt0s_31) rfl rfl).iloadN X22 hx (hb hby d_rmpt0s_32) rfl).iconst X22 hx (hb hby d_rmpt0s_33) (v := (1 : Int32)) rfl).iadd X22 hx (hb hby d_rmpt0s_34)).cast (y := (2 : Int32)) (by decide)).ldcI X22 hx hZ hown (hv 108 rfl) (hb hby d_rmpt0s_35)).iloadN X22 hx (hb hby d_rmpt0s_37) rfl).sipush X22 hx (hb hby d_rmpt0s_38) (v := (1023 : Int32)) rfl).iand X22 hx (hb hby d_rmpt0s_41)).iadd X22 hx (hb hby d_rmpt0s_42)
  have k24 : Go p e below m W T22 44 #[.val (.ref b1), .val (.int (1 : Int32)), .val (.int cc), .val (.int (cc - (65536 : Int32)))] [(.int (((56320 : Int32) + ((cc - (65536 : Int32)) &&& (1023 : Int32)))).toUInt32.toUInt16.toUInt32.toInt32), (.int (2 : Int32)), (.ref b1)] := k23.i2c X22 hx (hb hby d_rmpt0s_43)
  obtain ⟨T25, h25, l25, X25, e25, W25, V25, N25, k25⟩ := k24.castore (i := 2) X22 hx hZ e22 V22 rfl rfl (by decide) (Nat.le_of_ble_eq_true rfl) N22 G1 (hb hby d_rmpt0s_44)
  have k25 : Go p e below m W T25 45 #[.val (.ref b1), .val (.int (1 : Int32)), .val (.int cc), .val (.int (cc - (65536 : Int32)))] [] := k25
  have Z25 : n0 ≤ h25.size := (Wr.size W25).symm ▸ Z22
  rw [own_nari] at V25
  have V25 : Arv Z h25 b1 k1 .char (4 : Int32) [(.int w0), (.int (((55296 : Int32) + ((cc - (65536 : Int32)) >>> ((10 : Int32) &&& 31)))).toUInt32.toUInt16.toUInt32.toInt32), (.int (((56320 : Int32) + ((cc - (65536 : Int32)) &&& (1023 : Int32)))).toUInt32.toUInt16.toUInt32.toInt32), (.int w3)] (.int (0 : Int32)) := V25
  have K25 : Keep h0 h25 [b1] := K22.wr W25 (Or.inl (List.mem_of_getElem? (i := 0) rfl))
  have k26 : Go p e below m W T25 48 #[.val (.ref b1), .val (.int (1 : Int32)), .val (.int cc), .val (.int (cc - (65536 : Int32)))] [(.int (3 : Int32))] := (((k25.iloadN X25 hx (hb hby d_rmpt0s_45) rfl).iconst X25 hx (hb hby d_rmpt0s_46) (v := (2 : Int32)) rfl).iadd X25 hx (hb hby d_rmpt0s_47)).cast (y := (3 : Int32)) (by decide)
  exact k26.ireturnI X25 hx Bd.returns (hb hby d_rmpt0s_48) (BodyLoose.notSynchronized Bd) (by rw [e25]; exact ⟨rfl, N25, K25, V25⟩) (by decide) (by decide)

theorem ef_rmpt2s (m : MethodId) (b1 : Addr) (cc : Int32) : entryFrame m #[(.ref b1), (.int (2 : Int32)), (.int cc)] 4 = mkF m 0 #[.val (.ref b1), .val (.int (2 : Int32)), .val (.int cc), .unset] [] := by first | (simp [entryFrame, mkF, argsToLocals, Value.category]; done) | rfl
def Q_rmpt2s (Z : State) (b1 : Addr) (cc : Int32) (k1 : ClassId) (w0 : Int32) (w1 : Int32) (w2 : Int32) (w3 : Int32) (h0 : Heap) (n0 : Nat) (v : Option Value) (h : Heap) (L : List Loc) : Prop := v = some (.int (3 : Int32)) ∧ Fr n0 L ∧ Keep h0 h [b1] ∧ Arv Z h b1 k1 .char (4 : Int32) [(.int w0), (.int w1), (.int (cc).toUInt32.toUInt16.toUInt32.toInt32), (.int w3)] (.int (0 : Int32))
set_option maxRecDepth 65536 in
set_option maxHeartbeats 40000000 in
theorem rmpt2s (l : Launch) (Z : State) (a0 : Array Value) (hw : ∀ d ∈ tables_1, d.before a0 Z = true) (ws : List Jvm.Cond) (b1 : Addr) (cc : Int32) (k1 : ClassId) (w0 : Int32) (w1 : Int32) (w2 : Int32) (w3 : Int32) (h0 : Heap) (n0 : Nat) (Z0 : n0 ≤ h0.size) (V1 : Arv Z h0 b1 k1 .char (4 : Int32) [(.int w0), (.int w1), (.int w2), (.int w3)] (.int (0 : Int32))) (G1 : n0 ≤ b1) (hs : cc < (65536 : Int32)) :
    MetFree l (⟨"com/example/promovent/promovent/library/CodePointsComparePinLaw", "put", "([CII)I"⟩ : MethodName) (head1 (Jvm.Cond.code (⟨"com/example/promovent/promovent/library/CodePointsComparePinLaw", "put", "([CII)I"⟩ : MethodName) method_4_code 4 (some .int) :: ws) ({ frames := 0, cells := 0, slots := 0, locals := 0 } : Room)) (fun a U => a = #[(.ref b1), (.int (2 : Int32)), (.int cc)] ∧ Z.Warmed39 U.vm ∧ U.heap = h0) (fun _ _ _ _ _ => True) (fun _ U o U' => ∃ v L, o = .returned v ∧ Q_rmpt2s Z b1 cc k1 w0 w1 w2 w3 h0 n0 v U'.heap L ∧ FrameEnd U o U' L ({ frames := 0, cells := 0, slots := 0, locals := 0 } : Room).cells ({ frames := 0, cells := 0, slots := 0, locals := 0 } : Room).slots) := by
  refine MetFree.of_bodySF (plainFor_of_name pn_rmraw) hisR ?_
  intro p e s m args_ below meth c s₁ Bd hml0 hP hK
  obtain ⟨hargs, hZ, hh⟩ := hP
  have hx := Bd.exec
  have hby := Bd.bytes
  have hml : c.maxLocals = 4 := hml0
  have hown : s.vm.findClass "com/example/promovent/promovent/library/CodePointsComparePinLaw" = some m.cls := findClass_of_methodNamed Bd.named
  have hnm := (name_of_methodNamed Bd.named Bd.method).1
  have X0 : Stand p l e ({ frames := 0, cells := 0, slots := 0, locals := 0 } : Room) s m args_ below meth c s₁ [] 0 0 := Stand.of_body Bd
  have e0 : s₁.heap = h0 := by rw [← hh, Bd.state]; rfl
  have N0 := Fr.nil n0
  have hv : ∀ (i : Nat) {d : Jvm.Cond}, tables_1[i]? = some d → d.before a0 Z = true := fun i d q => hw d (List.mem_of_getElem? q)
  have K0 : Keep h0 h0 [b1] := Keep.refl _ _
  have k0 : Go p e below m (s₁.setTop (entryFrame m args_ 4)) s₁ 0 #[.val (.ref b1), .val (.int (2 : Int32)), .val (.int cc), .unset] [] := by rw [hargs]; exact fun t kt => castTop (ef_rmpt2s m b1 cc) kt
  obtain ⟨W, hWW⟩ : ∃ W, W = s₁.setTop (entryFrame m args_ 4) := ⟨_, rfl⟩
  rw [← hWW] at k0 ⊢
  show Done p e below s W (Q_rmpt2s Z b1 cc k1 w0 w1 w2 w3 h0 n0) ({ frames := 0, cells := 0, slots := 0, locals := 0 } : Room).cells ({ frames := 0, cells := 0, slots := 0, locals := 0 } : Room).slots
  have k20 : Go p e below m W s₁ 10 #[.val (.ref b1), .val (.int (2 : Int32)), .val (.int cc), .unset] [(.int (cc).toUInt32.toUInt16.toUInt32.toInt32), (.int (2 : Int32)), (.ref b1)] := ((((((k0.iloadN X0 hx (hb hby d_rmpt0s_0) rfl).ldcI X0 hx hZ hown (hv 67 rfl) (hb hby d_rmpt0s_1)).icmpNo X0 hx (hb hby d_rmpt0s_3) (XT.ii_ge_f hs)).aloadN X0 hx (hb hby d_rmpt0s_6) rfl rfl).iloadN X0 hx (hb hby d_rmpt0s_7) rfl).iloadN X0 hx (hb hby d_rmpt0s_8) rfl).i2c X0 hx (hb hby d_rmpt0s_9)
  obtain ⟨T21, h21, l21, X21, e21, W21, V21, N21, k21⟩ := k20.castore (i := 2) X0 hx hZ e0 V1 rfl rfl (by decide) (Nat.le_of_ble_eq_true rfl) N0 G1 (hb hby d_rmpt0s_10)
  have k21 : Go p e below m W T21 11 #[.val (.ref b1), .val (.int (2 : Int32)), .val (.int cc), .unset] [] := k21
  have Z21 : n0 ≤ h21.size := (Wr.size W21).symm ▸ Z0
  rw [own_nari] at V21
  have V21 : Arv Z h21 b1 k1 .char (4 : Int32) [(.int w0), (.int w1), (.int (cc).toUInt32.toUInt16.toUInt32.toInt32), (.int w3)] (.int (0 : Int32)) := V21
  have K21 : Keep h0 h21 [b1] := K0.wr W21 (Or.inl (List.mem_of_getElem? (i := 0) rfl))
  have k22 : Go p e below m W T21 14 #[.val (.ref b1), .val (.int (2 : Int32)), .val (.int cc), .unset] [(.int (3 : Int32))] := (((k21.iloadN X21 hx (hb hby d_rmpt0s_11) rfl).iconst X21 hx (hb hby d_rmpt0s_12) (v := (1 : Int32)) rfl).iadd X21 hx (hb hby d_rmpt0s_13)).cast (y := (3 : Int32)) (by decide)
  exact k22.ireturnI X21 hx Bd.returns (hb hby d_rmpt0s_14) (BodyLoose.notSynchronized Bd) (by rw [e21]; exact ⟨rfl, N21, K21, V21⟩) (by decide) (by decide)

theorem ef_rmpt2b (m : MethodId) (b1 : Addr) (cc : Int32) : entryFrame m #[(.ref b1), (.int (2 : Int32)), (.int cc)] 4 = mkF m 0 #[.val (.ref b1), .val (.int (2 : Int32)), .val (.int cc), .unset] [] := by first | (simp [entryFrame, mkF, argsToLocals, Value.category]; done) | rfl
def Q_rmpt2b (Z : State) (b1 : Addr) (cc : Int32) (k1 : ClassId) (w0 : Int32) (w1 : Int32) (w2 : Int32) (w3 : Int32) (h0 : Heap) (n0 : Nat) (v : Option Value) (h : Heap) (L : List Loc) : Prop := v = some (.int (4 : Int32)) ∧ Fr n0 L ∧ Keep h0 h [b1] ∧ Arv Z h b1 k1 .char (4 : Int32) [(.int w0), (.int w1), (.int (((55296 : Int32) + ((cc - (65536 : Int32)) >>> ((10 : Int32) &&& 31)))).toUInt32.toUInt16.toUInt32.toInt32), (.int (((56320 : Int32) + ((cc - (65536 : Int32)) &&& (1023 : Int32)))).toUInt32.toUInt16.toUInt32.toInt32)] (.int (0 : Int32))
set_option maxRecDepth 65536 in
set_option maxHeartbeats 40000000 in
theorem rmpt2b (l : Launch) (Z : State) (a0 : Array Value) (hw : ∀ d ∈ tables_1, d.before a0 Z = true) (ws : List Jvm.Cond) (b1 : Addr) (cc : Int32) (k1 : ClassId) (w0 : Int32) (w1 : Int32) (w2 : Int32) (w3 : Int32) (h0 : Heap) (n0 : Nat) (Z0 : n0 ≤ h0.size) (V1 : Arv Z h0 b1 k1 .char (4 : Int32) [(.int w0), (.int w1), (.int w2), (.int w3)] (.int (0 : Int32))) (G1 : n0 ≤ b1) (hs : ¬ (cc < (65536 : Int32))) :
    MetFree l (⟨"com/example/promovent/promovent/library/CodePointsComparePinLaw", "put", "([CII)I"⟩ : MethodName) (head1 (Jvm.Cond.code (⟨"com/example/promovent/promovent/library/CodePointsComparePinLaw", "put", "([CII)I"⟩ : MethodName) method_4_code 4 (some .int) :: ws) ({ frames := 0, cells := 0, slots := 0, locals := 0 } : Room)) (fun a U => a = #[(.ref b1), (.int (2 : Int32)), (.int cc)] ∧ Z.Warmed39 U.vm ∧ U.heap = h0) (fun _ _ _ _ _ => True) (fun _ U o U' => ∃ v L, o = .returned v ∧ Q_rmpt2b Z b1 cc k1 w0 w1 w2 w3 h0 n0 v U'.heap L ∧ FrameEnd U o U' L ({ frames := 0, cells := 0, slots := 0, locals := 0 } : Room).cells ({ frames := 0, cells := 0, slots := 0, locals := 0 } : Room).slots) := by
  refine MetFree.of_bodySF (plainFor_of_name pn_rmraw) hisR ?_
  intro p e s m args_ below meth c s₁ Bd hml0 hP hK
  obtain ⟨hargs, hZ, hh⟩ := hP
  have hx := Bd.exec
  have hby := Bd.bytes
  have hml : c.maxLocals = 4 := hml0
  have hown : s.vm.findClass "com/example/promovent/promovent/library/CodePointsComparePinLaw" = some m.cls := findClass_of_methodNamed Bd.named
  have hnm := (name_of_methodNamed Bd.named Bd.method).1
  have X0 : Stand p l e ({ frames := 0, cells := 0, slots := 0, locals := 0 } : Room) s m args_ below meth c s₁ [] 0 0 := Stand.of_body Bd
  have e0 : s₁.heap = h0 := by rw [← hh, Bd.state]; rfl
  have N0 := Fr.nil n0
  have hv : ∀ (i : Nat) {d : Jvm.Cond}, tables_1[i]? = some d → d.before a0 Z = true := fun i d q => hw d (List.mem_of_getElem? q)
  have K0 : Keep h0 h0 [b1] := Keep.refl _ _
  have k0 : Go p e below m (s₁.setTop (entryFrame m args_ 4)) s₁ 0 #[.val (.ref b1), .val (.int (2 : Int32)), .val (.int cc), .unset] [] := by rw [hargs]; exact fun t kt => castTop (ef_rmpt2b m b1 cc) kt
  obtain ⟨W, hWW⟩ : ∃ W, W = s₁.setTop (entryFrame m args_ 4) := ⟨_, rfl⟩
  rw [← hWW] at k0 ⊢
  show Done p e below s W (Q_rmpt2b Z b1 cc k1 w0 w1 w2 w3 h0 n0) ({ frames := 0, cells := 0, slots := 0, locals := 0 } : Room).cells ({ frames := 0, cells := 0, slots := 0, locals := 0 } : Room).slots
  have k20 : Go p e below m W s₁ 20 #[.val (.ref b1), .val (.int (2 : Int32)), .val (.int cc), .val (.int (cc - (65536 : Int32)))] [] := ((((((k0.iloadN X0 hx (hb hby d_rmpt0s_0) rfl).ldcI X0 hx hZ hown (hv 67 rfl) (hb hby d_rmpt0s_1)).icmpYes X0 hx (hb hby d_rmpt0s_3) (XT.ii_ge_t hs) (by decide) (by decide)).iloadN X0 hx (hb hby d_rmpt0s_15) rfl).ldcI X0 hx hZ hown (hv 67 rfl) (hb hby d_rmpt0s_16)).isub X0 hx (hb hby d_rmpt0s_18)).istoreN X0 hx (hb hby d_rmpt0s_19) rfl
  have k21 : Go p e below m W s₁ 30 #[.val (.ref b1), .val (.int (2 : Int32)), .val (.int cc), .val (.int (cc - (65536 : Int32)))] [(.int (((55296 : Int32) + ((cc - (65536 : Int32)) >>> ((10 : Int32) &&& 31)))).toUInt32.toUInt16.toUInt32.toInt32), (.int (2 : Int32)), (.ref b1)] := (((((((k20.aloadN X0 hx (hb hby d_rmpt0s_20) rfl rfl).iloadN X0 hx (hb hby d_rmpt0s_21) rfl).ldcI X0 hx hZ hown (hv 9 rfl) (hb hby d_rmpt0s_22)).iloadN X0 hx (hb hby d_rmpt0s_24) rfl).bipush X0 hx (hb hby d_rmpt0s_25) (v := (10 : Int32)) rfl).ishr X0 hx (hb hby d_rmpt0s_27)).iadd X0 hx (hb hby d_rmpt0s_28)).i2c X0 hx (hb hby d_rmpt0s_29)
  obtain ⟨T22, h22, l22, X22, e22, W22, V22, N22, k22⟩ := k21.castore (i := 2) X0 hx hZ e0 V1 rfl rfl (by decide) (Nat.le_of_ble_eq_true rfl) N0 G1 (hb hby d_rmpt0s_30)
  have k22 : Go p e below m W T22 31 #[.val (.ref b1), .val (.int (2 : Int32)), .val (.int cc), .val (.int (cc - (65536 : Int32)))] [] := k22
  have Z22 : n0 ≤ h22.size := (Wr.size W22).symm ▸ Z0
  rw [own_nari] at V22
  have V22 : Arv Z h22 b1 k1 .char (4 : Int32) [(.int w0), (.int w1), (.int (((55296 : Int32) + ((cc - (65536 : Int32)) >>> ((10 : Int32) &&& 31)))).toUInt32.toUInt16.toUInt32.toInt32), (.int w3)] (.int (0 : Int32)) := V22
  have K22 : Keep h0 h22 [b1] := K0.wr W22 (Or.inl (List.mem_of_getElem? (i := 0) rfl))
  have k23 : Go p e below m W T22 43 #[.val (.ref b1), .val (.int (2 : Int32)), .val (.int cc), .val (.int (cc - (65536 : Int32)))] [(.int ((56320 : Int32) + ((cc - (65536 : Int32)) &&& (1023 : Int32)))), (.int (3 : Int32)), (.ref b1)] := (((((((((k22.aloadN X22 hx (hb hby d_rmpt0s_31) rfl rfl).iloadN X22 hx (hb hby d_rmpt0s_32) rfl).iconst X22 hx (hb hby d_rmpt0s_33) (v := (1 : Int32)) rfl).iadd X22 hx (hb hby d_rmpt0s_34)).cast (y := (3 : Int32)) (by decide)).ldcI X22 hx hZ hown (hv 108 rfl) (hb hby d_rmpt0s_35)).iloadN X22 hx (hb hby d_rmpt0s_37) rfl).sipush X22 hx (hb hby d_rmpt0s_38) (v := (1023 : Int32)) rfl).iand X22 hx (hb hby d_rmpt0s_41)).iadd X22 hx (hb hby d_rmpt0s_42)
  have k24 : Go p e below m W T22 44 #[.val (.ref b1), .val (.int (2 : Int32)), .val (.int cc), .val (.int (cc - (65536 : Int32)))] [(.int (((56320 : Int32) + ((cc - (65536 : Int32)) &&& (1023 : Int32)))).toUInt32.toUInt16.toUInt32.toInt32), (.int (3 : Int32)), (.ref b1)] := k23.i2c X22 hx (hb hby d_rmpt0s_43)
  obtain ⟨T25, h25, l25, X25, e25, W25, V25, N25, k25⟩ := k24.castore (i := 3) X22 hx hZ e22 V22 rfl rfl (by decide) (Nat.le_of_ble_eq_true rfl) N22 G1 (hb hby d_rmpt0s_44)
  have k25 : Go p e below m W T25 45 #[.val (.ref b1), .val (.int (2 : Int32)), .val (.int cc), .val (.int (cc - (65536 : Int32)))] [] := k25
  have Z25 : n0 ≤ h25.size := (Wr.size W25).symm ▸ Z22
  rw [own_nari] at V25
  have V25 : Arv Z h25 b1 k1 .char (4 : Int32) [(.int w0), (.int w1), (.int (((55296 : Int32) + ((cc - (65536 : Int32)) >>> ((10 : Int32) &&& 31)))).toUInt32.toUInt16.toUInt32.toInt32), (.int (((56320 : Int32) + ((cc - (65536 : Int32)) &&& (1023 : Int32)))).toUInt32.toUInt16.toUInt32.toInt32)] (.int (0 : Int32)) := V25
  have K25 : Keep h0 h25 [b1] := K22.wr W25 (Or.inl (List.mem_of_getElem? (i := 0) rfl))
  have k26 : Go p e below m W T25 48 #[.val (.ref b1), .val (.int (2 : Int32)), .val (.int cc), .val (.int (cc - (65536 : Int32)))] [(.int (4 : Int32))] := (((k25.iloadN X25 hx (hb hby d_rmpt0s_45) rfl).iconst X25 hx (hb hby d_rmpt0s_46) (v := (2 : Int32)) rfl).iadd X25 hx (hb hby d_rmpt0s_47)).cast (y := (4 : Int32)) (by decide)
  exact k26.ireturnI X25 hx Bd.returns (hb hby d_rmpt0s_48) (BodyLoose.notSynchronized Bd) (by rw [e25]; exact ⟨rfl, N25, K25, V25⟩) (by decide) (by decide)

theorem d_rmen_0 : decode method_6_code 0 = .ok (.iconst 4, 1) := by decide +kernel
theorem d_rmen_1 : decode method_6_code 1 = .ok (.newarray .char, 2) := by decide +kernel
theorem d_rmen_3 : decode method_6_code 3 = .ok (.astore_n 3, 1) := by decide +kernel
theorem d_rmen_4 : decode method_6_code 4 = .ok (.iconst 0, 1) := by decide +kernel
theorem d_rmen_5 : decode method_6_code 5 = .ok (.istore 4, 2) := by decide +kernel
theorem d_rmen_7 : decode method_6_code 7 = .ok (.iload_n 2, 1) := by decide +kernel
theorem d_rmen_8 : decode method_6_code 8 = .ok (.iconst 1, 1) := by decide +kernel
theorem d_rmen_9 : decode method_6_code 9 = .ok (.if_icmp .lt 12, 3) := by decide +kernel
theorem d_rmen_12 : decode method_6_code 12 = .ok (.aload_n 3, 1) := by decide +kernel
theorem d_rmen_13 : decode method_6_code 13 = .ok (.iload 4, 2) := by decide +kernel
theorem d_rmen_15 : decode method_6_code 15 = .ok (.iload_n 0, 1) := by decide +kernel
theorem d_rmen_16 : decode method_6_code 16 = .ok (.invokestatic 19, 3) := by decide +kernel
theorem d_rmen_19 : decode method_6_code 19 = .ok (.istore 4, 2) := by decide +kernel
theorem d_rmen_21 : decode method_6_code 21 = .ok (.iload_n 2, 1) := by decide +kernel
theorem d_rmen_22 : decode method_6_code 22 = .ok (.iconst 2, 1) := by decide +kernel
theorem d_rmen_23 : decode method_6_code 23 = .ok (.if_icmp .lt 12, 3) := by decide +kernel
theorem d_rmen_26 : decode method_6_code 26 = .ok (.aload_n 3, 1) := by decide +kernel
theorem d_rmen_27 : decode method_6_code 27 = .ok (.iload 4, 2) := by decide +kernel
theorem d_rmen_29 : decode method_6_code 29 = .ok (.iload_n 1, 1) := by decide +kernel
theorem d_rmen_30 : decode method_6_code 30 = .ok (.invokestatic 19, 3) := by decide +kernel
theorem d_rmen_33 : decode method_6_code 33 = .ok (.istore 4, 2) := by decide +kernel
theorem d_rmen_35 : decode method_6_code 35 = .ok (.aload_n 3, 1) := by decide +kernel
theorem d_rmen_36 : decode method_6_code 36 = .ok (.iload 4, 2) := by decide +kernel
theorem d_rmen_38 : decode method_6_code 38 = .ok (.invokestatic 23, 3) := by decide +kernel
theorem d_rmen_41 : decode method_6_code 41 = .ok (.areturn, 1) := by decide +kernel
theorem pd_rmen_0 : parseMethodDescriptor "([CI)Ljava/lang/String;" = some ⟨[(.array .char), .int], (some (.object "java/lang/String"))⟩ := by decide +kernel
theorem pd_rmen_1 : parseMethodDescriptor "([CII)I" = some ⟨[(.array .char), .int, .int], (some .int)⟩ := by decide +kernel
theorem ef_rmen (m : MethodId) (p1 : Int32) (p2 : Int32) (p3 : Int32) : entryFrame m #[(.int p1), (.int p2), (.int p3)] 5 = mkF m 0 #[.val (.int p1), .val (.int p2), .val (.int p3), .unset, .unset] [] := by first | (simp [entryFrame, mkF, argsToLocals, Value.category]; done) | rfl
def Q_rmen (Z : State) (p1 : Int32) (p2 : Int32) (p3 : Int32) (cz : Int32) (h0 : Heap) (n0 : Nat) (v : Option Value) (h : Heap) (L : List Loc) : Prop := ∃ (ro : Addr), v = some (.ref ro) ∧ Fr n0 L ∧ Keep h0 h [] ∧ Exa Z h ro "java/lang/String" ∧ own_Str Z h ro (own_enc p1 p2 p3) ∧ n0 ≤ ro ∧ h0.size ≤ ro
set_option maxRecDepth 65536 in
set_option maxHeartbeats 40000000 in
theorem rmen (l : Launch) (Z : State) (a0 : Array Value) (hw : ∀ d ∈ tables_1, d.before a0 Z = true) (ws : List Jvm.Cond) (p1 : Int32) (p2 : Int32) (p3 : Int32) (cz : Int32) (h0 : Heap) (n0 : Nat) (Z0 : n0 ≤ h0.size) (O0 : Old Z n0 h0) (SCZ : Sta Z Z.heap "java/lang/String" "COMPACT_STRINGS" "Z" (.int cz)) (hcz : ¬ (cz = (0 : Int32))) (SAD : Sta Z Z.heap "java/lang/StringUTF16" "$assertionsDisabled" "Z" (.int (1 : Int32))) (SHI : Sta Z Z.heap "java/lang/StringUTF16" "HI_BYTE_SHIFT" "I" (.int (0 : Int32))) (SLO : Sta Z Z.heap "java/lang/StringUTF16" "LO_BYTE_SHIFT" "I" (.int (8 : Int32))) :
    MetFree l (⟨"com/example/promovent/promovent/library/CodePointsComparePinLaw", "encode", "(III)Ljava/lang/String;"⟩ : MethodName) (head1 (Jvm.Cond.code (⟨"com/example/promovent/promovent/library/CodePointsComparePinLaw", "encode", "(III)Ljava/lang/String;"⟩ : MethodName) method_6_code 5 (some (.object "java/lang/String")) :: ws) ({ frames := 7, cells := 7, slots := 24, locals := 101 } : Room)) (fun a U => a = #[(.int p1), (.int p2), (.int p3)] ∧ Z.Warmed39 U.vm ∧ U.heap = h0 ∧ CHv Z own_L U.vm h0 ∧ ∀ x ∈ ([] : List Addr), Safe Z own_L U.vm h0 x) (fun _ _ _ _ _ => True) (fun _ U o U' => ∃ v L, o = .returned v ∧ Q_rmen Z p1 p2 p3 cz h0 n0 v U'.heap L ∧ CHr Z own_L U.vm U.heap U'.vm U'.heap ∧ ReturnedEndW U o U' L ({ frames := 7, cells := 7, slots := 24, locals := 101 } : Room).cells ({ frames := 7, cells := 7, slots := 24, locals := 101 } : Room).slots) := by
  refine MetFree.of_bodySF (plainFor_of_name pn_rmraw) hisR ?_
  intro p e s m args_ below meth c s₁ Bd hml0 hP hK
  obtain ⟨hargs, hZ, hh, hcv, hsf0⟩ := hP
  have hx := Bd.exec
  have hby := Bd.bytes
  have hml : c.maxLocals = 5 := hml0
  have hown : s.vm.findClass "com/example/promovent/promovent/library/CodePointsComparePinLaw" = some m.cls := findClass_of_methodNamed Bd.named
  have hnm := (name_of_methodNamed Bd.named Bd.method).1
  have X0 : Stand p l e ({ frames := 7, cells := 7, slots := 24, locals := 101 } : Room) (s.setVm s.vm) m args_ below meth c s₁ [] 0 0 := Stand.of_body Bd
  have e0 : s₁.heap = h0 := by rw [← hh, Bd.state]; rfl
  have N0 := Fr.nil n0
  have C0 : CHr Z own_L s.vm h0 s.vm h0 := CHr.refl hcv
  have hS0 : s.Since s.vm h0.size := (State.WarmedH.refl s).since _
  have hk0 : h0.size ≤ h0.size := Nat.le_refl _
  have own_EL : EW Z a0 own_L := own_EL0 hw
  have own_sa : ∀ a ∈ Bundle.stringAtoms, a.before a0 Z = true := own_sa0 hw
  have hv : ∀ (i : Nat) {d : Jvm.Cond}, tables_1[i]? = some d → d.before a0 Z = true := fun i d q => hw d (List.mem_of_getElem? q)
  have K0 : Keep h0 h0 [] := Keep.refl _ _
  have k0 : Go p e below m (s₁.setTop (entryFrame m args_ 5)) s₁ 0 #[.val (.int p1), .val (.int p2), .val (.int p3), .unset, .unset] [] := by rw [hargs]; exact fun t kt => castTop (ef_rmen m p1 p2 p3) kt
  obtain ⟨W, hWW⟩ : ∃ W, W = s₁.setTop (entryFrame m args_ 5) := ⟨_, rfl⟩
  rw [← hWW] at k0 ⊢
  show DoneS p e below Z own_L s W (Q_rmen Z p1 p2 p3 cz h0 n0) ({ frames := 7, cells := 7, slots := 24, locals := 101 } : Room).cells ({ frames := 7, cells := 7, slots := 24, locals := 101 } : Room).slots
  have k20 : Go p e below m W s₁ 1 #[.val (.int p1), .val (.int p2), .val (.int p3), .unset, .unset] [(.int (4 : Int32))] := k0.iconst X0 hx (hb hby d_rmen_0) (v := (4 : Int32)) rfl
  obtain ⟨T21, h21, b21, c21, X21, e21, g21, E21, A21, k21⟩ := k20.newP (cap := 4) (cells' := 1) (slots' := 4) X0 hx hZ (hv 13 rfl) e0 (hb hby d_rmen_1) (by decide) (by decide) (by decide) rfl rfl (by decide) (by decide)
  have k21 : Go p e below m W T21 3 #[.val (.int p1), .val (.int p2), .val (.int p3), .unset, .unset] [(.ref b21)] := k21
  have Z21 : n0 ≤ h21.size := Nat.le_trans Z0 E21.1
  have G21 : n0 ≤ b21 := g21 ▸ Z0
  have H21 : h0.size ≤ b21 := g21 ▸ K0.1
  have K21 : Keep h0 h21 [] := K0.ext E21
  have DC21 := CHr.ext E21 C0.1
  have C21 := C0.trans DC21
  have hk21 : _ ≤ h21.size := Nat.le_trans hk0 DC21.2.1
  have V21 : Arv Z h21 b21 c21 .char (4 : Int32) [(.int (0 : Int32)), (.int (0 : Int32)), (.int (0 : Int32)), (.int (0 : Int32))] (.int (0 : Int32)) := A21 4
  have k22 : Go p e below m W T21 4 #[.val (.int p1), .val (.int p2), .val (.int p3), .val (.ref b21), .unset] [] := k21.astoreN X21 hx (hb hby d_rmen_3) rfl rfl
  have k23 : Go p e below m W T21 7 #[.val (.int p1), .val (.int p2), .val (.int p3), .val (.ref b21), .val (.int (0 : Int32))] [] := (k22.iconst X21 hx (hb hby d_rmen_4) (v := (0 : Int32)) rfl).istore X21 hx (hb hby d_rmen_5) rfl
  have k24 : Go p e below m W T21 9 #[.val (.int p1), .val (.int p2), .val (.int p3), .val (.ref b21), .val (.int (0 : Int32))] [(.int (1 : Int32)), (.int p3)] := (k23.iloadN X21 hx (hb hby d_rmen_7) rfl).iconst X21 hx (hb hby d_rmen_8) (v := (1 : Int32)) rfl
  by_cases hc9_25 : p3 < (1 : Int32)
  ·
    have k26 : Go p e below m W T21 38 #[.val (.int p1), .val (.int p2), .val (.int p3), .val (.ref b21), .val (.int (0 : Int32))] [(.int (0 : Int32)), (.ref b21)] := (((((k24.icmpYes X21 hx (hb hby d_rmen_9) (XT.ii_lt_t hc9_25) (by decide) (by decide)).iloadN X21 hx (hb hby d_rmen_21) rfl).iconst X21 hx (hb hby d_rmen_22) (v := (2 : Int32)) rfl).icmpYes X21 hx (hb hby d_rmen_23) (XT.ii_lt_t (Int32.lt_trans hc9_25 (by decide))) (by decide) (by decide)).aloadN X21 hx (hb hby d_rmen_35) rfl rfl).iload X21 hx (hb hby d_rmen_36) rfl
    have g_1 := O0.ext E21
    obtain ⟨T27, v27, L27, X27, Q27, D27, hS27, hZ27, hown27, k27⟩ := k26.statS (y := (⟨"com/example/promovent/promovent/library/CodePointsComparePinLaw", "make", "([CI)Ljava/lang/String;"⟩ : MethodName)) (Wd := 0) (cells' := 7) (slots' := 16) (xs := []) (argsL := [(.ref b21), (.int (0 : Int32))]) (rest := []) X21 hx hZ hown (by rw [hml]; rfl) (hv 14 rfl) (hv 15 rfl) (hv 16 rfl) (hv 2 rfl) (hb hby d_rmen_38) (by decide) hS0 hk21 own_EL C21.1 sf0 (rmmk0 l Z a0 hw [] b21 c21 (0 : Int32) (0 : Int32) (0 : Int32) (0 : Int32) cz h21 n0 Z21 g_1 SCZ hcz SAD SHI SLO V21) e21 rfl rfl pd_rmen_0 rfl (Nat.le_of_eq rfl) (by decide) (by decide) rfl rfl (by decide) (by decide)
    obtain ⟨ro_27, rfl, Nq27, Kq27, q27_0, q27_1, q27_2, q27_3⟩ := Q27
    have N27 := Fr.app N0 Nq27
    obtain ⟨h27, e27⟩ : ∃ h, T27.heap = h := ⟨_, rfl⟩
    rw [e27] at Kq27 q27_0 q27_1
    have Z27 : n0 ≤ h27.size := Nat.le_trans Z21 Kq27.1
    have K27 : Keep h0 h27 [] := K21.trans Kq27 (fun x q => absurd q List.not_mem_nil)
    have H28 : h0.size ≤ ro_27 := Nat.le_trans K21.1 q27_3
    have k27 : Go p e below m W T27 41 #[.val (.int p1), .val (.int p2), .val (.int p3), .val (.ref b21), .val (.int (0 : Int32))] [(.ref ro_27)] := k27
    rw [e27] at D27 hS27
    have C27 := C21.trans D27
    have et29 : own_enc p1 p2 p3 = [] := by rw [own_enc, if_pos hc9_25]
    have st29 : own_Str Z h27 ro_27 (own_enc p1 p2 p3) := by rw [et29]; exact q27_1
    exact k27.areturnS X27 hx hZ27 own_EL hS27 (Nat.le_refl _) e27 (by rw [hh]; exact C27) Bd.returns rfl rfl (hb hby d_rmen_41) (BodyLoose.notSynchronized Bd) (by rw [e27]; exact ⟨ro_27, rfl, N27, K27, q27_0, st29, q27_2, H28⟩) (by decide) (by decide)
  ·
    have k30 : Go p e below m W T21 16 #[.val (.int p1), .val (.int p2), .val (.int p3), .val (.ref b21), .val (.int (0 : Int32))] [(.int p1), (.int (0 : Int32)), (.ref b21)] := (((k24.icmpNo X21 hx (hb hby d_rmen_9) (XT.ii_lt_f hc9_25)).aloadN X21 hx (hb hby d_rmen_12) rfl rfl).iload X21 hx (hb hby d_rmen_13) rfl).iloadN X21 hx (hb hby d_rmen_15) rfl
    by_cases hf16_31 : p1 < (65536 : Int32)
    ·
      obtain ⟨T32, v32, L32, X32, Q32, k32⟩ := k30.stat (y := (⟨"com/example/promovent/promovent/library/CodePointsComparePinLaw", "put", "([CII)I"⟩ : MethodName)) (Wd := 0) (cells' := 1) (slots' := 4) (argsL := [(.ref b21), (.int (0 : Int32)), (.int p1)]) (rest := []) X21 hx hZ hown (by rw [hml]; rfl) (hv 64 rfl) (hv 65 rfl) (hv 66 rfl) (hv 2 rfl) (hb hby d_rmen_16) (by decide) (rmpt0s l Z a0 hw [] b21 p1 c21 (0 : Int32) (0 : Int32) (0 : Int32) (0 : Int32) h21 n0 Z21 V21 G21 hf16_31) e21 rfl rfl pd_rmen_1 rfl (Nat.le_of_eq rfl) (by decide) (by decide) rfl rfl (by decide) (by decide)
      obtain ⟨rfl, Nq32, Kq32, q32_0⟩ := Q32
      have N32 := Fr.app N0 Nq32
      obtain ⟨h32, e32⟩ : ∃ h, T32.heap = h := ⟨_, rfl⟩
      rw [e32] at Kq32 q32_0
      have Z32 : n0 ≤ h32.size := Nat.le_trans Z21 Kq32.1
      have g_2 := Safe.ext E21 C0.1 (Safe.new (x := b21) (Nat.le_of_eq g21.symm))
      have DC32 := CHr.keep Kq32 (sfS g_2 sf0) C21.1
      have C32 := C21.trans DC32
      have hk32 : _ ≤ h32.size := Nat.le_trans hk21 DC32.2.1
      have K32 : Keep h0 h32 [] := K21.trans Kq32 (by intro x q; simp only [List.mem_cons, List.not_mem_nil, or_false] at q; rcases q with rfl; exact (Or.inr H21))
      have k32 : Go p e below m W T32 19 #[.val (.int p1), .val (.int p2), .val (.int p3), .val (.ref b21), .val (.int (0 : Int32))] [(.int (1 : Int32))] := k32
      have k33 : Go p e below m W T32 21 #[.val (.int p1), .val (.int p2), .val (.int p3), .val (.ref b21), .val (.int (1 : Int32))] [] := k32.istore X32 hx (hb hby d_rmen_19) rfl
      have k34 : Go p e below m W T32 23 #[.val (.int p1), .val (.int p2), .val (.int p3), .val (.ref b21), .val (.int (1 : Int32))] [(.int (2 : Int32)), (.int p3)] := (k33.iloadN X32 hx (hb hby d_rmen_21) rfl).iconst X32 hx (hb hby d_rmen_22) (v := (2 : Int32)) rfl
      by_cases hc23_35 : p3 < (2 : Int32)
      ·
        have k36 : Go p e below m W T32 38 #[.val (.int p1), .val (.int p2), .val (.int p3), .val (.ref b21), .val (.int (1 : Int32))] [(.int (1 : Int32)), (.ref b21)] := ((k34.icmpYes X32 hx (hb hby d_rmen_23) (XT.ii_lt_t hc23_35) (by decide) (by decide)).aloadN X32 hx (hb hby d_rmen_35) rfl rfl).iload X32 hx (hb hby d_rmen_36) rfl
        have g_3 := (O0.ext E21).keep Kq32 (by intro x q; simp only [List.mem_cons, List.not_mem_nil, or_false] at q; rcases q with rfl; exact G21)
        obtain ⟨T37, v37, L37, X37, Q37, k37⟩ := k36.stat (y := (⟨"com/example/promovent/promovent/library/CodePointsComparePinLaw", "make", "([CI)Ljava/lang/String;"⟩ : MethodName)) (Wd := 0) (cells' := 5) (slots' := 12) (argsL := [(.ref b21), (.int (1 : Int32))]) (rest := []) X32 hx hZ hown (by rw [hml]; rfl) (hv 14 rfl) (hv 15 rfl) (hv 16 rfl) (hv 2 rfl) (hb hby d_rmen_38) (by decide) (rmmk1 l Z a0 hw [] b21 c21 (p1).toUInt32.toUInt16.toUInt32.toInt32 (0 : Int32) (0 : Int32) (0 : Int32) cz h32 n0 Z32 g_3 SCZ hcz SAD SHI SLO q32_0 (own_rki _)) e32 rfl rfl pd_rmen_0 rfl (Nat.le_of_eq rfl) (by decide) (by decide) rfl rfl (by decide) (by decide)
        obtain ⟨ro_37, rfl, Nq37, Kq37, q37_0, q37_1, q37_2, q37_3⟩ := Q37
        have N37 := Fr.app N32 Nq37
        obtain ⟨h37, e37⟩ : ∃ h, T37.heap = h := ⟨_, rfl⟩
        rw [e37] at Kq37 q37_0 q37_1
        have Z37 : n0 ≤ h37.size := Nat.le_trans Z32 Kq37.1
        have DC37 := CHr.keep Kq37 sf0 C32.1
        have C37 := C32.trans DC37
        have hk37 : _ ≤ h37.size := Nat.le_trans hk32 DC37.2.1
        have K37 : Keep h0 h37 [] := K32.trans Kq37 (fun x q => absurd q List.not_mem_nil)
        have H38 : h0.size ≤ ro_37 := Nat.le_trans K32.1 q37_3
        have k37 : Go p e below m W T37 41 #[.val (.int p1), .val (.int p2), .val (.int p3), .val (.ref b21), .val (.int (1 : Int32))] [(.ref ro_37)] := k37
        have et39 : own_enc p1 p2 p3 = [(p1).toUInt32.toUInt16.toUInt32.toInt32] := by rw [own_enc, if_neg hc9_25, if_pos hc23_35, own_put_s hf16_31]
        have st39 : own_Str Z h37 ro_37 (own_enc p1 p2 p3) := by rw [et39]; exact q37_1
        exact k37.areturnS X37 hx hZ own_EL hS0 hk37 e37 (by rw [hh]; exact C37) Bd.returns rfl rfl (hb hby d_rmen_41) (BodyLoose.notSynchronized Bd) (by rw [e37]; exact ⟨ro_37, rfl, N37, K37, q37_0, st39, q37_2, H38⟩) (by decide) (by decide)
      ·
        have k40 : Go p e below m W T32 30 #[.val (.int p1), .val (.int p2), .val (.int p3), .val (.ref b21), .val (.int (1 : Int32))] [(.int p2), (.int (1 : Int32)), (.ref b21)] := (((k34.icmpNo X32 hx (hb hby d_rmen_23) (XT.ii_lt_f hc23_35)).aloadN X32 hx (hb hby d_rmen_26) rfl rfl).iload X32 hx (hb hby d_rmen_27) rfl).iloadN X32 hx (hb hby d_rmen_29) rfl
        by_cases hf30_41 : p2 < (65536 : Int32)
        ·
          obtain ⟨T42, v42, L42, X42, Q42, k42⟩ := k40.stat (y := (⟨"com/example/promovent/promovent/library/CodePointsComparePinLaw", "put", "([CII)I"⟩ : MethodName)) (Wd := 0) (cells' := 1) (slots' := 4) (argsL := [(.ref b21), (.int (1 : Int32)), (.int p2)]) (rest := []) X32 hx hZ hown (by rw [hml]; rfl) (hv 64 rfl) (hv 65 rfl) (hv 66 rfl) (hv 2 rfl) (hb hby d_rmen_30) (by decide) (rmpt1s l Z a0 hw [] b21 p2 c21 (p1).toUInt32.toUInt16.toUInt32.toInt32 (0 : Int32) (0 : Int32) (0 : Int32) h32 n0 Z32 q32_0 G21 hf30_41) e32 rfl rfl pd_rmen_1 rfl (Nat.le_of_eq rfl) (by decide) (by decide) rfl rfl (by decide) (by decide)
          obtain ⟨rfl, Nq42, Kq42, q42_0⟩ := Q42
          have N42 := Fr.app N32 Nq42
          obtain ⟨h42, e42⟩ : ∃ h, T42.heap = h := ⟨_, rfl⟩
          rw [e42] at Kq42 q42_0
          have Z42 : n0 ≤ h42.size := Nat.le_trans Z32 Kq42.1
          have g_4 := DC32.safe V21.lt g_2
          have DC42 := CHr.keep Kq42 (sfS g_4 sf0) C32.1
          have C42 := C32.trans DC42
          have hk42 : _ ≤ h42.size := Nat.le_trans hk32 DC42.2.1
          have K42 : Keep h0 h42 [] := K32.trans Kq42 (by intro x q; simp only [List.mem_cons, List.not_mem_nil, or_false] at q; rcases q with rfl; exact (Or.inr H21))
          have k42 : Go p e below m W T42 33 #[.val (.int p1), .val (.int p2), .val (.int p3), .val (.ref b21), .val (.int (1 : Int32))] [(.int (2 : Int32))] := k42
          have k43 : Go p e below m W T42 35 #[.val (.int p1), .val (.int p2), .val (.int p3), .val (.ref b21), .val (.int (2 : Int32))] [] := k42.istore X42 hx (hb hby d_rmen_33) rfl
          have k44 : Go p e below m W T42 38 #[.val (.int p1), .val (.int p2), .val (.int p3), .val (.ref b21), .val (.int (2 : Int32))] [(.int (2 : Int32)), (.ref b21)] := (k43.aloadN X42 hx (hb hby d_rmen_35) rfl rfl).iload X42 hx (hb hby d_rmen_36) rfl
          have g_5 := ((O0.ext E21).keep Kq32 (by intro x q; simp only [List.mem_cons, List.not_mem_nil, or_false] at q; rcases q with rfl; exact G21)).keep Kq42 (by intro x q; simp only [List.mem_cons, List.not_mem_nil, or_false] at q; rcases q with rfl; exact G21)
          obtain ⟨T45, v45, L45, X45, Q45, k45⟩ := k44.stat (y := (⟨"com/example/promovent/promovent/library/CodePointsComparePinLaw", "make", "([CI)Ljava/lang/String;"⟩ : MethodName)) (Wd := 0) (cells' := 5) (slots' := 16) (argsL := [(.ref b21), (.int (2 : Int32))]) (rest := []) X42 hx hZ hown (by rw [hml]; rfl) (hv 14 rfl) (hv 15 rfl) (hv 16 rfl) (hv 2 rfl) (hb hby d_rmen_38) (by decide) (rmmk2 l Z a0 hw [] b21 c21 (p1).toUInt32.toUInt16.toUInt32.toInt32 (p2).toUInt32.toUInt16.toUInt32.toInt32 (0 : Int32) (0 : Int32) cz h42 n0 Z42 g_5 SCZ hcz SAD SHI SLO q42_0 (own_rki _) (own_rki _)) e42 rfl rfl pd_rmen_0 rfl (Nat.le_of_eq rfl) (by decide) (by decide) rfl rfl (by decide) (by decide)
          obtain ⟨ro_45, rfl, Nq45, Kq45, q45_0, q45_1, q45_2, q45_3⟩ := Q45
          have N45 := Fr.app N42 Nq45
          obtain ⟨h45, e45⟩ : ∃ h, T45.heap = h := ⟨_, rfl⟩
          rw [e45] at Kq45 q45_0 q45_1
          have Z45 : n0 ≤ h45.size := Nat.le_trans Z42 Kq45.1
          have DC45 := CHr.keep Kq45 sf0 C42.1
          have C45 := C42.trans DC45
          have hk45 : _ ≤ h45.size := Nat.le_trans hk42 DC45.2.1
          have K45 : Keep h0 h45 [] := K42.trans Kq45 (fun x q => absurd q List.not_mem_nil)
          have H46 : h0.size ≤ ro_45 := Nat.le_trans K42.1 q45_3
          have k45 : Go p e below m W T45 41 #[.val (.int p1), .val (.int p2), .val (.int p3), .val (.ref b21), .val (.int (2 : Int32))] [(.ref ro_45)] := k45
          have et47 : own_enc p1 p2 p3 = [(p1).toUInt32.toUInt16.toUInt32.toInt32, (p2).toUInt32.toUInt16.toUInt32.toInt32] := by rw [own_enc, if_neg hc9_25, if_neg hc23_35, own_put_s hf16_31, own_put_s hf30_41]; rfl
          have st47 : own_Str Z h45 ro_45 (own_enc p1 p2 p3) := by rw [et47]; exact q45_1
          exact k45.areturnS X45 hx hZ own_EL hS0 hk45 e45 (by rw [hh]; exact C45) Bd.returns rfl rfl (hb hby d_rmen_41) (BodyLoose.notSynchronized Bd) (by rw [e45]; exact ⟨ro_45, rfl, N45, K45, q45_0, st47, q45_2, H46⟩) (by decide) (by decide)
        ·
          obtain ⟨T48, v48, L48, X48, Q48, k48⟩ := k40.stat (y := (⟨"com/example/promovent/promovent/library/CodePointsComparePinLaw", "put", "([CII)I"⟩ : MethodName)) (Wd := 0) (cells' := 1) (slots' := 4) (argsL := [(.ref b21), (.int (1 : Int32)), (.int p2)]) (rest := []) X32 hx hZ hown (by rw [hml]; rfl) (hv 64 rfl) (hv 65 rfl) (hv 66 rfl) (hv 2 rfl) (hb hby d_rmen_30) (by decide) (rmpt1b l Z a0 hw [] b21 p2 c21 (p1).toUInt32.toUInt16.toUInt32.toInt32 (0 : Int32) (0 : Int32) (0 : Int32) h32 n0 Z32 q32_0 G21 hf30_41) e32 rfl rfl pd_rmen_1 rfl (Nat.le_of_eq rfl) (by decide) (by decide) rfl rfl (by decide) (by decide)
          obtain ⟨rfl, Nq48, Kq48, q48_0⟩ := Q48
          have N48 := Fr.app N32 Nq48
          obtain ⟨h48, e48⟩ : ∃ h, T48.heap = h := ⟨_, rfl⟩
          rw [e48] at Kq48 q48_0
          have Z48 : n0 ≤ h48.size := Nat.le_trans Z32 Kq48.1
          have g_6 := DC32.safe V21.lt g_2
          have DC48 := CHr.keep Kq48 (sfS g_6 sf0) C32.1
          have C48 := C32.trans DC48
          have hk48 : _ ≤ h48.size := Nat.le_trans hk32 DC48.2.1
          have K48 : Keep h0 h48 [] := K32.trans Kq48 (by intro x q; simp only [List.mem_cons, List.not_mem_nil, or_false] at q; rcases q with rfl; exact (Or.inr H21))
          have k48 : Go p e below m W T48 33 #[.val (.int p1), .val (.int p2), .val (.int p3), .val (.ref b21), .val (.int (1 : Int32))] [(.int (3 : Int32))] := k48
          have k49 : Go p e below m W T48 35 #[.val (.int p1), .val (.int p2), .val (.int p3), .val (.ref b21), .val (.int (3 : Int32))] [] := k48.istore X48 hx (hb hby d_rmen_33) rfl
          have k50 : Go p e below m W T48 38 #[.val (.int p1), .val (.int p2), .val (.int p3), .val (.ref b21), .val (.int (3 : Int32))] [(.int (3 : Int32)), (.ref b21)] := (k49.aloadN X48 hx (hb hby d_rmen_35) rfl rfl).iload X48 hx (hb hby d_rmen_36) rfl
          have g_7 := ((O0.ext E21).keep Kq32 (by intro x q; simp only [List.mem_cons, List.not_mem_nil, or_false] at q; rcases q with rfl; exact G21)).keep Kq48 (by intro x q; simp only [List.mem_cons, List.not_mem_nil, or_false] at q; rcases q with rfl; exact G21)
          obtain ⟨T51, v51, L51, X51, Q51, k51⟩ := k50.stat (y := (⟨"com/example/promovent/promovent/library/CodePointsComparePinLaw", "make", "([CI)Ljava/lang/String;"⟩ : MethodName)) (Wd := 0) (cells' := 5) (slots' := 20) (argsL := [(.ref b21), (.int (3 : Int32))]) (rest := []) X48 hx hZ hown (by rw [hml]; rfl) (hv 14 rfl) (hv 15 rfl) (hv 16 rfl) (hv 2 rfl) (hb hby d_rmen_38) (by decide) (rmmk3 l Z a0 hw [] b21 c21 (p1).toUInt32.toUInt16.toUInt32.toInt32 (((55296 : Int32) + ((p2 - (65536 : Int32)) >>> ((10 : Int32) &&& 31)))).toUInt32.toUInt16.toUInt32.toInt32 (((56320 : Int32) + ((p2 - (65536 : Int32)) &&& (1023 : Int32)))).toUInt32.toUInt16.toUInt32.toInt32 (0 : Int32) cz h48 n0 Z48 g_7 SCZ hcz SAD SHI SLO q48_0 (own_rki _) (own_rki _) (own_rki _)) e48 rfl rfl pd_rmen_0 rfl (Nat.le_of_eq rfl) (by decide) (by decide) rfl rfl (by decide) (by decide)
          obtain ⟨ro_51, rfl, Nq51, Kq51, q51_0, q51_1, q51_2, q51_3⟩ := Q51
          have N51 := Fr.app N48 Nq51
          obtain ⟨h51, e51⟩ : ∃ h, T51.heap = h := ⟨_, rfl⟩
          rw [e51] at Kq51 q51_0 q51_1
          have Z51 : n0 ≤ h51.size := Nat.le_trans Z48 Kq51.1
          have DC51 := CHr.keep Kq51 sf0 C48.1
          have C51 := C48.trans DC51
          have hk51 : _ ≤ h51.size := Nat.le_trans hk48 DC51.2.1
          have K51 : Keep h0 h51 [] := K48.trans Kq51 (fun x q => absurd q List.not_mem_nil)
          have H52 : h0.size ≤ ro_51 := Nat.le_trans K48.1 q51_3
          have k51 : Go p e below m W T51 41 #[.val (.int p1), .val (.int p2), .val (.int p3), .val (.ref b21), .val (.int (3 : Int32))] [(.ref ro_51)] := k51
          have et53 : own_enc p1 p2 p3 = [(p1).toUInt32.toUInt16.toUInt32.toInt32, (((55296 : Int32) + ((p2 - (65536 : Int32)) >>> ((10 : Int32) &&& 31)))).toUInt32.toUInt16.toUInt32.toInt32, (((56320 : Int32) + ((p2 - (65536 : Int32)) &&& (1023 : Int32)))).toUInt32.toUInt16.toUInt32.toInt32] := by rw [own_enc, if_neg hc9_25, if_neg hc23_35, own_put_s hf16_31, own_put_b hf30_41]; rfl
          have st53 : own_Str Z h51 ro_51 (own_enc p1 p2 p3) := by rw [et53]; exact q51_1
          exact k51.areturnS X51 hx hZ own_EL hS0 hk51 e51 (by rw [hh]; exact C51) Bd.returns rfl rfl (hb hby d_rmen_41) (BodyLoose.notSynchronized Bd) (by rw [e51]; exact ⟨ro_51, rfl, N51, K51, q51_0, st53, q51_2, H52⟩) (by decide) (by decide)
    ·
      obtain ⟨T54, v54, L54, X54, Q54, k54⟩ := k30.stat (y := (⟨"com/example/promovent/promovent/library/CodePointsComparePinLaw", "put", "([CII)I"⟩ : MethodName)) (Wd := 0) (cells' := 1) (slots' := 4) (argsL := [(.ref b21), (.int (0 : Int32)), (.int p1)]) (rest := []) X21 hx hZ hown (by rw [hml]; rfl) (hv 64 rfl) (hv 65 rfl) (hv 66 rfl) (hv 2 rfl) (hb hby d_rmen_16) (by decide) (rmpt0b l Z a0 hw [] b21 p1 c21 (0 : Int32) (0 : Int32) (0 : Int32) (0 : Int32) h21 n0 Z21 V21 G21 hf16_31) e21 rfl rfl pd_rmen_1 rfl (Nat.le_of_eq rfl) (by decide) (by decide) rfl rfl (by decide) (by decide)
      obtain ⟨rfl, Nq54, Kq54, q54_0⟩ := Q54
      have N54 := Fr.app N0 Nq54
      obtain ⟨h54, e54⟩ : ∃ h, T54.heap = h := ⟨_, rfl⟩
      rw [e54] at Kq54 q54_0
      have Z54 : n0 ≤ h54.size := Nat.le_trans Z21 Kq54.1
      have g_8 := Safe.ext E21 C0.1 (Safe.new (x := b21) (Nat.le_of_eq g21.symm))
      have DC54 := CHr.keep Kq54 (sfS g_8 sf0) C21.1
      have C54 := C21.trans DC54
      have hk54 : _ ≤ h54.size := Nat.le_trans hk21 DC54.2.1
      have K54 : Keep h0 h54 [] := K21.trans Kq54 (by intro x q; simp only [List.mem_cons, List.not_mem_nil, or_false] at q; rcases q with rfl; exact (Or.inr H21))
      have k54 : Go p e below m W T54 19 #[.val (.int p1), .val (.int p2), .val (.int p3), .val (.ref b21), .val (.int (0 : Int32))] [(.int (2 : Int32))] := k54
      have k55 : Go p e below m W T54 21 #[.val (.int p1), .val (.int p2), .val (.int p3), .val (.ref b21), .val (.int (2 : Int32))] [] := k54.istore X54 hx (hb hby d_rmen_19) rfl
      have k56 : Go p e below m W T54 23 #[.val (.int p1), .val (.int p2), .val (.int p3), .val (.ref b21), .val (.int (2 : Int32))] [(.int (2 : Int32)), (.int p3)] := (k55.iloadN X54 hx (hb hby d_rmen_21) rfl).iconst X54 hx (hb hby d_rmen_22) (v := (2 : Int32)) rfl
      by_cases hc23_57 : p3 < (2 : Int32)
      ·
        have k58 : Go p e below m W T54 38 #[.val (.int p1), .val (.int p2), .val (.int p3), .val (.ref b21), .val (.int (2 : Int32))] [(.int (2 : Int32)), (.ref b21)] := ((k56.icmpYes X54 hx (hb hby d_rmen_23) (XT.ii_lt_t hc23_57) (by decide) (by decide)).aloadN X54 hx (hb hby d_rmen_35) rfl rfl).iload X54 hx (hb hby d_rmen_36) rfl
        have g_9 := (O0.ext E21).keep Kq54 (by intro x q; simp only [List.mem_cons, List.not_mem_nil, or_false] at q; rcases q with rfl; exact G21)
        obtain ⟨T59, v59, L59, X59, Q59, k59⟩ := k58.stat (y := (⟨"com/example/promovent/promovent/library/CodePointsComparePinLaw", "make", "([CI)Ljava/lang/String;"⟩ : MethodName)) (Wd := 0) (cells' := 5) (slots' := 16) (argsL := [(.ref b21), (.int (2 : Int32))]) (rest := []) X54 hx hZ hown (by rw [hml]; rfl) (hv 14 rfl) (hv 15 rfl) (hv 16 rfl) (hv 2 rfl) (hb hby d_rmen_38) (by decide) (rmmk2 l Z a0 hw [] b21 c21 (((55296 : Int32) + ((p1 - (65536 : Int32)) >>> ((10 : Int32) &&& 31)))).toUInt32.toUInt16.toUInt32.toInt32 (((56320 : Int32) + ((p1 - (65536 : Int32)) &&& (1023 : Int32)))).toUInt32.toUInt16.toUInt32.toInt32 (0 : Int32) (0 : Int32) cz h54 n0 Z54 g_9 SCZ hcz SAD SHI SLO q54_0 (own_rki _) (own_rki _)) e54 rfl rfl pd_rmen_0 rfl (Nat.le_of_eq rfl) (by decide) (by decide) rfl rfl (by decide) (by decide)
        obtain ⟨ro_59, rfl, Nq59, Kq59, q59_0, q59_1, q59_2, q59_3⟩ := Q59
        have N59 := Fr.app N54 Nq59
        obtain ⟨h59, e59⟩ : ∃ h, T59.heap = h := ⟨_, rfl⟩
        rw [e59] at Kq59 q59_0 q59_1
        have Z59 : n0 ≤ h59.size := Nat.le_trans Z54 Kq59.1
        have DC59 := CHr.keep Kq59 sf0 C54.1
        have C59 := C54.trans DC59
        have hk59 : _ ≤ h59.size := Nat.le_trans hk54 DC59.2.1
        have K59 : Keep h0 h59 [] := K54.trans Kq59 (fun x q => absurd q List.not_mem_nil)
        have H60 : h0.size ≤ ro_59 := Nat.le_trans K54.1 q59_3
        have k59 : Go p e below m W T59 41 #[.val (.int p1), .val (.int p2), .val (.int p3), .val (.ref b21), .val (.int (2 : Int32))] [(.ref ro_59)] := k59
        have et61 : own_enc p1 p2 p3 = [(((55296 : Int32) + ((p1 - (65536 : Int32)) >>> ((10 : Int32) &&& 31)))).toUInt32.toUInt16.toUInt32.toInt32, (((56320 : Int32) + ((p1 - (65536 : Int32)) &&& (1023 : Int32)))).toUInt32.toUInt16.toUInt32.toInt32] := by rw [own_enc, if_neg hc9_25, if_pos hc23_57, own_put_b hf16_31]
        have st61 : own_Str Z h59 ro_59 (own_enc p1 p2 p3) := by rw [et61]; exact q59_1
        exact k59.areturnS X59 hx hZ own_EL hS0 hk59 e59 (by rw [hh]; exact C59) Bd.returns rfl rfl (hb hby d_rmen_41) (BodyLoose.notSynchronized Bd) (by rw [e59]; exact ⟨ro_59, rfl, N59, K59, q59_0, st61, q59_2, H60⟩) (by decide) (by decide)
      ·
        have k62 : Go p e below m W T54 30 #[.val (.int p1), .val (.int p2), .val (.int p3), .val (.ref b21), .val (.int (2 : Int32))] [(.int p2), (.int (2 : Int32)), (.ref b21)] := (((k56.icmpNo X54 hx (hb hby d_rmen_23) (XT.ii_lt_f hc23_57)).aloadN X54 hx (hb hby d_rmen_26) rfl rfl).iload X54 hx (hb hby d_rmen_27) rfl).iloadN X54 hx (hb hby d_rmen_29) rfl
        by_cases hf30_63 : p2 < (65536 : Int32)
        ·
          obtain ⟨T64, v64, L64, X64, Q64, k64⟩ := k62.stat (y := (⟨"com/example/promovent/promovent/library/CodePointsComparePinLaw", "put", "([CII)I"⟩ : MethodName)) (Wd := 0) (cells' := 1) (slots' := 4) (argsL := [(.ref b21), (.int (2 : Int32)), (.int p2)]) (rest := []) X54 hx hZ hown (by rw [hml]; rfl) (hv 64 rfl) (hv 65 rfl) (hv 66 rfl) (hv 2 rfl) (hb hby d_rmen_30) (by decide) (rmpt2s l Z a0 hw [] b21 p2 c21 (((55296 : Int32) + ((p1 - (65536 : Int32)) >>> ((10 : Int32) &&& 31)))).toUInt32.toUInt16.toUInt32.toInt32 (((56320 : Int32) + ((p1 - (65536 : Int32)) &&& (1023 : Int32)))).toUInt32.toUInt16.toUInt32.toInt32 (0 : Int32) (0 : Int32) h54 n0 Z54 q54_0 G21 hf30_63) e54 rfl rfl pd_rmen_1 rfl (Nat.le_of_eq rfl) (by decide) (by decide) rfl rfl (by decide) (by decide)
          obtain ⟨rfl, Nq64, Kq64, q64_0⟩ := Q64
          have N64 := Fr.app N54 Nq64
          obtain ⟨h64, e64⟩ : ∃ h, T64.heap = h := ⟨_, rfl⟩
          rw [e64] at Kq64 q64_0
          have Z64 : n0 ≤ h64.size := Nat.le_trans Z54 Kq64.1
          have g_10 := DC54.safe V21.lt g_8
          have DC64 := CHr.keep Kq64 (sfS g_10 sf0) C54.1
          have C64 := C54.trans DC64
          have hk64 : _ ≤ h64.size := Nat.le_trans hk54 DC64.2.1
          have K64 : Keep h0 h64 [] := K54.trans Kq64 (by intro x q; simp only [List.mem_cons, List.not_mem_nil, or_false] at q; rcases q with rfl; exact (Or.inr H21))
          have k64 : Go p e below m W T64 33 #[.val (.int p1), .val (.int p2), .val (.int p3), .val (.ref b21), .val (.int (2 : Int32))] [(.int (3 : Int32))] := k64
          have k65 : Go p e below m W T64 35 #[.val (.int p1), .val (.int p2), .val (.int p3), .val (.ref b21), .val (.int (3 : Int32))] [] := k64.istore X64 hx (hb hby d_rmen_33) rfl
          have k66 : Go p e below m W T64 38 #[.val (.int p1), .val (.int p2), .val (.int p3), .val (.ref b21), .val (.int (3 : Int32))] [(.int (3 : Int32)), (.ref b21)] := (k65.aloadN X64 hx (hb hby d_rmen_35) rfl rfl).iload X64 hx (hb hby d_rmen_36) rfl
          have g_11 := ((O0.ext E21).keep Kq54 (by intro x q; simp only [List.mem_cons, List.not_mem_nil, or_false] at q; rcases q with rfl; exact G21)).keep Kq64 (by intro x q; simp only [List.mem_cons, List.not_mem_nil, or_false] at q; rcases q with rfl; exact G21)
          obtain ⟨T67, v67, L67, X67, Q67, k67⟩ := k66.stat (y := (⟨"com/example/promovent/promovent/library/CodePointsComparePinLaw", "make", "([CI)Ljava/lang/String;"⟩ : MethodName)) (Wd := 0) (cells' := 5) (slots' := 20) (argsL := [(.ref b21), (.int (3 : Int32))]) (rest := []) X64 hx hZ hown (by rw [hml]; rfl) (hv 14 rfl) (hv 15 rfl) (hv 16 rfl) (hv 2 rfl) (hb hby d_rmen_38) (by decide) (rmmk3 l Z a0 hw [] b21 c21 (((55296 : Int32) + ((p1 - (65536 : Int32)) >>> ((10 : Int32) &&& 31)))).toUInt32.toUInt16.toUInt32.toInt32 (((56320 : Int32) + ((p1 - (65536 : Int32)) &&& (1023 : Int32)))).toUInt32.toUInt16.toUInt32.toInt32 (p2).toUInt32.toUInt16.toUInt32.toInt32 (0 : Int32) cz h64 n0 Z64 g_11 SCZ hcz SAD SHI SLO q64_0 (own_rki _) (own_rki _) (own_rki _)) e64 rfl rfl pd_rmen_0 rfl (Nat.le_of_eq rfl) (by decide) (by decide) rfl rfl (by decide) (by decide)
          obtain ⟨ro_67, rfl, Nq67, Kq67, q67_0, q67_1, q67_2, q67_3⟩ := Q67
          have N67 := Fr.app N64 Nq67
          obtain ⟨h67, e67⟩ : ∃ h, T67.heap = h := ⟨_, rfl⟩
          rw [e67] at Kq67 q67_0 q67_1
          have Z67 : n0 ≤ h67.size := Nat.le_trans Z64 Kq67.1
          have DC67 := CHr.keep Kq67 sf0 C64.1
          have C67 := C64.trans DC67
          have hk67 : _ ≤ h67.size := Nat.le_trans hk64 DC67.2.1
          have K67 : Keep h0 h67 [] := K64.trans Kq67 (fun x q => absurd q List.not_mem_nil)
          have H68 : h0.size ≤ ro_67 := Nat.le_trans K64.1 q67_3
          have k67 : Go p e below m W T67 41 #[.val (.int p1), .val (.int p2), .val (.int p3), .val (.ref b21), .val (.int (3 : Int32))] [(.ref ro_67)] := k67
          have et69 : own_enc p1 p2 p3 = [(((55296 : Int32) + ((p1 - (65536 : Int32)) >>> ((10 : Int32) &&& 31)))).toUInt32.toUInt16.toUInt32.toInt32, (((56320 : Int32) + ((p1 - (65536 : Int32)) &&& (1023 : Int32)))).toUInt32.toUInt16.toUInt32.toInt32, (p2).toUInt32.toUInt16.toUInt32.toInt32] := by rw [own_enc, if_neg hc9_25, if_neg hc23_57, own_put_b hf16_31, own_put_s hf30_63]; rfl
          have st69 : own_Str Z h67 ro_67 (own_enc p1 p2 p3) := by rw [et69]; exact q67_1
          exact k67.areturnS X67 hx hZ own_EL hS0 hk67 e67 (by rw [hh]; exact C67) Bd.returns rfl rfl (hb hby d_rmen_41) (BodyLoose.notSynchronized Bd) (by rw [e67]; exact ⟨ro_67, rfl, N67, K67, q67_0, st69, q67_2, H68⟩) (by decide) (by decide)
        ·
          obtain ⟨T70, v70, L70, X70, Q70, k70⟩ := k62.stat (y := (⟨"com/example/promovent/promovent/library/CodePointsComparePinLaw", "put", "([CII)I"⟩ : MethodName)) (Wd := 0) (cells' := 1) (slots' := 4) (argsL := [(.ref b21), (.int (2 : Int32)), (.int p2)]) (rest := []) X54 hx hZ hown (by rw [hml]; rfl) (hv 64 rfl) (hv 65 rfl) (hv 66 rfl) (hv 2 rfl) (hb hby d_rmen_30) (by decide) (rmpt2b l Z a0 hw [] b21 p2 c21 (((55296 : Int32) + ((p1 - (65536 : Int32)) >>> ((10 : Int32) &&& 31)))).toUInt32.toUInt16.toUInt32.toInt32 (((56320 : Int32) + ((p1 - (65536 : Int32)) &&& (1023 : Int32)))).toUInt32.toUInt16.toUInt32.toInt32 (0 : Int32) (0 : Int32) h54 n0 Z54 q54_0 G21 hf30_63) e54 rfl rfl pd_rmen_1 rfl (Nat.le_of_eq rfl) (by decide) (by decide) rfl rfl (by decide) (by decide)
          obtain ⟨rfl, Nq70, Kq70, q70_0⟩ := Q70
          have N70 := Fr.app N54 Nq70
          obtain ⟨h70, e70⟩ : ∃ h, T70.heap = h := ⟨_, rfl⟩
          rw [e70] at Kq70 q70_0
          have Z70 : n0 ≤ h70.size := Nat.le_trans Z54 Kq70.1
          have g_12 := DC54.safe V21.lt g_8
          have DC70 := CHr.keep Kq70 (sfS g_12 sf0) C54.1
          have C70 := C54.trans DC70
          have hk70 : _ ≤ h70.size := Nat.le_trans hk54 DC70.2.1
          have K70 : Keep h0 h70 [] := K54.trans Kq70 (by intro x q; simp only [List.mem_cons, List.not_mem_nil, or_false] at q; rcases q with rfl; exact (Or.inr H21))
          have k70 : Go p e below m W T70 33 #[.val (.int p1), .val (.int p2), .val (.int p3), .val (.ref b21), .val (.int (2 : Int32))] [(.int (4 : Int32))] := k70
          have k71 : Go p e below m W T70 35 #[.val (.int p1), .val (.int p2), .val (.int p3), .val (.ref b21), .val (.int (4 : Int32))] [] := k70.istore X70 hx (hb hby d_rmen_33) rfl
          have k72 : Go p e below m W T70 38 #[.val (.int p1), .val (.int p2), .val (.int p3), .val (.ref b21), .val (.int (4 : Int32))] [(.int (4 : Int32)), (.ref b21)] := (k71.aloadN X70 hx (hb hby d_rmen_35) rfl rfl).iload X70 hx (hb hby d_rmen_36) rfl
          have g_13 := ((O0.ext E21).keep Kq54 (by intro x q; simp only [List.mem_cons, List.not_mem_nil, or_false] at q; rcases q with rfl; exact G21)).keep Kq70 (by intro x q; simp only [List.mem_cons, List.not_mem_nil, or_false] at q; rcases q with rfl; exact G21)
          obtain ⟨T73, v73, L73, X73, Q73, k73⟩ := k72.stat (y := (⟨"com/example/promovent/promovent/library/CodePointsComparePinLaw", "make", "([CI)Ljava/lang/String;"⟩ : MethodName)) (Wd := 0) (cells' := 5) (slots' := 24) (argsL := [(.ref b21), (.int (4 : Int32))]) (rest := []) X70 hx hZ hown (by rw [hml]; rfl) (hv 14 rfl) (hv 15 rfl) (hv 16 rfl) (hv 2 rfl) (hb hby d_rmen_38) (by decide) (rmmk4 l Z a0 hw [] b21 c21 (((55296 : Int32) + ((p1 - (65536 : Int32)) >>> ((10 : Int32) &&& 31)))).toUInt32.toUInt16.toUInt32.toInt32 (((56320 : Int32) + ((p1 - (65536 : Int32)) &&& (1023 : Int32)))).toUInt32.toUInt16.toUInt32.toInt32 (((55296 : Int32) + ((p2 - (65536 : Int32)) >>> ((10 : Int32) &&& 31)))).toUInt32.toUInt16.toUInt32.toInt32 (((56320 : Int32) + ((p2 - (65536 : Int32)) &&& (1023 : Int32)))).toUInt32.toUInt16.toUInt32.toInt32 cz h70 n0 Z70 g_13 SCZ hcz SAD SHI SLO q70_0 (own_rki _) (own_rki _) (own_rki _) (own_rki _)) e70 rfl rfl pd_rmen_0 rfl (Nat.le_of_eq rfl) (by decide) (by decide) rfl rfl (by decide) (by decide)
          obtain ⟨ro_73, rfl, Nq73, Kq73, q73_0, q73_1, q73_2, q73_3⟩ := Q73
          have N73 := Fr.app N70 Nq73
          obtain ⟨h73, e73⟩ : ∃ h, T73.heap = h := ⟨_, rfl⟩
          rw [e73] at Kq73 q73_0 q73_1
          have Z73 : n0 ≤ h73.size := Nat.le_trans Z70 Kq73.1
          have DC73 := CHr.keep Kq73 sf0 C70.1
          have C73 := C70.trans DC73
          have hk73 : _ ≤ h73.size := Nat.le_trans hk70 DC73.2.1
          have K73 : Keep h0 h73 [] := K70.trans Kq73 (fun x q => absurd q List.not_mem_nil)
          have H74 : h0.size ≤ ro_73 := Nat.le_trans K70.1 q73_3
          have k73 : Go p e below m W T73 41 #[.val (.int p1), .val (.int p2), .val (.int p3), .val (.ref b21), .val (.int (4 : Int32))] [(.ref ro_73)] := k73
          have et75 : own_enc p1 p2 p3 = [(((55296 : Int32) + ((p1 - (65536 : Int32)) >>> ((10 : Int32) &&& 31)))).toUInt32.toUInt16.toUInt32.toInt32, (((56320 : Int32) + ((p1 - (65536 : Int32)) &&& (1023 : Int32)))).toUInt32.toUInt16.toUInt32.toInt32, (((55296 : Int32) + ((p2 - (65536 : Int32)) >>> ((10 : Int32) &&& 31)))).toUInt32.toUInt16.toUInt32.toInt32, (((56320 : Int32) + ((p2 - (65536 : Int32)) &&& (1023 : Int32)))).toUInt32.toUInt16.toUInt32.toInt32] := by rw [own_enc, if_neg hc9_25, if_neg hc23_57, own_put_b hf16_31, own_put_b hf30_63]; rfl
          have st75 : own_Str Z h73 ro_73 (own_enc p1 p2 p3) := by rw [et75]; exact q73_1
          exact k73.areturnS X73 hx hZ own_EL hS0 hk73 e73 (by rw [hh]; exact C73) Bd.returns rfl rfl (hb hby d_rmen_41) (BodyLoose.notSynchronized Bd) (by rw [e73]; exact ⟨ro_73, rfl, N73, K73, q73_0, st75, q73_2, H74⟩) (by decide) (by decide)

theorem pd_rm0_1 : parseMethodDescriptor "(III)Ljava/lang/String;" = some ⟨[.int, .int, .int], (some (.object "java/lang/String"))⟩ := by decide +kernel
theorem pd_rm0_2 : parseMethodDescriptor "(Ljava/lang/String;Ljava/lang/String;)I" = some ⟨[(.object "java/lang/String"), (.object "java/lang/String")], (some .int)⟩ := by decide +kernel
theorem ef_rm0 (m : MethodId) (p1 : Int32) (p2 : Int32) (p3 : Int32) (p4 : Int32) (p5 : Int32) : entryFrame m #[(.int p1), (.int p2), (.int p3), (.int p4), (.int p5)] maxLocals = mkF m 0 #[.val (.int p1), .val (.int p2), .val (.int p3), .val (.int p4), .val (.int p5), .unset, .unset, .unset, .unset, .unset, .unset, .unset, .unset, .unset, .unset, .unset, .unset, .unset, .unset] [] := by first | (simp [entryFrame, mkF, argsToLocals, Value.category, maxLocals]; done) | rfl
def Q_rm0 (Z : State) (p1 : Int32) (p2 : Int32) (p3 : Int32) (p4 : Int32) (p5 : Int32) (cz : Int32) (fm : Value) (h0 : Heap) (n0 : Nat) (v : Option Value) (h : Heap) (L : List Loc) : Prop := v = some (.int (1 : Int32)) ∧ Fr n0 L
set_option maxRecDepth 65536 in
set_option maxHeartbeats 40000000 in
theorem rm0 (l : Launch) (Z : State) (a0 : Array Value) (hw : ∀ d ∈ tables_1, d.before a0 Z = true) (ws : List Jvm.Cond) (p1 : Int32) (p2 : Int32) (p3 : Int32) (p4 : Int32) (p5 : Int32) (cz : Int32) (fm : Value) (h0 : Heap) (n0 : Nat) (Z0 : n0 ≤ h0.size) (O0 : Old Z n0 h0) (S_cz : Sta Z Z.heap "java/lang/String" "COMPACT_STRINGS" "Z" (.int cz)) (hcz : ¬ (cz = (0 : Int32))) (SIO : Sta Z Z.heap "jdk/internal/util/Preconditions" "SIOOBE_FORMATTER" "Ljava/util/function/BiFunction;" fm) (hfm : fm.isRef = true) (SAD : Sta Z Z.heap "java/lang/StringUTF16" "$assertionsDisabled" "Z" (.int (1 : Int32))) (SHI : Sta Z Z.heap "java/lang/StringUTF16" "HI_BYTE_SHIFT" "I" (.int (0 : Int32))) (SLO : Sta Z Z.heap "java/lang/StringUTF16" "LO_BYTE_SHIFT" "I" (.int (8 : Int32))) :
    MetFree l x (head1 (Jvm.Cond.code x code maxLocals ret :: ws) room_1) (fun a U => a = #[(.int p1), (.int p2), (.int p3), (.int p4), (.int p5)] ∧ Z.Warmed39 U.vm ∧ U.heap = h0 ∧ CHv Z own_L U.vm h0 ∧ ∀ x ∈ ([] : List Addr), Safe Z own_L U.vm h0 x) (fun _ _ _ _ _ => True) (fun _ U o U' => ∃ v L, o = .returned v ∧ Q_rm0 Z p1 p2 p3 p4 p5 cz fm h0 n0 v U'.heap L ∧ CHr Z own_L U.vm U.heap U'.vm U'.heap ∧ ReturnedEndW U o U' L room_1.cells room_1.slots) := by
  refine MetFree.of_bodySF (plainFor_of_name pn_rmraw) hisR ?_
  intro p e s m args_ below meth c s₁ Bd hml0 hP hK
  obtain ⟨hargs, hZ, hh, hcv, hsf0⟩ := hP
  have hx := Bd.exec
  have hby := Bd.bytes
  have hml : c.maxLocals = 19 := hml0
  have hown : s.vm.findClass "com/example/promovent/promovent/library/CodePointsComparePinLaw" = some m.cls := findClass_of_methodNamed Bd.named
  have hnm := (name_of_methodNamed Bd.named Bd.method).1
  have X0 : Stand p l e room_1 (s.setVm s.vm) m args_ below meth c s₁ [] 0 0 := Stand.of_body Bd
  have e0 : s₁.heap = h0 := by rw [← hh, Bd.state]; rfl
  have N0 := Fr.nil n0
  have C0 : CHr Z own_L s.vm h0 s.vm h0 := CHr.refl hcv
  have hS0 : s.Since s.vm h0.size := (State.WarmedH.refl s).since _
  have hk0 : h0.size ≤ h0.size := Nat.le_refl _
  have own_EL : EW Z a0 own_L := own_EL0 hw
  have own_sa : ∀ a ∈ Bundle.stringAtoms, a.before a0 Z = true := own_sa0 hw
  have hv : ∀ (i : Nat) {d : Jvm.Cond}, tables_1[i]? = some d → d.before a0 Z = true := fun i d q => hw d (List.mem_of_getElem? q)
  have k0 : Go p e below m (s₁.setTop (entryFrame m args_ maxLocals)) s₁ 0 #[.val (.int p1), .val (.int p2), .val (.int p3), .val (.int p4), .val (.int p5), .unset, .unset, .unset, .unset, .unset, .unset, .unset, .unset, .unset, .unset, .unset, .unset, .unset, .unset] [] := by rw [hargs]; exact fun t kt => castTop (ef_rm0 m p1 p2 p3 p4 p5) kt
  obtain ⟨W, hWW⟩ : ∃ W, W = s₁.setTop (entryFrame m args_ maxLocals) := ⟨_, rfl⟩
  rw [← hWW] at k0 ⊢
  show DoneS p e below Z own_L s W (Q_rm0 Z p1 p2 p3 p4 p5 cz fm h0 n0) room_1.cells room_1.slots
  have k20 : Go p e below m W s₁ 6 #[.val (.int p1), .val (.int p2), .val (.int p3), .val (.int p4), .val (.int p5), .unset, .unset, .unset, .unset, .unset, .unset, .unset, .unset, .unset, .unset, .unset, .unset, .unset, .unset] [(.int ((p5 &&& (3 : Int32)) % (3 : Int32)))] := ((((k0.iload X0 hx (hb hby at_0) rfl).iconst X0 hx (hb hby at_2) (v := (3 : Int32)) rfl).iand X0 hx (hb hby at_3)).iconst X0 hx (hb hby at_4) (v := (3 : Int32)) rfl).irem X0 hx (hb hby at_5) (by decide)
  obtain ⟨r21, hr21, hs21⟩ : ∃ r : Int32, r = ((p5 &&& (3 : Int32)) % (3 : Int32)) ∧ (r = (0 : Int32) ∨ r = (1 : Int32) ∨ r = (2 : Int32)) := ⟨_, rfl, own_n3 _⟩
  have k22 : Go p e below m W s₁ 6 #[.val (.int p1), .val (.int p2), .val (.int p3), .val (.int p4), .val (.int p5), .unset, .unset, .unset, .unset, .unset, .unset, .unset, .unset, .unset, .unset, .unset, .unset, .unset, .unset] [(.int r21)] := hr21 ▸ k20
  clear hr21
  have k23 : Go p e below m W s₁ 8 #[.val (.int p1), .val (.int p2), .val (.int p3), .val (.int p4), .val (.int p5), .val (.int r21), .unset, .unset, .unset, .unset, .unset, .unset, .unset, .unset, .unset, .unset, .unset, .unset, .unset] [] := k22.istore X0 hx (hb hby at_6) rfl
  have k24 : Go p e below m W s₁ 16 #[.val (.int p1), .val (.int p2), .val (.int p3), .val (.int p4), .val (.int p5), .val (.int r21), .unset, .unset, .unset, .unset, .unset, .unset, .unset, .unset, .unset, .unset, .unset, .unset, .unset] [(.int (((XT.ushr p5 (2 : Int32)) &&& (3 : Int32)) % (3 : Int32)))] := ((((((k23.iload X0 hx (hb hby at_8) rfl).iconst X0 hx (hb hby at_10) (v := (2 : Int32)) rfl).iushr X0 hx (hb hby at_11)).iconst X0 hx (hb hby at_12) (v := (3 : Int32)) rfl).iand X0 hx (hb hby at_13)).iconst X0 hx (hb hby at_14) (v := (3 : Int32)) rfl).irem X0 hx (hb hby at_15) (by decide)
  obtain ⟨r25, hr25, hs25⟩ : ∃ r : Int32, r = (((XT.ushr p5 (2 : Int32)) &&& (3 : Int32)) % (3 : Int32)) ∧ (r = (0 : Int32) ∨ r = (1 : Int32) ∨ r = (2 : Int32)) := ⟨_, rfl, own_n3 _⟩
  have k26 : Go p e below m W s₁ 16 #[.val (.int p1), .val (.int p2), .val (.int p3), .val (.int p4), .val (.int p5), .val (.int r21), .unset, .unset, .unset, .unset, .unset, .unset, .unset, .unset, .unset, .unset, .unset, .unset, .unset] [(.int r25)] := hr25 ▸ k24
  clear hr25
  have k27 : Go p e below m W s₁ 18 #[.val (.int p1), .val (.int p2), .val (.int p3), .val (.int p4), .val (.int p5), .val (.int r21), .val (.int r25), .unset, .unset, .unset, .unset, .unset, .unset, .unset, .unset, .unset, .unset, .unset, .unset] [] := k26.istore X0 hx (hb hby at_16) rfl
  have k28 : Go p e below m W s₁ 26 #[.val (.int p1), .val (.int p2), .val (.int p3), .val (.int p4), .val (.int p5), .val (.int r21), .val (.int r25), .val (.int ((XT.ushr p5 (4 : Int32)) &&& (3 : Int32))), .unset, .unset, .unset, .unset, .unset, .unset, .unset, .unset, .unset, .unset, .unset] [] := (((((k27.iload X0 hx (hb hby at_18) rfl).iconst X0 hx (hb hby at_20) (v := (4 : Int32)) rfl).iushr X0 hx (hb hby at_21)).iconst X0 hx (hb hby at_22) (v := (3 : Int32)) rfl).iand X0 hx (hb hby at_23)).istore X0 hx (hb hby at_24) rfl
  have k29 : Go p e below m W s₁ 27 #[.val (.int p1), .val (.int p2), .val (.int p3), .val (.int p4), .val (.int p5), .val (.int r21), .val (.int r25), .val (.int ((XT.ushr p5 (4 : Int32)) &&& (3 : Int32))), .unset, .unset, .unset, .unset, .unset, .unset, .unset, .unset, .unset, .unset, .unset] [(.int p1)] := k28.iloadN X0 hx (hb hby at_26) rfl
  obtain ⟨T30, v30, L30, X30, Q30, k30⟩ := k29.stat (y := (⟨"com/example/promovent/promovent/library/CodePointsComparePinLaw", "raw", "(I)I"⟩ : MethodName)) (Wd := 0) (cells' := 0) (slots' := 0) (argsL := [(.int p1)]) (rest := []) X0 hx hZ hown (by rw [hml]; rfl) (hv 0 rfl) (hv 1 rfl) (hv 3 rfl) (hv 2 rfl) (hb hby at_27) (by decide) (rmraw l Z a0 hw [] p1 h0 n0 Z0) e0 rfl rfl pd_rmbf1_0 rfl (Nat.le_of_eq rfl) (by decide) (by decide) rfl rfl (by decide) (by decide)
  obtain ⟨rfl, Nq30, e30q⟩ := Q30
  have N30 := Fr.app N0 Nq30
  have e30 : T30.heap = h0 := e30q
  have k30 : Go p e below m W T30 30 #[.val (.int p1), .val (.int p2), .val (.int p3), .val (.int p4), .val (.int p5), .val (.int r21), .val (.int r25), .val (.int ((XT.ushr p5 (4 : Int32)) &&& (3 : Int32))), .unset, .unset, .unset, .unset, .unset, .unset, .unset, .unset, .unset, .unset, .unset] [(.int ((p1 &&& (2147483647 : Int32)) % (1112064 : Int32)))] := k30
  obtain ⟨r31, hr31, hs31⟩ : ∃ r : Int32, r = ((p1 &&& (2147483647 : Int32)) % (1112064 : Int32)) ∧ (own_rg r) := ⟨_, rfl, own_rgraw _⟩
  have k32 : Go p e below m W T30 30 #[.val (.int p1), .val (.int p2), .val (.int p3), .val (.int p4), .val (.int p5), .val (.int r21), .val (.int r25), .val (.int ((XT.ushr p5 (4 : Int32)) &&& (3 : Int32))), .unset, .unset, .unset, .unset, .unset, .unset, .unset, .unset, .unset, .unset, .unset] [(.int r31)] := hr31 ▸ k30
  clear hr31
  have k33 : Go p e below m W T30 32 #[.val (.int p1), .val (.int p2), .val (.int p3), .val (.int p4), .val (.int p5), .val (.int r21), .val (.int r25), .val (.int ((XT.ushr p5 (4 : Int32)) &&& (3 : Int32))), .val (.int r31), .unset, .unset, .unset, .unset, .unset, .unset, .unset, .unset, .unset, .unset] [] := k32.istore X30 hx (hb hby at_30) rfl
  have k34 : Go p e below m W T30 33 #[.val (.int p1), .val (.int p2), .val (.int p3), .val (.int p4), .val (.int p5), .val (.int r21), .val (.int r25), .val (.int ((XT.ushr p5 (4 : Int32)) &&& (3 : Int32))), .val (.int r31), .unset, .unset, .unset, .unset, .unset, .unset, .unset, .unset, .unset, .unset] [(.int p2)] := k33.iloadN X30 hx (hb hby at_32) rfl
  obtain ⟨T35, v35, L35, X35, Q35, k35⟩ := k34.stat (y := (⟨"com/example/promovent/promovent/library/CodePointsComparePinLaw", "raw", "(I)I"⟩ : MethodName)) (Wd := 0) (cells' := 0) (slots' := 0) (argsL := [(.int p2)]) (rest := []) X30 hx hZ hown (by rw [hml]; rfl) (hv 0 rfl) (hv 1 rfl) (hv 3 rfl) (hv 2 rfl) (hb hby at_33) (by decide) (rmraw l Z a0 hw [] p2 h0 n0 Z0) e30 rfl rfl pd_rmbf1_0 rfl (Nat.le_of_eq rfl) (by decide) (by decide) rfl rfl (by decide) (by decide)
  obtain ⟨rfl, Nq35, e35q⟩ := Q35
  have N35 := Fr.app N30 Nq35
  have e35 : T35.heap = h0 := e35q
  have k35 : Go p e below m W T35 36 #[.val (.int p1), .val (.int p2), .val (.int p3), .val (.int p4), .val (.int p5), .val (.int r21), .val (.int r25), .val (.int ((XT.ushr p5 (4 : Int32)) &&& (3 : Int32))), .val (.int r31), .unset, .unset, .unset, .unset, .unset, .unset, .unset, .unset, .unset, .unset] [(.int ((p2 &&& (2147483647 : Int32)) % (1112064 : Int32)))] := k35
  obtain ⟨r36, hr36, hs36⟩ : ∃ r : Int32, r = ((p2 &&& (2147483647 : Int32)) % (1112064 : Int32)) ∧ (own_rg r) := ⟨_, rfl, own_rgraw _⟩
  have k37 : Go p e below m W T35 36 #[.val (.int p1), .val (.int p2), .val (.int p3), .val (.int p4), .val (.int p5), .val (.int r21), .val (.int r25), .val (.int ((XT.ushr p5 (4 : Int32)) &&& (3 : Int32))), .val (.int r31), .unset, .unset, .unset, .unset, .unset, .unset, .unset, .unset, .unset, .unset] [(.int r36)] := hr36 ▸ k35
  clear hr36
  have k38 : Go p e below m W T35 38 #[.val (.int p1), .val (.int p2), .val (.int p3), .val (.int p4), .val (.int p5), .val (.int r21), .val (.int r25), .val (.int ((XT.ushr p5 (4 : Int32)) &&& (3 : Int32))), .val (.int r31), .val (.int r36), .unset, .unset, .unset, .unset, .unset, .unset, .unset, .unset, .unset] [] := k37.istore X35 hx (hb hby at_36) rfl
  have k39 : Go p e below m W T35 39 #[.val (.int p1), .val (.int p2), .val (.int p3), .val (.int p4), .val (.int p5), .val (.int r21), .val (.int r25), .val (.int ((XT.ushr p5 (4 : Int32)) &&& (3 : Int32))), .val (.int r31), .val (.int r36), .unset, .unset, .unset, .unset, .unset, .unset, .unset, .unset, .unset] [(.int p3)] := k38.iloadN X35 hx (hb hby at_38) rfl
  obtain ⟨T40, v40, L40, X40, Q40, k40⟩ := k39.stat (y := (⟨"com/example/promovent/promovent/library/CodePointsComparePinLaw", "raw", "(I)I"⟩ : MethodName)) (Wd := 0) (cells' := 0) (slots' := 0) (argsL := [(.int p3)]) (rest := []) X35 hx hZ hown (by rw [hml]; rfl) (hv 0 rfl) (hv 1 rfl) (hv 3 rfl) (hv 2 rfl) (hb hby at_39) (by decide) (rmraw l Z a0 hw [] p3 h0 n0 Z0) e35 rfl rfl pd_rmbf1_0 rfl (Nat.le_of_eq rfl) (by decide) (by decide) rfl rfl (by decide) (by decide)
  obtain ⟨rfl, Nq40, e40q⟩ := Q40
  have N40 := Fr.app N35 Nq40
  have e40 : T40.heap = h0 := e40q
  have k40 : Go p e below m W T40 42 #[.val (.int p1), .val (.int p2), .val (.int p3), .val (.int p4), .val (.int p5), .val (.int r21), .val (.int r25), .val (.int ((XT.ushr p5 (4 : Int32)) &&& (3 : Int32))), .val (.int r31), .val (.int r36), .unset, .unset, .unset, .unset, .unset, .unset, .unset, .unset, .unset] [(.int ((p3 &&& (2147483647 : Int32)) % (1112064 : Int32)))] := k40
  obtain ⟨r41, hr41, hs41⟩ : ∃ r : Int32, r = ((p3 &&& (2147483647 : Int32)) % (1112064 : Int32)) ∧ (own_rg r) := ⟨_, rfl, own_rgraw _⟩
  have k42 : Go p e below m W T40 42 #[.val (.int p1), .val (.int p2), .val (.int p3), .val (.int p4), .val (.int p5), .val (.int r21), .val (.int r25), .val (.int ((XT.ushr p5 (4 : Int32)) &&& (3 : Int32))), .val (.int r31), .val (.int r36), .unset, .unset, .unset, .unset, .unset, .unset, .unset, .unset, .unset] [(.int r41)] := hr41 ▸ k40
  clear hr41
  have k43 : Go p e below m W T40 44 #[.val (.int p1), .val (.int p2), .val (.int p3), .val (.int p4), .val (.int p5), .val (.int r21), .val (.int r25), .val (.int ((XT.ushr p5 (4 : Int32)) &&& (3 : Int32))), .val (.int r31), .val (.int r36), .val (.int r41), .unset, .unset, .unset, .unset, .unset, .unset, .unset, .unset] [] := k42.istore X40 hx (hb hby at_42) rfl
  have k44 : Go p e below m W T40 45 #[.val (.int p1), .val (.int p2), .val (.int p3), .val (.int p4), .val (.int p5), .val (.int r21), .val (.int r25), .val (.int ((XT.ushr p5 (4 : Int32)) &&& (3 : Int32))), .val (.int r31), .val (.int r36), .val (.int r41), .unset, .unset, .unset, .unset, .unset, .unset, .unset, .unset] [(.int p4)] := k43.iloadN X40 hx (hb hby at_44) rfl
  obtain ⟨T45, v45, L45, X45, Q45, k45⟩ := k44.stat (y := (⟨"com/example/promovent/promovent/library/CodePointsComparePinLaw", "raw", "(I)I"⟩ : MethodName)) (Wd := 0) (cells' := 0) (slots' := 0) (argsL := [(.int p4)]) (rest := []) X40 hx hZ hown (by rw [hml]; rfl) (hv 0 rfl) (hv 1 rfl) (hv 3 rfl) (hv 2 rfl) (hb hby at_45) (by decide) (rmraw l Z a0 hw [] p4 h0 n0 Z0) e40 rfl rfl pd_rmbf1_0 rfl (Nat.le_of_eq rfl) (by decide) (by decide) rfl rfl (by decide) (by decide)
  obtain ⟨rfl, Nq45, e45q⟩ := Q45
  have N45 := Fr.app N40 Nq45
  have e45 : T45.heap = h0 := e45q
  have k45 : Go p e below m W T45 48 #[.val (.int p1), .val (.int p2), .val (.int p3), .val (.int p4), .val (.int p5), .val (.int r21), .val (.int r25), .val (.int ((XT.ushr p5 (4 : Int32)) &&& (3 : Int32))), .val (.int r31), .val (.int r36), .val (.int r41), .unset, .unset, .unset, .unset, .unset, .unset, .unset, .unset] [(.int ((p4 &&& (2147483647 : Int32)) % (1112064 : Int32)))] := k45
  obtain ⟨r46, hr46, hs46⟩ : ∃ r : Int32, r = ((p4 &&& (2147483647 : Int32)) % (1112064 : Int32)) ∧ (own_rg r) := ⟨_, rfl, own_rgraw _⟩
  have k47 : Go p e below m W T45 48 #[.val (.int p1), .val (.int p2), .val (.int p3), .val (.int p4), .val (.int p5), .val (.int r21), .val (.int r25), .val (.int ((XT.ushr p5 (4 : Int32)) &&& (3 : Int32))), .val (.int r31), .val (.int r36), .val (.int r41), .unset, .unset, .unset, .unset, .unset, .unset, .unset, .unset] [(.int r46)] := hr46 ▸ k45
  clear hr46
  have k48 : Go p e below m W T45 50 #[.val (.int p1), .val (.int p2), .val (.int p3), .val (.int p4), .val (.int p5), .val (.int r21), .val (.int r25), .val (.int ((XT.ushr p5 (4 : Int32)) &&& (3 : Int32))), .val (.int r31), .val (.int r36), .val (.int r41), .val (.int r46), .unset, .unset, .unset, .unset, .unset, .unset, .unset] [] := k47.istore X45 hx (hb hby at_48) rfl
  have k49 : Go p e below m W T45 53 #[.val (.int p1), .val (.int p2), .val (.int p3), .val (.int p4), .val (.int p5), .val (.int r21), .val (.int r25), .val (.int ((XT.ushr p5 (4 : Int32)) &&& (3 : Int32))), .val (.int r31), .val (.int r36), .val (.int r41), .val (.int r46), .unset, .unset, .unset, .unset, .unset, .unset, .unset] [(.int (1 : Int32)), (.int ((XT.ushr p5 (4 : Int32)) &&& (3 : Int32)))] := (k48.iload X45 hx (hb hby at_50) rfl).iconst X45 hx (hb hby at_52) (v := (1 : Int32)) rfl
  obtain ⟨u50_L10, hd50, k50⟩ : ∃ (u50_L10 : Int32), (((((XT.ushr p5 (4 : Int32)) &&& (3 : Int32)) = (1 : Int32)) ∧ u50_L10 = r31) ∨ ((¬ (((XT.ushr p5 (4 : Int32)) &&& (3 : Int32)) = (1 : Int32))) ∧ (((XT.ushr p5 (4 : Int32)) &&& (3 : Int32)) = (2 : Int32)) ∧ u50_L10 = ((r31 &&& (-1024 : Int32)) ||| (p3 &&& (1023 : Int32)))) ∨ ((¬ (((XT.ushr p5 (4 : Int32)) &&& (3 : Int32)) = (1 : Int32))) ∧ (¬ (((XT.ushr p5 (4 : Int32)) &&& (3 : Int32)) = (2 : Int32))) ∧ u50_L10 = r41)) ∧ Go p e below m W T45 83 #[.val (.int p1), .val (.int p2), .val (.int p3), .val (.int p4), .val (.int p5), .val (.int r21), .val (.int r25), .val (.int ((XT.ushr p5 (4 : Int32)) &&& (3 : Int32))), .val (.int r31), .val (.int r36), .val (.int u50_L10), .val (.int r46), .unset, .unset, .unset, .unset, .unset, .unset, .unset] [] := by
    by_cases hc53_51 : ((XT.ushr p5 (4 : Int32)) &&& (3 : Int32)) = (1 : Int32)
    ·
      have k52 : Go p e below m W T45 60 #[.val (.int p1), .val (.int p2), .val (.int p3), .val (.int p4), .val (.int p5), .val (.int r21), .val (.int r25), .val (.int ((XT.ushr p5 (4 : Int32)) &&& (3 : Int32))), .val (.int r31), .val (.int r36), .val (.int r31), .val (.int r46), .unset, .unset, .unset, .unset, .unset, .unset, .unset] [] := ((k49.icmpNo X45 hx (hb hby at_53) (XT.ii_ne_f hc53_51)).iload X45 hx (hb hby at_56) rfl).istore X45 hx (hb hby at_58) rfl
      have k53 : Go p e below m W T45 83 #[.val (.int p1), .val (.int p2), .val (.int p3), .val (.int p4), .val (.int p5), .val (.int r21), .val (.int r25), .val (.int ((XT.ushr p5 (4 : Int32)) &&& (3 : Int32))), .val (.int r31), .val (.int r36), .val (.int r31), .val (.int r46), .unset, .unset, .unset, .unset, .unset, .unset, .unset] [] := k52.goto X45 hx (hb hby at_60) (by decide) (by decide)
      exact ⟨r31, (Or.inl ⟨hc53_51, rfl⟩), k53⟩
    ·
      have k54 : Go p e below m W T45 66 #[.val (.int p1), .val (.int p2), .val (.int p3), .val (.int p4), .val (.int p5), .val (.int r21), .val (.int r25), .val (.int ((XT.ushr p5 (4 : Int32)) &&& (3 : Int32))), .val (.int r31), .val (.int r36), .val (.int r41), .val (.int r46), .unset, .unset, .unset, .unset, .unset, .unset, .unset] [(.int (2 : Int32)), (.int ((XT.ushr p5 (4 : Int32)) &&& (3 : Int32)))] := ((k49.icmpYes X45 hx (hb hby at_53) (XT.ii_ne_t hc53_51) (by decide) (by decide)).iload X45 hx (hb hby at_63) rfl).iconst X45 hx (hb hby at_65) (v := (2 : Int32)) rfl
      by_cases hc66_55 : ((XT.ushr p5 (4 : Int32)) &&& (3 : Int32)) = (2 : Int32)
      ·
        have k56 : Go p e below m W T45 83 #[.val (.int p1), .val (.int p2), .val (.int p3), .val (.int p4), .val (.int p5), .val (.int r21), .val (.int r25), .val (.int ((XT.ushr p5 (4 : Int32)) &&& (3 : Int32))), .val (.int r31), .val (.int r36), .val (.int ((r31 &&& (-1024 : Int32)) ||| (p3 &&& (1023 : Int32)))), .val (.int r46), .unset, .unset, .unset, .unset, .unset, .unset, .unset] [] := ((((((((k54.icmpNo X45 hx (hb hby at_66) (XT.ii_ne_f hc66_55)).iload X45 hx (hb hby at_69) rfl).sipush X45 hx (hb hby at_71) (v := (-1024 : Int32)) rfl).iand X45 hx (hb hby at_74)).iloadN X45 hx (hb hby at_75) rfl).sipush X45 hx (hb hby at_76) (v := (1023 : Int32)) rfl).iand X45 hx (hb hby at_79)).ior X45 hx (hb hby at_80)).istore X45 hx (hb hby at_81) rfl
        exact ⟨((r31 &&& (-1024 : Int32)) ||| (p3 &&& (1023 : Int32))), (Or.inr (Or.inl ⟨hc53_51, hc66_55, rfl⟩)), k56⟩
      ·
        have k57 : Go p e below m W T45 83 #[.val (.int p1), .val (.int p2), .val (.int p3), .val (.int p4), .val (.int p5), .val (.int r21), .val (.int r25), .val (.int ((XT.ushr p5 (4 : Int32)) &&& (3 : Int32))), .val (.int r31), .val (.int r36), .val (.int r41), .val (.int r46), .unset, .unset, .unset, .unset, .unset, .unset, .unset] [] := k54.icmpYes X45 hx (hb hby at_66) (XT.ii_ne_t hc66_55) (by decide) (by decide)
        exact ⟨r41, (Or.inr (Or.inr ⟨hc53_51, hc66_55, rfl⟩)), k57⟩
  have hu58 : own_rg u50_L10 := by
    rcases hd50 with ⟨_, q⟩ | ⟨_, _, q⟩ | ⟨_, _, q⟩
    · rw [q]; exact hs31
    · rw [q]; exact own_rgor _ hs31
    · rw [q]; exact hs41
  have k59 : Go p e below m W T45 85 #[.val (.int p1), .val (.int p2), .val (.int p3), .val (.int p4), .val (.int p5), .val (.int r21), .val (.int r25), .val (.int ((XT.ushr p5 (4 : Int32)) &&& (3 : Int32))), .val (.int r31), .val (.int r36), .val (.int u50_L10), .val (.int r46), .unset, .unset, .unset, .unset, .unset, .unset, .unset] [(.int r31)] := k50.iload X45 hx (hb hby at_83) rfl
  obtain ⟨T60, v60, L60, X60, Q60, k60⟩ := k59.stat (y := (⟨"com/example/promovent/promovent/library/CodePointsComparePinLaw", "toCp", "(I)I"⟩ : MethodName)) (Wd := 0) (cells' := 0) (slots' := 0) (argsL := [(.int r31)]) (rest := []) X45 hx hZ hown (by rw [hml]; rfl) (hv 6 rfl) (hv 7 rfl) (hv 8 rfl) (hv 2 rfl) (hb hby at_85) (by decide) (rmcp l Z a0 hw [] r31 h0 n0 Z0) e45 rfl rfl pd_rmbf1_0 rfl (Nat.le_of_eq rfl) (by decide) (by decide) rfl rfl (by decide) (by decide)
  obtain ⟨rfl, Nq60, e60q⟩ := Q60
  have N60 := Fr.app N45 Nq60
  have e60 : T60.heap = h0 := e60q
  have k60 : Go p e below m W T60 88 #[.val (.int p1), .val (.int p2), .val (.int p3), .val (.int p4), .val (.int p5), .val (.int r21), .val (.int r25), .val (.int ((XT.ushr p5 (4 : Int32)) &&& (3 : Int32))), .val (.int r31), .val (.int r36), .val (.int u50_L10), .val (.int r46), .unset, .unset, .unset, .unset, .unset, .unset, .unset] [(.int (own_cp r31))] := k60
  obtain ⟨r61, hr61, hs61⟩ : ∃ r : Int32, r = (own_cp r31) ∧ (own_cpr r) := ⟨_, rfl, own_cpok hs31⟩
  have k62 : Go p e below m W T60 88 #[.val (.int p1), .val (.int p2), .val (.int p3), .val (.int p4), .val (.int p5), .val (.int r21), .val (.int r25), .val (.int ((XT.ushr p5 (4 : Int32)) &&& (3 : Int32))), .val (.int r31), .val (.int r36), .val (.int u50_L10), .val (.int r46), .unset, .unset, .unset, .unset, .unset, .unset, .unset] [(.int r61)] := hr61 ▸ k60
  clear hr61
  have k63 : Go p e below m W T60 90 #[.val (.int p1), .val (.int p2), .val (.int p3), .val (.int p4), .val (.int p5), .val (.int r21), .val (.int r25), .val (.int ((XT.ushr p5 (4 : Int32)) &&& (3 : Int32))), .val (.int r31), .val (.int r36), .val (.int u50_L10), .val (.int r46), .val (.int r61), .unset, .unset, .unset, .unset, .unset, .unset] [] := k62.istore X60 hx (hb hby at_88) rfl
  have k64 : Go p e below m W T60 92 #[.val (.int p1), .val (.int p2), .val (.int p3), .val (.int p4), .val (.int p5), .val (.int r21), .val (.int r25), .val (.int ((XT.ushr p5 (4 : Int32)) &&& (3 : Int32))), .val (.int r31), .val (.int r36), .val (.int u50_L10), .val (.int r46), .val (.int r61), .unset, .unset, .unset, .unset, .unset, .unset] [(.int r36)] := k63.iload X60 hx (hb hby at_90) rfl
  obtain ⟨T65, v65, L65, X65, Q65, k65⟩ := k64.stat (y := (⟨"com/example/promovent/promovent/library/CodePointsComparePinLaw", "toCp", "(I)I"⟩ : MethodName)) (Wd := 0) (cells' := 0) (slots' := 0) (argsL := [(.int r36)]) (rest := []) X60 hx hZ hown (by rw [hml]; rfl) (hv 6 rfl) (hv 7 rfl) (hv 8 rfl) (hv 2 rfl) (hb hby at_92) (by decide) (rmcp l Z a0 hw [] r36 h0 n0 Z0) e60 rfl rfl pd_rmbf1_0 rfl (Nat.le_of_eq rfl) (by decide) (by decide) rfl rfl (by decide) (by decide)
  obtain ⟨rfl, Nq65, e65q⟩ := Q65
  have N65 := Fr.app N60 Nq65
  have e65 : T65.heap = h0 := e65q
  have k65 : Go p e below m W T65 95 #[.val (.int p1), .val (.int p2), .val (.int p3), .val (.int p4), .val (.int p5), .val (.int r21), .val (.int r25), .val (.int ((XT.ushr p5 (4 : Int32)) &&& (3 : Int32))), .val (.int r31), .val (.int r36), .val (.int u50_L10), .val (.int r46), .val (.int r61), .unset, .unset, .unset, .unset, .unset, .unset] [(.int (own_cp r36))] := k65
  obtain ⟨r66, hr66, hs66⟩ : ∃ r : Int32, r = (own_cp r36) ∧ (own_cpr r) := ⟨_, rfl, own_cpok hs36⟩
  have k67 : Go p e below m W T65 95 #[.val (.int p1), .val (.int p2), .val (.int p3), .val (.int p4), .val (.int p5), .val (.int r21), .val (.int r25), .val (.int ((XT.ushr p5 (4 : Int32)) &&& (3 : Int32))), .val (.int r31), .val (.int r36), .val (.int u50_L10), .val (.int r46), .val (.int r61), .unset, .unset, .unset, .unset, .unset, .unset] [(.int r66)] := hr66 ▸ k65
  clear hr66
  have k68 : Go p e below m W T65 97 #[.val (.int p1), .val (.int p2), .val (.int p3), .val (.int p4), .val (.int p5), .val (.int r21), .val (.int r25), .val (.int ((XT.ushr p5 (4 : Int32)) &&& (3 : Int32))), .val (.int r31), .val (.int r36), .val (.int u50_L10), .val (.int r46), .val (.int r61), .val (.int r66), .unset, .unset, .unset, .unset, .unset] [] := k67.istore X65 hx (hb hby at_95) rfl
  have k69 : Go p e below m W T65 99 #[.val (.int p1), .val (.int p2), .val (.int p3), .val (.int p4), .val (.int p5), .val (.int r21), .val (.int r25), .val (.int ((XT.ushr p5 (4 : Int32)) &&& (3 : Int32))), .val (.int r31), .val (.int r36), .val (.int u50_L10), .val (.int r46), .val (.int r61), .val (.int r66), .unset, .unset, .unset, .unset, .unset] [(.int u50_L10)] := k68.iload X65 hx (hb hby at_97) rfl
  obtain ⟨T70, v70, L70, X70, Q70, k70⟩ := k69.stat (y := (⟨"com/example/promovent/promovent/library/CodePointsComparePinLaw", "toCp", "(I)I"⟩ : MethodName)) (Wd := 0) (cells' := 0) (slots' := 0) (argsL := [(.int u50_L10)]) (rest := []) X65 hx hZ hown (by rw [hml]; rfl) (hv 6 rfl) (hv 7 rfl) (hv 8 rfl) (hv 2 rfl) (hb hby at_99) (by decide) (rmcp l Z a0 hw [] u50_L10 h0 n0 Z0) e65 rfl rfl pd_rmbf1_0 rfl (Nat.le_of_eq rfl) (by decide) (by decide) rfl rfl (by decide) (by decide)
  obtain ⟨rfl, Nq70, e70q⟩ := Q70
  have N70 := Fr.app N65 Nq70
  have e70 : T70.heap = h0 := e70q
  have k70 : Go p e below m W T70 102 #[.val (.int p1), .val (.int p2), .val (.int p3), .val (.int p4), .val (.int p5), .val (.int r21), .val (.int r25), .val (.int ((XT.ushr p5 (4 : Int32)) &&& (3 : Int32))), .val (.int r31), .val (.int r36), .val (.int u50_L10), .val (.int r46), .val (.int r61), .val (.int r66), .unset, .unset, .unset, .unset, .unset] [(.int (own_cp u50_L10))] := k70
  obtain ⟨r71, hr71, hs71⟩ : ∃ r : Int32, r = (own_cp u50_L10) ∧ (own_cpr r) := ⟨_, rfl, own_cpok hu58⟩
  have k72 : Go p e below m W T70 102 #[.val (.int p1), .val (.int p2), .val (.int p3), .val (.int p4), .val (.int p5), .val (.int r21), .val (.int r25), .val (.int ((XT.ushr p5 (4 : Int32)) &&& (3 : Int32))), .val (.int r31), .val (.int r36), .val (.int u50_L10), .val (.int r46), .val (.int r61), .val (.int r66), .unset, .unset, .unset, .unset, .unset] [(.int r71)] := hr71 ▸ k70
  clear hr71
  have k73 : Go p e below m W T70 104 #[.val (.int p1), .val (.int p2), .val (.int p3), .val (.int p4), .val (.int p5), .val (.int r21), .val (.int r25), .val (.int ((XT.ushr p5 (4 : Int32)) &&& (3 : Int32))), .val (.int r31), .val (.int r36), .val (.int u50_L10), .val (.int r46), .val (.int r61), .val (.int r66), .val (.int r71), .unset, .unset, .unset, .unset] [] := k72.istore X70 hx (hb hby at_102) rfl
  have k74 : Go p e below m W T70 106 #[.val (.int p1), .val (.int p2), .val (.int p3), .val (.int p4), .val (.int p5), .val (.int r21), .val (.int r25), .val (.int ((XT.ushr p5 (4 : Int32)) &&& (3 : Int32))), .val (.int r31), .val (.int r36), .val (.int u50_L10), .val (.int r46), .val (.int r61), .val (.int r66), .val (.int r71), .unset, .unset, .unset, .unset] [(.int r46)] := k73.iload X70 hx (hb hby at_104) rfl
  obtain ⟨T75, v75, L75, X75, Q75, k75⟩ := k74.stat (y := (⟨"com/example/promovent/promovent/library/CodePointsComparePinLaw", "toCp", "(I)I"⟩ : MethodName)) (Wd := 0) (cells' := 0) (slots' := 0) (argsL := [(.int r46)]) (rest := []) X70 hx hZ hown (by rw [hml]; rfl) (hv 6 rfl) (hv 7 rfl) (hv 8 rfl) (hv 2 rfl) (hb hby at_106) (by decide) (rmcp l Z a0 hw [] r46 h0 n0 Z0) e70 rfl rfl pd_rmbf1_0 rfl (Nat.le_of_eq rfl) (by decide) (by decide) rfl rfl (by decide) (by decide)
  obtain ⟨rfl, Nq75, e75q⟩ := Q75
  have N75 := Fr.app N70 Nq75
  have e75 : T75.heap = h0 := e75q
  have k75 : Go p e below m W T75 109 #[.val (.int p1), .val (.int p2), .val (.int p3), .val (.int p4), .val (.int p5), .val (.int r21), .val (.int r25), .val (.int ((XT.ushr p5 (4 : Int32)) &&& (3 : Int32))), .val (.int r31), .val (.int r36), .val (.int u50_L10), .val (.int r46), .val (.int r61), .val (.int r66), .val (.int r71), .unset, .unset, .unset, .unset] [(.int (own_cp r46))] := k75
  obtain ⟨r76, hr76, hs76⟩ : ∃ r : Int32, r = (own_cp r46) ∧ (own_cpr r) := ⟨_, rfl, own_cpok hs46⟩
  have k77 : Go p e below m W T75 109 #[.val (.int p1), .val (.int p2), .val (.int p3), .val (.int p4), .val (.int p5), .val (.int r21), .val (.int r25), .val (.int ((XT.ushr p5 (4 : Int32)) &&& (3 : Int32))), .val (.int r31), .val (.int r36), .val (.int u50_L10), .val (.int r46), .val (.int r61), .val (.int r66), .val (.int r71), .unset, .unset, .unset, .unset] [(.int r76)] := hr76 ▸ k75
  clear hr76
  have k78 : Go p e below m W T75 111 #[.val (.int p1), .val (.int p2), .val (.int p3), .val (.int p4), .val (.int p5), .val (.int r21), .val (.int r25), .val (.int ((XT.ushr p5 (4 : Int32)) &&& (3 : Int32))), .val (.int r31), .val (.int r36), .val (.int u50_L10), .val (.int r46), .val (.int r61), .val (.int r66), .val (.int r71), .val (.int r76), .unset, .unset, .unset] [] := k77.istore X75 hx (hb hby at_109) rfl
  have k79 : Go p e below m W T75 117 #[.val (.int p1), .val (.int p2), .val (.int p3), .val (.int p4), .val (.int p5), .val (.int r21), .val (.int r25), .val (.int ((XT.ushr p5 (4 : Int32)) &&& (3 : Int32))), .val (.int r31), .val (.int r36), .val (.int u50_L10), .val (.int r46), .val (.int r61), .val (.int r66), .val (.int r71), .val (.int r76), .unset, .unset, .unset] [(.int r21), (.int r66), (.int r61)] := ((k78.iload X75 hx (hb hby at_111) rfl).iload X75 hx (hb hby at_113) rfl).iload X75 hx (hb hby at_115) rfl
  obtain ⟨T80, v80, L80, X80, Q80, D80, hS80, hZ80, hown80, k80⟩ := k79.statS (y := (⟨"com/example/promovent/promovent/library/CodePointsComparePinLaw", "encode", "(III)Ljava/lang/String;"⟩ : MethodName)) (Wd := 0) (cells' := 7) (slots' := 24) (xs := []) (argsL := [(.int r61), (.int r66), (.int r21)]) (rest := []) X75 hx hZ hown (by rw [hml]; rfl) (hv 10 rfl) (hv 11 rfl) (hv 12 rfl) (hv 2 rfl) (hb hby at_117) (by decide) hS0 hk0 own_EL C0.1 sf0 (rmen l Z a0 hw [] r61 r66 r21 cz h0 n0 Z0 O0 S_cz hcz SAD SHI SLO) e75 rfl rfl pd_rm0_1 rfl (Nat.le_of_eq rfl) (by decide) (by decide) rfl rfl (by decide) (by decide)
  obtain ⟨ro_80, rfl, Nq80, Kq80, q80_0, q80_1, q80_2, q80_3⟩ := Q80
  have N80 := Fr.app N75 Nq80
  obtain ⟨h80, e80⟩ : ∃ h, T80.heap = h := ⟨_, rfl⟩
  rw [e80] at Kq80 q80_0 q80_1
  have Z80 : n0 ≤ h80.size := Nat.le_trans Z0 Kq80.1
  have k80 : Go p e below m W T80 120 #[.val (.int p1), .val (.int p2), .val (.int p3), .val (.int p4), .val (.int p5), .val (.int r21), .val (.int r25), .val (.int ((XT.ushr p5 (4 : Int32)) &&& (3 : Int32))), .val (.int r31), .val (.int r36), .val (.int u50_L10), .val (.int r46), .val (.int r61), .val (.int r66), .val (.int r71), .val (.int r76), .unset, .unset, .unset] [(.ref ro_80)] := k80
  rw [e80] at D80 hS80
  have C80 := C0.trans D80
  have k81 : Go p e below m W T80 122 #[.val (.int p1), .val (.int p2), .val (.int p3), .val (.int p4), .val (.int p5), .val (.int r21), .val (.int r25), .val (.int ((XT.ushr p5 (4 : Int32)) &&& (3 : Int32))), .val (.int r31), .val (.int r36), .val (.int u50_L10), .val (.int r46), .val (.int r61), .val (.int r66), .val (.int r71), .val (.int r76), .val (.ref ro_80), .unset, .unset] [] := k80.astore X80 hx (hb hby at_120) rfl rfl
  have k82 : Go p e below m W T80 128 #[.val (.int p1), .val (.int p2), .val (.int p3), .val (.int p4), .val (.int p5), .val (.int r21), .val (.int r25), .val (.int ((XT.ushr p5 (4 : Int32)) &&& (3 : Int32))), .val (.int r31), .val (.int r36), .val (.int u50_L10), .val (.int r46), .val (.int r61), .val (.int r66), .val (.int r71), .val (.int r76), .val (.ref ro_80), .unset, .unset] [(.int r25), (.int r76), (.int r71)] := ((k81.iload X80 hx (hb hby at_122) rfl).iload X80 hx (hb hby at_124) rfl).iload X80 hx (hb hby at_126) rfl
  have g_1 := O0.keep Kq80 (fun x q => absurd q List.not_mem_nil)
  obtain ⟨T83, v83, L83, X83, Q83, D83, hS83, hZ83, hown83, k83⟩ := k82.statS (y := (⟨"com/example/promovent/promovent/library/CodePointsComparePinLaw", "encode", "(III)Ljava/lang/String;"⟩ : MethodName)) (Wd := 0) (cells' := 14) (slots' := 48) (xs := []) (argsL := [(.int r71), (.int r76), (.int r25)]) (rest := []) X80 hx hZ80 hown80 (by rw [hml]; rfl) (hv 10 rfl) (hv 11 rfl) (hv 12 rfl) (hv 2 rfl) (hb hby at_128) (by decide) hS80 (Nat.le_refl _) own_EL C80.1 sf0 (rmen l Z a0 hw [] r71 r76 r25 cz h80 n0 Z80 g_1 S_cz hcz SAD SHI SLO) e80 rfl rfl pd_rm0_1 rfl (Nat.le_of_eq rfl) (by decide) (by decide) rfl rfl (by decide) (by decide)
  obtain ⟨ro_83, rfl, Nq83, Kq83, q83_0, q83_1, q83_2, q83_3⟩ := Q83
  have N83 := Fr.app N80 Nq83
  obtain ⟨h83, e83⟩ : ∃ h, T83.heap = h := ⟨_, rfl⟩
  rw [e83] at Kq83 q83_0 q83_1
  have Z83 : n0 ≤ h83.size := Nat.le_trans Z80 Kq83.1
  have k83 : Go p e below m W T83 131 #[.val (.int p1), .val (.int p2), .val (.int p3), .val (.int p4), .val (.int p5), .val (.int r21), .val (.int r25), .val (.int ((XT.ushr p5 (4 : Int32)) &&& (3 : Int32))), .val (.int r31), .val (.int r36), .val (.int u50_L10), .val (.int r46), .val (.int r61), .val (.int r66), .val (.int r71), .val (.int r76), .val (.ref ro_80), .unset, .unset] [(.ref ro_83)] := k83
  rw [e83] at D83 hS83
  have C83 := C80.trans D83
  have k84 : Go p e below m W T83 133 #[.val (.int p1), .val (.int p2), .val (.int p3), .val (.int p4), .val (.int p5), .val (.int r21), .val (.int r25), .val (.int ((XT.ushr p5 (4 : Int32)) &&& (3 : Int32))), .val (.int r31), .val (.int r36), .val (.int u50_L10), .val (.int r46), .val (.int r61), .val (.int r66), .val (.int r71), .val (.int r76), .val (.ref ro_80), .val (.ref ro_83), .unset] [] := k83.astore X83 hx (hb hby at_131) rfl rfl
  have kj85 : Go p e below m W T83 228 #[.val (.int p1), .val (.int p2), .val (.int p3), .val (.int p4), .val (.int p5), .val (.int r21), .val (.int r25), .val (.int ((XT.ushr p5 (4 : Int32)) &&& (3 : Int32))), .val (.int r31), .val (.int r36), .val (.int u50_L10), .val (.int r46), .val (.int r61), .val (.int r66), .val (.int r71), .val (.int r76), .val (.ref ro_80), .val (.ref ro_83), .val (.int (own_exp r21 r25 r61 r66 r71 r76))] [] := by
    rcases hs21 with qA | qA | qA <;> rcases hs25 with qB | qB | qB
    ·
      have k86 : Go p e below m W T83 226 #[.val (.int p1), .val (.int p2), .val (.int p3), .val (.int p4), .val (.int p5), .val (.int r21), .val (.int r25), .val (.int ((XT.ushr p5 (4 : Int32)) &&& (3 : Int32))), .val (.int r31), .val (.int r36), .val (.int u50_L10), .val (.int r46), .val (.int r61), .val (.int r66), .val (.int r71), .val (.int r76), .val (.ref ro_80), .val (.ref ro_83), .unset] [(.int (0 : Int32))] := (((((((((((k84.iload X83 hx (hb hby at_133) rfl).ifYes X83 hx (hb hby at_135) (XT.i0_le_t (by rw [qA]; decide)) (by decide) (by decide)).iload X83 hx (hb hby at_167) rfl).iconst X83 hx (hb hby at_169) (v := (1 : Int32)) rfl).icmpYes X83 hx (hb hby at_170) (XT.ii_le_t (by rw [qA]; decide)) (by decide) (by decide)).iload X83 hx (hb hby at_203) rfl).iload X83 hx (hb hby at_205) rfl).icmpYes X83 hx (hb hby at_207) (XT.ii_ge_t (by rw [qA, qB]; decide)) (by decide) (by decide)).iload X83 hx (hb hby at_214) rfl).iload X83 hx (hb hby at_216) rfl).icmpYes X83 hx (hb hby at_218) (XT.ii_le_t (by rw [qA, qB]; decide)) (by decide) (by decide)).iconst X83 hx (hb hby at_225) (v := (0 : Int32)) rfl
      have k87 : Go p e below m W T83 226 #[.val (.int p1), .val (.int p2), .val (.int p3), .val (.int p4), .val (.int p5), .val (.int r21), .val (.int r25), .val (.int ((XT.ushr p5 (4 : Int32)) &&& (3 : Int32))), .val (.int r31), .val (.int r36), .val (.int u50_L10), .val (.int r46), .val (.int r61), .val (.int r66), .val (.int r71), .val (.int r76), .val (.ref ro_80), .val (.ref ro_83), .unset] [(.int (own_exp r21 r25 r61 r66 r71 r76))] := k86.cast (y := (own_exp r21 r25 r61 r66 r71 r76)) (by rw [qA, qB]; simp +decide [own_exp])
      have k88 : Go p e below m W T83 228 #[.val (.int p1), .val (.int p2), .val (.int p3), .val (.int p4), .val (.int p5), .val (.int r21), .val (.int r25), .val (.int ((XT.ushr p5 (4 : Int32)) &&& (3 : Int32))), .val (.int r31), .val (.int r36), .val (.int u50_L10), .val (.int r46), .val (.int r61), .val (.int r66), .val (.int r71), .val (.int r76), .val (.ref ro_80), .val (.ref ro_83), .val (.int (own_exp r21 r25 r61 r66 r71 r76))] [] := k87.istore X83 hx (hb hby at_226) rfl
      exact k88
    ·
      have k89 : Go p e below m W T83 226 #[.val (.int p1), .val (.int p2), .val (.int p3), .val (.int p4), .val (.int p5), .val (.int r21), .val (.int r25), .val (.int ((XT.ushr p5 (4 : Int32)) &&& (3 : Int32))), .val (.int r31), .val (.int r36), .val (.int u50_L10), .val (.int r46), .val (.int r61), .val (.int r66), .val (.int r71), .val (.int r76), .val (.ref ro_80), .val (.ref ro_83), .unset] [(.int (-1 : Int32))] := (((((((((k84.iload X83 hx (hb hby at_133) rfl).ifYes X83 hx (hb hby at_135) (XT.i0_le_t (by rw [qA]; decide)) (by decide) (by decide)).iload X83 hx (hb hby at_167) rfl).iconst X83 hx (hb hby at_169) (v := (1 : Int32)) rfl).icmpYes X83 hx (hb hby at_170) (XT.ii_le_t (by rw [qA]; decide)) (by decide) (by decide)).iload X83 hx (hb hby at_203) rfl).iload X83 hx (hb hby at_205) rfl).icmpNo X83 hx (hb hby at_207) (XT.ii_ge_f (by rw [qA, qB]; decide))).iconst X83 hx (hb hby at_210) (v := (-1 : Int32)) rfl).goto X83 hx (hb hby at_211) (by decide) (by decide)
      have k90 : Go p e below m W T83 226 #[.val (.int p1), .val (.int p2), .val (.int p3), .val (.int p4), .val (.int p5), .val (.int r21), .val (.int r25), .val (.int ((XT.ushr p5 (4 : Int32)) &&& (3 : Int32))), .val (.int r31), .val (.int r36), .val (.int u50_L10), .val (.int r46), .val (.int r61), .val (.int r66), .val (.int r71), .val (.int r76), .val (.ref ro_80), .val (.ref ro_83), .unset] [(.int (own_exp r21 r25 r61 r66 r71 r76))] := k89.cast (y := (own_exp r21 r25 r61 r66 r71 r76)) (by rw [qA, qB]; simp +decide [own_exp])
      have k91 : Go p e below m W T83 228 #[.val (.int p1), .val (.int p2), .val (.int p3), .val (.int p4), .val (.int p5), .val (.int r21), .val (.int r25), .val (.int ((XT.ushr p5 (4 : Int32)) &&& (3 : Int32))), .val (.int r31), .val (.int r36), .val (.int u50_L10), .val (.int r46), .val (.int r61), .val (.int r66), .val (.int r71), .val (.int r76), .val (.ref ro_80), .val (.ref ro_83), .val (.int (own_exp r21 r25 r61 r66 r71 r76))] [] := k90.istore X83 hx (hb hby at_226) rfl
      exact k91
    ·
      have k92 : Go p e below m W T83 226 #[.val (.int p1), .val (.int p2), .val (.int p3), .val (.int p4), .val (.int p5), .val (.int r21), .val (.int r25), .val (.int ((XT.ushr p5 (4 : Int32)) &&& (3 : Int32))), .val (.int r31), .val (.int r36), .val (.int u50_L10), .val (.int r46), .val (.int r61), .val (.int r66), .val (.int r71), .val (.int r76), .val (.ref ro_80), .val (.ref ro_83), .unset] [(.int (-1 : Int32))] := (((((((((k84.iload X83 hx (hb hby at_133) rfl).ifYes X83 hx (hb hby at_135) (XT.i0_le_t (by rw [qA]; decide)) (by decide) (by decide)).iload X83 hx (hb hby at_167) rfl).iconst X83 hx (hb hby at_169) (v := (1 : Int32)) rfl).icmpYes X83 hx (hb hby at_170) (XT.ii_le_t (by rw [qA]; decide)) (by decide) (by decide)).iload X83 hx (hb hby at_203) rfl).iload X83 hx (hb hby at_205) rfl).icmpNo X83 hx (hb hby at_207) (XT.ii_ge_f (by rw [qA, qB]; decide))).iconst X83 hx (hb hby at_210) (v := (-1 : Int32)) rfl).goto X83 hx (hb hby at_211) (by decide) (by decide)
      have k93 : Go p e below m W T83 226 #[.val (.int p1), .val (.int p2), .val (.int p3), .val (.int p4), .val (.int p5), .val (.int r21), .val (.int r25), .val (.int ((XT.ushr p5 (4 : Int32)) &&& (3 : Int32))), .val (.int r31), .val (.int r36), .val (.int u50_L10), .val (.int r46), .val (.int r61), .val (.int r66), .val (.int r71), .val (.int r76), .val (.ref ro_80), .val (.ref ro_83), .unset] [(.int (own_exp r21 r25 r61 r66 r71 r76))] := k92.cast (y := (own_exp r21 r25 r61 r66 r71 r76)) (by rw [qA, qB]; simp +decide [own_exp])
      have k94 : Go p e below m W T83 228 #[.val (.int p1), .val (.int p2), .val (.int p3), .val (.int p4), .val (.int p5), .val (.int r21), .val (.int r25), .val (.int ((XT.ushr p5 (4 : Int32)) &&& (3 : Int32))), .val (.int r31), .val (.int r36), .val (.int u50_L10), .val (.int r46), .val (.int r61), .val (.int r66), .val (.int r71), .val (.int r76), .val (.ref ro_80), .val (.ref ro_83), .val (.int (own_exp r21 r25 r61 r66 r71 r76))] [] := k93.istore X83 hx (hb hby at_226) rfl
      exact k94
    ·
      have k95 : Go p e below m W T83 218 #[.val (.int p1), .val (.int p2), .val (.int p3), .val (.int p4), .val (.int p5), .val (.int r21), .val (.int r25), .val (.int ((XT.ushr p5 (4 : Int32)) &&& (3 : Int32))), .val (.int r31), .val (.int r36), .val (.int u50_L10), .val (.int r46), .val (.int r61), .val (.int r66), .val (.int r71), .val (.int r76), .val (.ref ro_80), .val (.ref ro_83), .unset] [(.int r25), (.int r21)] := (((((((((((k84.iload X83 hx (hb hby at_133) rfl).ifNo X83 hx (hb hby at_135) (XT.i0_le_f (by rw [qA]; decide))).iload X83 hx (hb hby at_138) rfl).ifYes X83 hx (hb hby at_140) (XT.i0_le_t (by rw [qB]; decide)) (by decide) (by decide)).iload X83 hx (hb hby at_167) rfl).iconst X83 hx (hb hby at_169) (v := (1 : Int32)) rfl).icmpYes X83 hx (hb hby at_170) (XT.ii_le_t (by rw [qA]; decide)) (by decide) (by decide)).iload X83 hx (hb hby at_203) rfl).iload X83 hx (hb hby at_205) rfl).icmpYes X83 hx (hb hby at_207) (XT.ii_ge_t (by rw [qA, qB]; decide)) (by decide) (by decide)).iload X83 hx (hb hby at_214) rfl).iload X83 hx (hb hby at_216) rfl
      have k96 : Go p e below m W T83 226 #[.val (.int p1), .val (.int p2), .val (.int p3), .val (.int p4), .val (.int p5), .val (.int r21), .val (.int r25), .val (.int ((XT.ushr p5 (4 : Int32)) &&& (3 : Int32))), .val (.int r31), .val (.int r36), .val (.int u50_L10), .val (.int r46), .val (.int r61), .val (.int r66), .val (.int r71), .val (.int r76), .val (.ref ro_80), .val (.ref ro_83), .unset] [(.int (1 : Int32))] := ((k95.icmpNo X83 hx (hb hby at_218) (XT.ii_le_f (by rw [qA, qB]; decide))).iconst X83 hx (hb hby at_221) (v := (1 : Int32)) rfl).goto X83 hx (hb hby at_222) (by decide) (by decide)
      have k97 : Go p e below m W T83 226 #[.val (.int p1), .val (.int p2), .val (.int p3), .val (.int p4), .val (.int p5), .val (.int r21), .val (.int r25), .val (.int ((XT.ushr p5 (4 : Int32)) &&& (3 : Int32))), .val (.int r31), .val (.int r36), .val (.int u50_L10), .val (.int r46), .val (.int r61), .val (.int r66), .val (.int r71), .val (.int r76), .val (.ref ro_80), .val (.ref ro_83), .unset] [(.int (own_exp r21 r25 r61 r66 r71 r76))] := k96.cast (y := (own_exp r21 r25 r61 r66 r71 r76)) (by rw [qA, qB]; simp +decide [own_exp])
      have k98 : Go p e below m W T83 228 #[.val (.int p1), .val (.int p2), .val (.int p3), .val (.int p4), .val (.int p5), .val (.int r21), .val (.int r25), .val (.int ((XT.ushr p5 (4 : Int32)) &&& (3 : Int32))), .val (.int r31), .val (.int r36), .val (.int u50_L10), .val (.int r46), .val (.int r61), .val (.int r66), .val (.int r71), .val (.int r76), .val (.ref ro_80), .val (.ref ro_83), .val (.int (own_exp r21 r25 r61 r66 r71 r76))] [] := k97.istore X83 hx (hb hby at_226) rfl
      exact k98
    ·
      have k99 : Go p e below m W T83 147 #[.val (.int p1), .val (.int p2), .val (.int p3), .val (.int p4), .val (.int p5), .val (.int r21), .val (.int r25), .val (.int ((XT.ushr p5 (4 : Int32)) &&& (3 : Int32))), .val (.int r31), .val (.int r36), .val (.int u50_L10), .val (.int r46), .val (.int r61), .val (.int r66), .val (.int r71), .val (.int r76), .val (.ref ro_80), .val (.ref ro_83), .unset] [(.int r71), (.int r61)] := (((((k84.iload X83 hx (hb hby at_133) rfl).ifNo X83 hx (hb hby at_135) (XT.i0_le_f (by rw [qA]; decide))).iload X83 hx (hb hby at_138) rfl).ifNo X83 hx (hb hby at_140) (XT.i0_le_f (by rw [qB]; decide))).iload X83 hx (hb hby at_143) rfl).iload X83 hx (hb hby at_145) rfl
      by_cases hc147_100 : r61 = r71
      ·
        have k101 : Go p e below m W T83 226 #[.val (.int p1), .val (.int p2), .val (.int p3), .val (.int p4), .val (.int p5), .val (.int r21), .val (.int r25), .val (.int ((XT.ushr p5 (4 : Int32)) &&& (3 : Int32))), .val (.int r31), .val (.int r36), .val (.int u50_L10), .val (.int r46), .val (.int r61), .val (.int r66), .val (.int r71), .val (.int r76), .val (.ref ro_80), .val (.ref ro_83), .unset] [(.int (0 : Int32))] := ((((((((((k99.icmpYes X83 hx (hb hby at_147) (XT.ii_eq_t hc147_100) (by decide) (by decide)).iload X83 hx (hb hby at_167) rfl).iconst X83 hx (hb hby at_169) (v := (1 : Int32)) rfl).icmpYes X83 hx (hb hby at_170) (XT.ii_le_t (by rw [qA]; decide)) (by decide) (by decide)).iload X83 hx (hb hby at_203) rfl).iload X83 hx (hb hby at_205) rfl).icmpYes X83 hx (hb hby at_207) (XT.ii_ge_t (by rw [qA, qB]; decide)) (by decide) (by decide)).iload X83 hx (hb hby at_214) rfl).iload X83 hx (hb hby at_216) rfl).icmpYes X83 hx (hb hby at_218) (XT.ii_le_t (by rw [qA, qB]; decide)) (by decide) (by decide)).iconst X83 hx (hb hby at_225) (v := (0 : Int32)) rfl
        have k102 : Go p e below m W T83 226 #[.val (.int p1), .val (.int p2), .val (.int p3), .val (.int p4), .val (.int p5), .val (.int r21), .val (.int r25), .val (.int ((XT.ushr p5 (4 : Int32)) &&& (3 : Int32))), .val (.int r31), .val (.int r36), .val (.int u50_L10), .val (.int r46), .val (.int r61), .val (.int r66), .val (.int r71), .val (.int r76), .val (.ref ro_80), .val (.ref ro_83), .unset] [(.int (own_exp r21 r25 r61 r66 r71 r76))] := k101.cast (y := (own_exp r21 r25 r61 r66 r71 r76)) (by rw [qA, qB]; simp +decide [own_exp, hc147_100])
        have k103 : Go p e below m W T83 228 #[.val (.int p1), .val (.int p2), .val (.int p3), .val (.int p4), .val (.int p5), .val (.int r21), .val (.int r25), .val (.int ((XT.ushr p5 (4 : Int32)) &&& (3 : Int32))), .val (.int r31), .val (.int r36), .val (.int u50_L10), .val (.int r46), .val (.int r61), .val (.int r66), .val (.int r71), .val (.int r76), .val (.ref ro_80), .val (.ref ro_83), .val (.int (own_exp r21 r25 r61 r66 r71 r76))] [] := k102.istore X83 hx (hb hby at_226) rfl
        exact k103
      ·
        have k104 : Go p e below m W T83 154 #[.val (.int p1), .val (.int p2), .val (.int p3), .val (.int p4), .val (.int p5), .val (.int r21), .val (.int r25), .val (.int ((XT.ushr p5 (4 : Int32)) &&& (3 : Int32))), .val (.int r31), .val (.int r36), .val (.int u50_L10), .val (.int r46), .val (.int r61), .val (.int r66), .val (.int r71), .val (.int r76), .val (.ref ro_80), .val (.ref ro_83), .unset] [(.int r71), (.int r61)] := ((k99.icmpNo X83 hx (hb hby at_147) (XT.ii_eq_f hc147_100)).iload X83 hx (hb hby at_150) rfl).iload X83 hx (hb hby at_152) rfl
        by_cases hc154_105 : r61 < r71
        ·
          have k106 : Go p e below m W T83 162 #[.val (.int p1), .val (.int p2), .val (.int p3), .val (.int p4), .val (.int p5), .val (.int r21), .val (.int r25), .val (.int ((XT.ushr p5 (4 : Int32)) &&& (3 : Int32))), .val (.int r31), .val (.int r36), .val (.int u50_L10), .val (.int r46), .val (.int r61), .val (.int r66), .val (.int r71), .val (.int r76), .val (.ref ro_80), .val (.ref ro_83), .unset] [(.int (-1 : Int32))] := ((k104.icmpNo X83 hx (hb hby at_154) (XT.ii_ge_f hc154_105)).iconst X83 hx (hb hby at_157) (v := (-1 : Int32)) rfl).goto X83 hx (hb hby at_158) (by decide) (by decide)
          have k107 : Go p e below m W T83 162 #[.val (.int p1), .val (.int p2), .val (.int p3), .val (.int p4), .val (.int p5), .val (.int r21), .val (.int r25), .val (.int ((XT.ushr p5 (4 : Int32)) &&& (3 : Int32))), .val (.int r31), .val (.int r36), .val (.int u50_L10), .val (.int r46), .val (.int r61), .val (.int r66), .val (.int r71), .val (.int r76), .val (.ref ro_80), .val (.ref ro_83), .unset] [(.int (own_exp r21 r25 r61 r66 r71 r76))] := k106.cast (y := (own_exp r21 r25 r61 r66 r71 r76)) (by rw [qA, qB]; simp +decide [own_exp, hc147_100, hc154_105])
          have k108 : Go p e below m W T83 164 #[.val (.int p1), .val (.int p2), .val (.int p3), .val (.int p4), .val (.int p5), .val (.int r21), .val (.int r25), .val (.int ((XT.ushr p5 (4 : Int32)) &&& (3 : Int32))), .val (.int r31), .val (.int r36), .val (.int u50_L10), .val (.int r46), .val (.int r61), .val (.int r66), .val (.int r71), .val (.int r76), .val (.ref ro_80), .val (.ref ro_83), .val (.int (own_exp r21 r25 r61 r66 r71 r76))] [] := k107.istore X83 hx (hb hby at_162) rfl
          have k109 : Go p e below m W T83 228 #[.val (.int p1), .val (.int p2), .val (.int p3), .val (.int p4), .val (.int p5), .val (.int r21), .val (.int r25), .val (.int ((XT.ushr p5 (4 : Int32)) &&& (3 : Int32))), .val (.int r31), .val (.int r36), .val (.int u50_L10), .val (.int r46), .val (.int r61), .val (.int r66), .val (.int r71), .val (.int r76), .val (.ref ro_80), .val (.ref ro_83), .val (.int (own_exp r21 r25 r61 r66 r71 r76))] [] := k108.goto X83 hx (hb hby at_164) (by decide) (by decide)
          exact k109
        ·
          have k110 : Go p e below m W T83 162 #[.val (.int p1), .val (.int p2), .val (.int p3), .val (.int p4), .val (.int p5), .val (.int r21), .val (.int r25), .val (.int ((XT.ushr p5 (4 : Int32)) &&& (3 : Int32))), .val (.int r31), .val (.int r36), .val (.int u50_L10), .val (.int r46), .val (.int r61), .val (.int r66), .val (.int r71), .val (.int r76), .val (.ref ro_80), .val (.ref ro_83), .unset] [(.int (1 : Int32))] := (k104.icmpYes X83 hx (hb hby at_154) (XT.ii_ge_t hc154_105) (by decide) (by decide)).iconst X83 hx (hb hby at_161) (v := (1 : Int32)) rfl
          have k111 : Go p e below m W T83 162 #[.val (.int p1), .val (.int p2), .val (.int p3), .val (.int p4), .val (.int p5), .val (.int r21), .val (.int r25), .val (.int ((XT.ushr p5 (4 : Int32)) &&& (3 : Int32))), .val (.int r31), .val (.int r36), .val (.int u50_L10), .val (.int r46), .val (.int r61), .val (.int r66), .val (.int r71), .val (.int r76), .val (.ref ro_80), .val (.ref ro_83), .unset] [(.int (own_exp r21 r25 r61 r66 r71 r76))] := k110.cast (y := (own_exp r21 r25 r61 r66 r71 r76)) (by rw [qA, qB]; simp +decide [own_exp, hc147_100, hc154_105])
          have k112 : Go p e below m W T83 164 #[.val (.int p1), .val (.int p2), .val (.int p3), .val (.int p4), .val (.int p5), .val (.int r21), .val (.int r25), .val (.int ((XT.ushr p5 (4 : Int32)) &&& (3 : Int32))), .val (.int r31), .val (.int r36), .val (.int u50_L10), .val (.int r46), .val (.int r61), .val (.int r66), .val (.int r71), .val (.int r76), .val (.ref ro_80), .val (.ref ro_83), .val (.int (own_exp r21 r25 r61 r66 r71 r76))] [] := k111.istore X83 hx (hb hby at_162) rfl
          have k113 : Go p e below m W T83 228 #[.val (.int p1), .val (.int p2), .val (.int p3), .val (.int p4), .val (.int p5), .val (.int r21), .val (.int r25), .val (.int ((XT.ushr p5 (4 : Int32)) &&& (3 : Int32))), .val (.int r31), .val (.int r36), .val (.int u50_L10), .val (.int r46), .val (.int r61), .val (.int r66), .val (.int r71), .val (.int r76), .val (.ref ro_80), .val (.ref ro_83), .val (.int (own_exp r21 r25 r61 r66 r71 r76))] [] := k112.goto X83 hx (hb hby at_164) (by decide) (by decide)
          exact k113
    ·
      have k114 : Go p e below m W T83 147 #[.val (.int p1), .val (.int p2), .val (.int p3), .val (.int p4), .val (.int p5), .val (.int r21), .val (.int r25), .val (.int ((XT.ushr p5 (4 : Int32)) &&& (3 : Int32))), .val (.int r31), .val (.int r36), .val (.int u50_L10), .val (.int r46), .val (.int r61), .val (.int r66), .val (.int r71), .val (.int r76), .val (.ref ro_80), .val (.ref ro_83), .unset] [(.int r71), (.int r61)] := (((((k84.iload X83 hx (hb hby at_133) rfl).ifNo X83 hx (hb hby at_135) (XT.i0_le_f (by rw [qA]; decide))).iload X83 hx (hb hby at_138) rfl).ifNo X83 hx (hb hby at_140) (XT.i0_le_f (by rw [qB]; decide))).iload X83 hx (hb hby at_143) rfl).iload X83 hx (hb hby at_145) rfl
      by_cases hc147_115 : r61 = r71
      ·
        have k116 : Go p e below m W T83 226 #[.val (.int p1), .val (.int p2), .val (.int p3), .val (.int p4), .val (.int p5), .val (.int r21), .val (.int r25), .val (.int ((XT.ushr p5 (4 : Int32)) &&& (3 : Int32))), .val (.int r31), .val (.int r36), .val (.int u50_L10), .val (.int r46), .val (.int r61), .val (.int r66), .val (.int r71), .val (.int r76), .val (.ref ro_80), .val (.ref ro_83), .unset] [(.int (-1 : Int32))] := ((((((((k114.icmpYes X83 hx (hb hby at_147) (XT.ii_eq_t hc147_115) (by decide) (by decide)).iload X83 hx (hb hby at_167) rfl).iconst X83 hx (hb hby at_169) (v := (1 : Int32)) rfl).icmpYes X83 hx (hb hby at_170) (XT.ii_le_t (by rw [qA]; decide)) (by decide) (by decide)).iload X83 hx (hb hby at_203) rfl).iload X83 hx (hb hby at_205) rfl).icmpNo X83 hx (hb hby at_207) (XT.ii_ge_f (by rw [qA, qB]; decide))).iconst X83 hx (hb hby at_210) (v := (-1 : Int32)) rfl).goto X83 hx (hb hby at_211) (by decide) (by decide)
        have k117 : Go p e below m W T83 226 #[.val (.int p1), .val (.int p2), .val (.int p3), .val (.int p4), .val (.int p5), .val (.int r21), .val (.int r25), .val (.int ((XT.ushr p5 (4 : Int32)) &&& (3 : Int32))), .val (.int r31), .val (.int r36), .val (.int u50_L10), .val (.int r46), .val (.int r61), .val (.int r66), .val (.int r71), .val (.int r76), .val (.ref ro_80), .val (.ref ro_83), .unset] [(.int (own_exp r21 r25 r61 r66 r71 r76))] := k116.cast (y := (own_exp r21 r25 r61 r66 r71 r76)) (by rw [qA, qB]; simp +decide [own_exp, hc147_115])
        have k118 : Go p e below m W T83 228 #[.val (.int p1), .val (.int p2), .val (.int p3), .val (.int p4), .val (.int p5), .val (.int r21), .val (.int r25), .val (.int ((XT.ushr p5 (4 : Int32)) &&& (3 : Int32))), .val (.int r31), .val (.int r36), .val (.int u50_L10), .val (.int r46), .val (.int r61), .val (.int r66), .val (.int r71), .val (.int r76), .val (.ref ro_80), .val (.ref ro_83), .val (.int (own_exp r21 r25 r61 r66 r71 r76))] [] := k117.istore X83 hx (hb hby at_226) rfl
        exact k118
      ·
        have k119 : Go p e below m W T83 154 #[.val (.int p1), .val (.int p2), .val (.int p3), .val (.int p4), .val (.int p5), .val (.int r21), .val (.int r25), .val (.int ((XT.ushr p5 (4 : Int32)) &&& (3 : Int32))), .val (.int r31), .val (.int r36), .val (.int u50_L10), .val (.int r46), .val (.int r61), .val (.int r66), .val (.int r71), .val (.int r76), .val (.ref ro_80), .val (.ref ro_83), .unset] [(.int r71), (.int r61)] := ((k114.icmpNo X83 hx (hb hby at_147) (XT.ii_eq_f hc147_115)).iload X83 hx (hb hby at_150) rfl).iload X83 hx (hb hby at_152) rfl
        by_cases hc154_120 : r61 < r71
        ·
          have k121 : Go p e below m W T83 162 #[.val (.int p1), .val (.int p2), .val (.int p3), .val (.int p4), .val (.int p5), .val (.int r21), .val (.int r25), .val (.int ((XT.ushr p5 (4 : Int32)) &&& (3 : Int32))), .val (.int r31), .val (.int r36), .val (.int u50_L10), .val (.int r46), .val (.int r61), .val (.int r66), .val (.int r71), .val (.int r76), .val (.ref ro_80), .val (.ref ro_83), .unset] [(.int (-1 : Int32))] := ((k119.icmpNo X83 hx (hb hby at_154) (XT.ii_ge_f hc154_120)).iconst X83 hx (hb hby at_157) (v := (-1 : Int32)) rfl).goto X83 hx (hb hby at_158) (by decide) (by decide)
          have k122 : Go p e below m W T83 162 #[.val (.int p1), .val (.int p2), .val (.int p3), .val (.int p4), .val (.int p5), .val (.int r21), .val (.int r25), .val (.int ((XT.ushr p5 (4 : Int32)) &&& (3 : Int32))), .val (.int r31), .val (.int r36), .val (.int u50_L10), .val (.int r46), .val (.int r61), .val (.int r66), .val (.int r71), .val (.int r76), .val (.ref ro_80), .val (.ref ro_83), .unset] [(.int (own_exp r21 r25 r61 r66 r71 r76))] := k121.cast (y := (own_exp r21 r25 r61 r66 r71 r76)) (by rw [qA, qB]; simp +decide [own_exp, hc147_115, hc154_120])
          have k123 : Go p e below m W T83 164 #[.val (.int p1), .val (.int p2), .val (.int p3), .val (.int p4), .val (.int p5), .val (.int r21), .val (.int r25), .val (.int ((XT.ushr p5 (4 : Int32)) &&& (3 : Int32))), .val (.int r31), .val (.int r36), .val (.int u50_L10), .val (.int r46), .val (.int r61), .val (.int r66), .val (.int r71), .val (.int r76), .val (.ref ro_80), .val (.ref ro_83), .val (.int (own_exp r21 r25 r61 r66 r71 r76))] [] := k122.istore X83 hx (hb hby at_162) rfl
          have k124 : Go p e below m W T83 228 #[.val (.int p1), .val (.int p2), .val (.int p3), .val (.int p4), .val (.int p5), .val (.int r21), .val (.int r25), .val (.int ((XT.ushr p5 (4 : Int32)) &&& (3 : Int32))), .val (.int r31), .val (.int r36), .val (.int u50_L10), .val (.int r46), .val (.int r61), .val (.int r66), .val (.int r71), .val (.int r76), .val (.ref ro_80), .val (.ref ro_83), .val (.int (own_exp r21 r25 r61 r66 r71 r76))] [] := k123.goto X83 hx (hb hby at_164) (by decide) (by decide)
          exact k124
        ·
          have k125 : Go p e below m W T83 162 #[.val (.int p1), .val (.int p2), .val (.int p3), .val (.int p4), .val (.int p5), .val (.int r21), .val (.int r25), .val (.int ((XT.ushr p5 (4 : Int32)) &&& (3 : Int32))), .val (.int r31), .val (.int r36), .val (.int u50_L10), .val (.int r46), .val (.int r61), .val (.int r66), .val (.int r71), .val (.int r76), .val (.ref ro_80), .val (.ref ro_83), .unset] [(.int (1 : Int32))] := (k119.icmpYes X83 hx (hb hby at_154) (XT.ii_ge_t hc154_120) (by decide) (by decide)).iconst X83 hx (hb hby at_161) (v := (1 : Int32)) rfl
          have k126 : Go p e below m W T83 162 #[.val (.int p1), .val (.int p2), .val (.int p3), .val (.int p4), .val (.int p5), .val (.int r21), .val (.int r25), .val (.int ((XT.ushr p5 (4 : Int32)) &&& (3 : Int32))), .val (.int r31), .val (.int r36), .val (.int u50_L10), .val (.int r46), .val (.int r61), .val (.int r66), .val (.int r71), .val (.int r76), .val (.ref ro_80), .val (.ref ro_83), .unset] [(.int (own_exp r21 r25 r61 r66 r71 r76))] := k125.cast (y := (own_exp r21 r25 r61 r66 r71 r76)) (by rw [qA, qB]; simp +decide [own_exp, hc147_115, hc154_120])
          have k127 : Go p e below m W T83 164 #[.val (.int p1), .val (.int p2), .val (.int p3), .val (.int p4), .val (.int p5), .val (.int r21), .val (.int r25), .val (.int ((XT.ushr p5 (4 : Int32)) &&& (3 : Int32))), .val (.int r31), .val (.int r36), .val (.int u50_L10), .val (.int r46), .val (.int r61), .val (.int r66), .val (.int r71), .val (.int r76), .val (.ref ro_80), .val (.ref ro_83), .val (.int (own_exp r21 r25 r61 r66 r71 r76))] [] := k126.istore X83 hx (hb hby at_162) rfl
          have k128 : Go p e below m W T83 228 #[.val (.int p1), .val (.int p2), .val (.int p3), .val (.int p4), .val (.int p5), .val (.int r21), .val (.int r25), .val (.int ((XT.ushr p5 (4 : Int32)) &&& (3 : Int32))), .val (.int r31), .val (.int r36), .val (.int u50_L10), .val (.int r46), .val (.int r61), .val (.int r66), .val (.int r71), .val (.int r76), .val (.ref ro_80), .val (.ref ro_83), .val (.int (own_exp r21 r25 r61 r66 r71 r76))] [] := k127.goto X83 hx (hb hby at_164) (by decide) (by decide)
          exact k128
    ·
      have k129 : Go p e below m W T83 207 #[.val (.int p1), .val (.int p2), .val (.int p3), .val (.int p4), .val (.int p5), .val (.int r21), .val (.int r25), .val (.int ((XT.ushr p5 (4 : Int32)) &&& (3 : Int32))), .val (.int r31), .val (.int r36), .val (.int u50_L10), .val (.int r46), .val (.int r61), .val (.int r66), .val (.int r71), .val (.int r76), .val (.ref ro_80), .val (.ref ro_83), .unset] [(.int r25), (.int r21)] := (((((((((((k84.iload X83 hx (hb hby at_133) rfl).ifNo X83 hx (hb hby at_135) (XT.i0_le_f (by rw [qA]; decide))).iload X83 hx (hb hby at_138) rfl).ifYes X83 hx (hb hby at_140) (XT.i0_le_t (by rw [qB]; decide)) (by decide) (by decide)).iload X83 hx (hb hby at_167) rfl).iconst X83 hx (hb hby at_169) (v := (1 : Int32)) rfl).icmpNo X83 hx (hb hby at_170) (XT.ii_le_f (by rw [qA]; decide))).iload X83 hx (hb hby at_173) rfl).iconst X83 hx (hb hby at_175) (v := (1 : Int32)) rfl).icmpYes X83 hx (hb hby at_176) (XT.ii_le_t (by rw [qB]; decide)) (by decide) (by decide)).iload X83 hx (hb hby at_203) rfl).iload X83 hx (hb hby at_205) rfl
      have k130 : Go p e below m W T83 226 #[.val (.int p1), .val (.int p2), .val (.int p3), .val (.int p4), .val (.int p5), .val (.int r21), .val (.int r25), .val (.int ((XT.ushr p5 (4 : Int32)) &&& (3 : Int32))), .val (.int r31), .val (.int r36), .val (.int u50_L10), .val (.int r46), .val (.int r61), .val (.int r66), .val (.int r71), .val (.int r76), .val (.ref ro_80), .val (.ref ro_83), .unset] [(.int (1 : Int32))] := (((((k129.icmpYes X83 hx (hb hby at_207) (XT.ii_ge_t (by rw [qA, qB]; decide)) (by decide) (by decide)).iload X83 hx (hb hby at_214) rfl).iload X83 hx (hb hby at_216) rfl).icmpNo X83 hx (hb hby at_218) (XT.ii_le_f (by rw [qA, qB]; decide))).iconst X83 hx (hb hby at_221) (v := (1 : Int32)) rfl).goto X83 hx (hb hby at_222) (by decide) (by decide)
      have k131 : Go p e below m W T83 226 #[.val (.int p1), .val (.int p2), .val (.int p3), .val (.int p4), .val (.int p5), .val (.int r21), .val (.int r25), .val (.int ((XT.ushr p5 (4 : Int32)) &&& (3 : Int32))), .val (.int r31), .val (.int r36), .val (.int u50_L10), .val (.int r46), .val (.int r61), .val (.int r66), .val (.int r71), .val (.int r76), .val (.ref ro_80), .val (.ref ro_83), .unset] [(.int (own_exp r21 r25 r61 r66 r71 r76))] := k130.cast (y := (own_exp r21 r25 r61 r66 r71 r76)) (by rw [qA, qB]; simp +decide [own_exp])
      have k132 : Go p e below m W T83 228 #[.val (.int p1), .val (.int p2), .val (.int p3), .val (.int p4), .val (.int p5), .val (.int r21), .val (.int r25), .val (.int ((XT.ushr p5 (4 : Int32)) &&& (3 : Int32))), .val (.int r31), .val (.int r36), .val (.int u50_L10), .val (.int r46), .val (.int r61), .val (.int r66), .val (.int r71), .val (.int r76), .val (.ref ro_80), .val (.ref ro_83), .val (.int (own_exp r21 r25 r61 r66 r71 r76))] [] := k131.istore X83 hx (hb hby at_226) rfl
      exact k132
    ·
      have k133 : Go p e below m W T83 147 #[.val (.int p1), .val (.int p2), .val (.int p3), .val (.int p4), .val (.int p5), .val (.int r21), .val (.int r25), .val (.int ((XT.ushr p5 (4 : Int32)) &&& (3 : Int32))), .val (.int r31), .val (.int r36), .val (.int u50_L10), .val (.int r46), .val (.int r61), .val (.int r66), .val (.int r71), .val (.int r76), .val (.ref ro_80), .val (.ref ro_83), .unset] [(.int r71), (.int r61)] := (((((k84.iload X83 hx (hb hby at_133) rfl).ifNo X83 hx (hb hby at_135) (XT.i0_le_f (by rw [qA]; decide))).iload X83 hx (hb hby at_138) rfl).ifNo X83 hx (hb hby at_140) (XT.i0_le_f (by rw [qB]; decide))).iload X83 hx (hb hby at_143) rfl).iload X83 hx (hb hby at_145) rfl
      by_cases hc147_134 : r61 = r71
      ·
        have k135 : Go p e below m W T83 218 #[.val (.int p1), .val (.int p2), .val (.int p3), .val (.int p4), .val (.int p5), .val (.int r21), .val (.int r25), .val (.int ((XT.ushr p5 (4 : Int32)) &&& (3 : Int32))), .val (.int r31), .val (.int r36), .val (.int u50_L10), .val (.int r46), .val (.int r61), .val (.int r66), .val (.int r71), .val (.int r76), .val (.ref ro_80), .val (.ref ro_83), .unset] [(.int r25), (.int r21)] := (((((((((((k133.icmpYes X83 hx (hb hby at_147) (XT.ii_eq_t hc147_134) (by decide) (by decide)).iload X83 hx (hb hby at_167) rfl).iconst X83 hx (hb hby at_169) (v := (1 : Int32)) rfl).icmpNo X83 hx (hb hby at_170) (XT.ii_le_f (by rw [qA]; decide))).iload X83 hx (hb hby at_173) rfl).iconst X83 hx (hb hby at_175) (v := (1 : Int32)) rfl).icmpYes X83 hx (hb hby at_176) (XT.ii_le_t (by rw [qB]; decide)) (by decide) (by decide)).iload X83 hx (hb hby at_203) rfl).iload X83 hx (hb hby at_205) rfl).icmpYes X83 hx (hb hby at_207) (XT.ii_ge_t (by rw [qA, qB]; decide)) (by decide) (by decide)).iload X83 hx (hb hby at_214) rfl).iload X83 hx (hb hby at_216) rfl
        have k136 : Go p e below m W T83 226 #[.val (.int p1), .val (.int p2), .val (.int p3), .val (.int p4), .val (.int p5), .val (.int r21), .val (.int r25), .val (.int ((XT.ushr p5 (4 : Int32)) &&& (3 : Int32))), .val (.int r31), .val (.int r36), .val (.int u50_L10), .val (.int r46), .val (.int r61), .val (.int r66), .val (.int r71), .val (.int r76), .val (.ref ro_80), .val (.ref ro_83), .unset] [(.int (1 : Int32))] := ((k135.icmpNo X83 hx (hb hby at_218) (XT.ii_le_f (by rw [qA, qB]; decide))).iconst X83 hx (hb hby at_221) (v := (1 : Int32)) rfl).goto X83 hx (hb hby at_222) (by decide) (by decide)
        have k137 : Go p e below m W T83 226 #[.val (.int p1), .val (.int p2), .val (.int p3), .val (.int p4), .val (.int p5), .val (.int r21), .val (.int r25), .val (.int ((XT.ushr p5 (4 : Int32)) &&& (3 : Int32))), .val (.int r31), .val (.int r36), .val (.int u50_L10), .val (.int r46), .val (.int r61), .val (.int r66), .val (.int r71), .val (.int r76), .val (.ref ro_80), .val (.ref ro_83), .unset] [(.int (own_exp r21 r25 r61 r66 r71 r76))] := k136.cast (y := (own_exp r21 r25 r61 r66 r71 r76)) (by rw [qA, qB]; simp +decide [own_exp, hc147_134])
        have k138 : Go p e below m W T83 228 #[.val (.int p1), .val (.int p2), .val (.int p3), .val (.int p4), .val (.int p5), .val (.int r21), .val (.int r25), .val (.int ((XT.ushr p5 (4 : Int32)) &&& (3 : Int32))), .val (.int r31), .val (.int r36), .val (.int u50_L10), .val (.int r46), .val (.int r61), .val (.int r66), .val (.int r71), .val (.int r76), .val (.ref ro_80), .val (.ref ro_83), .val (.int (own_exp r21 r25 r61 r66 r71 r76))] [] := k137.istore X83 hx (hb hby at_226) rfl
        exact k138
      ·
        have k139 : Go p e below m W T83 154 #[.val (.int p1), .val (.int p2), .val (.int p3), .val (.int p4), .val (.int p5), .val (.int r21), .val (.int r25), .val (.int ((XT.ushr p5 (4 : Int32)) &&& (3 : Int32))), .val (.int r31), .val (.int r36), .val (.int u50_L10), .val (.int r46), .val (.int r61), .val (.int r66), .val (.int r71), .val (.int r76), .val (.ref ro_80), .val (.ref ro_83), .unset] [(.int r71), (.int r61)] := ((k133.icmpNo X83 hx (hb hby at_147) (XT.ii_eq_f hc147_134)).iload X83 hx (hb hby at_150) rfl).iload X83 hx (hb hby at_152) rfl
        by_cases hc154_140 : r61 < r71
        ·
          have k141 : Go p e below m W T83 162 #[.val (.int p1), .val (.int p2), .val (.int p3), .val (.int p4), .val (.int p5), .val (.int r21), .val (.int r25), .val (.int ((XT.ushr p5 (4 : Int32)) &&& (3 : Int32))), .val (.int r31), .val (.int r36), .val (.int u50_L10), .val (.int r46), .val (.int r61), .val (.int r66), .val (.int r71), .val (.int r76), .val (.ref ro_80), .val (.ref ro_83), .unset] [(.int (-1 : Int32))] := ((k139.icmpNo X83 hx (hb hby at_154) (XT.ii_ge_f hc154_140)).iconst X83 hx (hb hby at_157) (v := (-1 : Int32)) rfl).goto X83 hx (hb hby at_158) (by decide) (by decide)
          have k142 : Go p e below m W T83 162 #[.val (.int p1), .val (.int p2), .val (.int p3), .val (.int p4), .val (.int p5), .val (.int r21), .val (.int r25), .val (.int ((XT.ushr p5 (4 : Int32)) &&& (3 : Int32))), .val (.int r31), .val (.int r36), .val (.int u50_L10), .val (.int r46), .val (.int r61), .val (.int r66), .val (.int r71), .val (.int r76), .val (.ref ro_80), .val (.ref ro_83), .unset] [(.int (own_exp r21 r25 r61 r66 r71 r76))] := k141.cast (y := (own_exp r21 r25 r61 r66 r71 r76)) (by rw [qA, qB]; simp +decide [own_exp, hc147_134, hc154_140])
          have k143 : Go p e below m W T83 164 #[.val (.int p1), .val (.int p2), .val (.int p3), .val (.int p4), .val (.int p5), .val (.int r21), .val (.int r25), .val (.int ((XT.ushr p5 (4 : Int32)) &&& (3 : Int32))), .val (.int r31), .val (.int r36), .val (.int u50_L10), .val (.int r46), .val (.int r61), .val (.int r66), .val (.int r71), .val (.int r76), .val (.ref ro_80), .val (.ref ro_83), .val (.int (own_exp r21 r25 r61 r66 r71 r76))] [] := k142.istore X83 hx (hb hby at_162) rfl
          have k144 : Go p e below m W T83 228 #[.val (.int p1), .val (.int p2), .val (.int p3), .val (.int p4), .val (.int p5), .val (.int r21), .val (.int r25), .val (.int ((XT.ushr p5 (4 : Int32)) &&& (3 : Int32))), .val (.int r31), .val (.int r36), .val (.int u50_L10), .val (.int r46), .val (.int r61), .val (.int r66), .val (.int r71), .val (.int r76), .val (.ref ro_80), .val (.ref ro_83), .val (.int (own_exp r21 r25 r61 r66 r71 r76))] [] := k143.goto X83 hx (hb hby at_164) (by decide) (by decide)
          exact k144
        ·
          have k145 : Go p e below m W T83 162 #[.val (.int p1), .val (.int p2), .val (.int p3), .val (.int p4), .val (.int p5), .val (.int r21), .val (.int r25), .val (.int ((XT.ushr p5 (4 : Int32)) &&& (3 : Int32))), .val (.int r31), .val (.int r36), .val (.int u50_L10), .val (.int r46), .val (.int r61), .val (.int r66), .val (.int r71), .val (.int r76), .val (.ref ro_80), .val (.ref ro_83), .unset] [(.int (1 : Int32))] := (k139.icmpYes X83 hx (hb hby at_154) (XT.ii_ge_t hc154_140) (by decide) (by decide)).iconst X83 hx (hb hby at_161) (v := (1 : Int32)) rfl
          have k146 : Go p e below m W T83 162 #[.val (.int p1), .val (.int p2), .val (.int p3), .val (.int p4), .val (.int p5), .val (.int r21), .val (.int r25), .val (.int ((XT.ushr p5 (4 : Int32)) &&& (3 : Int32))), .val (.int r31), .val (.int r36), .val (.int u50_L10), .val (.int r46), .val (.int r61), .val (.int r66), .val (.int r71), .val (.int r76), .val (.ref ro_80), .val (.ref ro_83), .unset] [(.int (own_exp r21 r25 r61 r66 r71 r76))] := k145.cast (y := (own_exp r21 r25 r61 r66 r71 r76)) (by rw [qA, qB]; simp +decide [own_exp, hc147_134, hc154_140])
          have k147 : Go p e below m W T83 164 #[.val (.int p1), .val (.int p2), .val (.int p3), .val (.int p4), .val (.int p5), .val (.int r21), .val (.int r25), .val (.int ((XT.ushr p5 (4 : Int32)) &&& (3 : Int32))), .val (.int r31), .val (.int r36), .val (.int u50_L10), .val (.int r46), .val (.int r61), .val (.int r66), .val (.int r71), .val (.int r76), .val (.ref ro_80), .val (.ref ro_83), .val (.int (own_exp r21 r25 r61 r66 r71 r76))] [] := k146.istore X83 hx (hb hby at_162) rfl
          have k148 : Go p e below m W T83 228 #[.val (.int p1), .val (.int p2), .val (.int p3), .val (.int p4), .val (.int p5), .val (.int r21), .val (.int r25), .val (.int ((XT.ushr p5 (4 : Int32)) &&& (3 : Int32))), .val (.int r31), .val (.int r36), .val (.int u50_L10), .val (.int r46), .val (.int r61), .val (.int r66), .val (.int r71), .val (.int r76), .val (.ref ro_80), .val (.ref ro_83), .val (.int (own_exp r21 r25 r61 r66 r71 r76))] [] := k147.goto X83 hx (hb hby at_164) (by decide) (by decide)
          exact k148
    ·
      have k149 : Go p e below m W T83 147 #[.val (.int p1), .val (.int p2), .val (.int p3), .val (.int p4), .val (.int p5), .val (.int r21), .val (.int r25), .val (.int ((XT.ushr p5 (4 : Int32)) &&& (3 : Int32))), .val (.int r31), .val (.int r36), .val (.int u50_L10), .val (.int r46), .val (.int r61), .val (.int r66), .val (.int r71), .val (.int r76), .val (.ref ro_80), .val (.ref ro_83), .unset] [(.int r71), (.int r61)] := (((((k84.iload X83 hx (hb hby at_133) rfl).ifNo X83 hx (hb hby at_135) (XT.i0_le_f (by rw [qA]; decide))).iload X83 hx (hb hby at_138) rfl).ifNo X83 hx (hb hby at_140) (XT.i0_le_f (by rw [qB]; decide))).iload X83 hx (hb hby at_143) rfl).iload X83 hx (hb hby at_145) rfl
      by_cases hc147_150 : r61 = r71
      ·
        have k151 : Go p e below m W T83 183 #[.val (.int p1), .val (.int p2), .val (.int p3), .val (.int p4), .val (.int p5), .val (.int r21), .val (.int r25), .val (.int ((XT.ushr p5 (4 : Int32)) &&& (3 : Int32))), .val (.int r31), .val (.int r36), .val (.int u50_L10), .val (.int r46), .val (.int r61), .val (.int r66), .val (.int r71), .val (.int r76), .val (.ref ro_80), .val (.ref ro_83), .unset] [(.int r76), (.int r66)] := ((((((((k149.icmpYes X83 hx (hb hby at_147) (XT.ii_eq_t hc147_150) (by decide) (by decide)).iload X83 hx (hb hby at_167) rfl).iconst X83 hx (hb hby at_169) (v := (1 : Int32)) rfl).icmpNo X83 hx (hb hby at_170) (XT.ii_le_f (by rw [qA]; decide))).iload X83 hx (hb hby at_173) rfl).iconst X83 hx (hb hby at_175) (v := (1 : Int32)) rfl).icmpNo X83 hx (hb hby at_176) (XT.ii_le_f (by rw [qB]; decide))).iload X83 hx (hb hby at_179) rfl).iload X83 hx (hb hby at_181) rfl
        by_cases hc183_152 : r66 = r76
        ·
          have k153 : Go p e below m W T83 226 #[.val (.int p1), .val (.int p2), .val (.int p3), .val (.int p4), .val (.int p5), .val (.int r21), .val (.int r25), .val (.int ((XT.ushr p5 (4 : Int32)) &&& (3 : Int32))), .val (.int r31), .val (.int r36), .val (.int u50_L10), .val (.int r46), .val (.int r61), .val (.int r66), .val (.int r71), .val (.int r76), .val (.ref ro_80), .val (.ref ro_83), .unset] [(.int (0 : Int32))] := (((((((k151.icmpYes X83 hx (hb hby at_183) (XT.ii_eq_t hc183_152) (by decide) (by decide)).iload X83 hx (hb hby at_203) rfl).iload X83 hx (hb hby at_205) rfl).icmpYes X83 hx (hb hby at_207) (XT.ii_ge_t (by rw [qA, qB]; decide)) (by decide) (by decide)).iload X83 hx (hb hby at_214) rfl).iload X83 hx (hb hby at_216) rfl).icmpYes X83 hx (hb hby at_218) (XT.ii_le_t (by rw [qA, qB]; decide)) (by decide) (by decide)).iconst X83 hx (hb hby at_225) (v := (0 : Int32)) rfl
          have k154 : Go p e below m W T83 226 #[.val (.int p1), .val (.int p2), .val (.int p3), .val (.int p4), .val (.int p5), .val (.int r21), .val (.int r25), .val (.int ((XT.ushr p5 (4 : Int32)) &&& (3 : Int32))), .val (.int r31), .val (.int r36), .val (.int u50_L10), .val (.int r46), .val (.int r61), .val (.int r66), .val (.int r71), .val (.int r76), .val (.ref ro_80), .val (.ref ro_83), .unset] [(.int (own_exp r21 r25 r61 r66 r71 r76))] := k153.cast (y := (own_exp r21 r25 r61 r66 r71 r76)) (by rw [qA, qB]; simp +decide [own_exp, hc147_150, hc183_152])
          have k155 : Go p e below m W T83 228 #[.val (.int p1), .val (.int p2), .val (.int p3), .val (.int p4), .val (.int p5), .val (.int r21), .val (.int r25), .val (.int ((XT.ushr p5 (4 : Int32)) &&& (3 : Int32))), .val (.int r31), .val (.int r36), .val (.int u50_L10), .val (.int r46), .val (.int r61), .val (.int r66), .val (.int r71), .val (.int r76), .val (.ref ro_80), .val (.ref ro_83), .val (.int (own_exp r21 r25 r61 r66 r71 r76))] [] := k154.istore X83 hx (hb hby at_226) rfl
          exact k155
        ·
          have k156 : Go p e below m W T83 190 #[.val (.int p1), .val (.int p2), .val (.int p3), .val (.int p4), .val (.int p5), .val (.int r21), .val (.int r25), .val (.int ((XT.ushr p5 (4 : Int32)) &&& (3 : Int32))), .val (.int r31), .val (.int r36), .val (.int u50_L10), .val (.int r46), .val (.int r61), .val (.int r66), .val (.int r71), .val (.int r76), .val (.ref ro_80), .val (.ref ro_83), .unset] [(.int r76), (.int r66)] := ((k151.icmpNo X83 hx (hb hby at_183) (XT.ii_eq_f hc183_152)).iload X83 hx (hb hby at_186) rfl).iload X83 hx (hb hby at_188) rfl
          by_cases hc190_157 : r66 < r76
          ·
            have k158 : Go p e below m W T83 198 #[.val (.int p1), .val (.int p2), .val (.int p3), .val (.int p4), .val (.int p5), .val (.int r21), .val (.int r25), .val (.int ((XT.ushr p5 (4 : Int32)) &&& (3 : Int32))), .val (.int r31), .val (.int r36), .val (.int u50_L10), .val (.int r46), .val (.int r61), .val (.int r66), .val (.int r71), .val (.int r76), .val (.ref ro_80), .val (.ref ro_83), .unset] [(.int (-1 : Int32))] := ((k156.icmpNo X83 hx (hb hby at_190) (XT.ii_ge_f hc190_157)).iconst X83 hx (hb hby at_193) (v := (-1 : Int32)) rfl).goto X83 hx (hb hby at_194) (by decide) (by decide)
            have k159 : Go p e below m W T83 198 #[.val (.int p1), .val (.int p2), .val (.int p3), .val (.int p4), .val (.int p5), .val (.int r21), .val (.int r25), .val (.int ((XT.ushr p5 (4 : Int32)) &&& (3 : Int32))), .val (.int r31), .val (.int r36), .val (.int u50_L10), .val (.int r46), .val (.int r61), .val (.int r66), .val (.int r71), .val (.int r76), .val (.ref ro_80), .val (.ref ro_83), .unset] [(.int (own_exp r21 r25 r61 r66 r71 r76))] := k158.cast (y := (own_exp r21 r25 r61 r66 r71 r76)) (by rw [qA, qB]; simp +decide [own_exp, hc147_150, hc183_152, hc190_157])
            have k160 : Go p e below m W T83 200 #[.val (.int p1), .val (.int p2), .val (.int p3), .val (.int p4), .val (.int p5), .val (.int r21), .val (.int r25), .val (.int ((XT.ushr p5 (4 : Int32)) &&& (3 : Int32))), .val (.int r31), .val (.int r36), .val (.int u50_L10), .val (.int r46), .val (.int r61), .val (.int r66), .val (.int r71), .val (.int r76), .val (.ref ro_80), .val (.ref ro_83), .val (.int (own_exp r21 r25 r61 r66 r71 r76))] [] := k159.istore X83 hx (hb hby at_198) rfl
            have k161 : Go p e below m W T83 228 #[.val (.int p1), .val (.int p2), .val (.int p3), .val (.int p4), .val (.int p5), .val (.int r21), .val (.int r25), .val (.int ((XT.ushr p5 (4 : Int32)) &&& (3 : Int32))), .val (.int r31), .val (.int r36), .val (.int u50_L10), .val (.int r46), .val (.int r61), .val (.int r66), .val (.int r71), .val (.int r76), .val (.ref ro_80), .val (.ref ro_83), .val (.int (own_exp r21 r25 r61 r66 r71 r76))] [] := k160.goto X83 hx (hb hby at_200) (by decide) (by decide)
            exact k161
          ·
            have k162 : Go p e below m W T83 198 #[.val (.int p1), .val (.int p2), .val (.int p3), .val (.int p4), .val (.int p5), .val (.int r21), .val (.int r25), .val (.int ((XT.ushr p5 (4 : Int32)) &&& (3 : Int32))), .val (.int r31), .val (.int r36), .val (.int u50_L10), .val (.int r46), .val (.int r61), .val (.int r66), .val (.int r71), .val (.int r76), .val (.ref ro_80), .val (.ref ro_83), .unset] [(.int (1 : Int32))] := (k156.icmpYes X83 hx (hb hby at_190) (XT.ii_ge_t hc190_157) (by decide) (by decide)).iconst X83 hx (hb hby at_197) (v := (1 : Int32)) rfl
            have k163 : Go p e below m W T83 198 #[.val (.int p1), .val (.int p2), .val (.int p3), .val (.int p4), .val (.int p5), .val (.int r21), .val (.int r25), .val (.int ((XT.ushr p5 (4 : Int32)) &&& (3 : Int32))), .val (.int r31), .val (.int r36), .val (.int u50_L10), .val (.int r46), .val (.int r61), .val (.int r66), .val (.int r71), .val (.int r76), .val (.ref ro_80), .val (.ref ro_83), .unset] [(.int (own_exp r21 r25 r61 r66 r71 r76))] := k162.cast (y := (own_exp r21 r25 r61 r66 r71 r76)) (by rw [qA, qB]; simp +decide [own_exp, hc147_150, hc183_152, hc190_157])
            have k164 : Go p e below m W T83 200 #[.val (.int p1), .val (.int p2), .val (.int p3), .val (.int p4), .val (.int p5), .val (.int r21), .val (.int r25), .val (.int ((XT.ushr p5 (4 : Int32)) &&& (3 : Int32))), .val (.int r31), .val (.int r36), .val (.int u50_L10), .val (.int r46), .val (.int r61), .val (.int r66), .val (.int r71), .val (.int r76), .val (.ref ro_80), .val (.ref ro_83), .val (.int (own_exp r21 r25 r61 r66 r71 r76))] [] := k163.istore X83 hx (hb hby at_198) rfl
            have k165 : Go p e below m W T83 228 #[.val (.int p1), .val (.int p2), .val (.int p3), .val (.int p4), .val (.int p5), .val (.int r21), .val (.int r25), .val (.int ((XT.ushr p5 (4 : Int32)) &&& (3 : Int32))), .val (.int r31), .val (.int r36), .val (.int u50_L10), .val (.int r46), .val (.int r61), .val (.int r66), .val (.int r71), .val (.int r76), .val (.ref ro_80), .val (.ref ro_83), .val (.int (own_exp r21 r25 r61 r66 r71 r76))] [] := k164.goto X83 hx (hb hby at_200) (by decide) (by decide)
            exact k165
      ·
        have k166 : Go p e below m W T83 154 #[.val (.int p1), .val (.int p2), .val (.int p3), .val (.int p4), .val (.int p5), .val (.int r21), .val (.int r25), .val (.int ((XT.ushr p5 (4 : Int32)) &&& (3 : Int32))), .val (.int r31), .val (.int r36), .val (.int u50_L10), .val (.int r46), .val (.int r61), .val (.int r66), .val (.int r71), .val (.int r76), .val (.ref ro_80), .val (.ref ro_83), .unset] [(.int r71), (.int r61)] := ((k149.icmpNo X83 hx (hb hby at_147) (XT.ii_eq_f hc147_150)).iload X83 hx (hb hby at_150) rfl).iload X83 hx (hb hby at_152) rfl
        by_cases hc154_167 : r61 < r71
        ·
          have k168 : Go p e below m W T83 162 #[.val (.int p1), .val (.int p2), .val (.int p3), .val (.int p4), .val (.int p5), .val (.int r21), .val (.int r25), .val (.int ((XT.ushr p5 (4 : Int32)) &&& (3 : Int32))), .val (.int r31), .val (.int r36), .val (.int u50_L10), .val (.int r46), .val (.int r61), .val (.int r66), .val (.int r71), .val (.int r76), .val (.ref ro_80), .val (.ref ro_83), .unset] [(.int (-1 : Int32))] := ((k166.icmpNo X83 hx (hb hby at_154) (XT.ii_ge_f hc154_167)).iconst X83 hx (hb hby at_157) (v := (-1 : Int32)) rfl).goto X83 hx (hb hby at_158) (by decide) (by decide)
          have k169 : Go p e below m W T83 162 #[.val (.int p1), .val (.int p2), .val (.int p3), .val (.int p4), .val (.int p5), .val (.int r21), .val (.int r25), .val (.int ((XT.ushr p5 (4 : Int32)) &&& (3 : Int32))), .val (.int r31), .val (.int r36), .val (.int u50_L10), .val (.int r46), .val (.int r61), .val (.int r66), .val (.int r71), .val (.int r76), .val (.ref ro_80), .val (.ref ro_83), .unset] [(.int (own_exp r21 r25 r61 r66 r71 r76))] := k168.cast (y := (own_exp r21 r25 r61 r66 r71 r76)) (by rw [qA, qB]; simp +decide [own_exp, hc147_150, hc154_167])
          have k170 : Go p e below m W T83 164 #[.val (.int p1), .val (.int p2), .val (.int p3), .val (.int p4), .val (.int p5), .val (.int r21), .val (.int r25), .val (.int ((XT.ushr p5 (4 : Int32)) &&& (3 : Int32))), .val (.int r31), .val (.int r36), .val (.int u50_L10), .val (.int r46), .val (.int r61), .val (.int r66), .val (.int r71), .val (.int r76), .val (.ref ro_80), .val (.ref ro_83), .val (.int (own_exp r21 r25 r61 r66 r71 r76))] [] := k169.istore X83 hx (hb hby at_162) rfl
          have k171 : Go p e below m W T83 228 #[.val (.int p1), .val (.int p2), .val (.int p3), .val (.int p4), .val (.int p5), .val (.int r21), .val (.int r25), .val (.int ((XT.ushr p5 (4 : Int32)) &&& (3 : Int32))), .val (.int r31), .val (.int r36), .val (.int u50_L10), .val (.int r46), .val (.int r61), .val (.int r66), .val (.int r71), .val (.int r76), .val (.ref ro_80), .val (.ref ro_83), .val (.int (own_exp r21 r25 r61 r66 r71 r76))] [] := k170.goto X83 hx (hb hby at_164) (by decide) (by decide)
          exact k171
        ·
          have k172 : Go p e below m W T83 162 #[.val (.int p1), .val (.int p2), .val (.int p3), .val (.int p4), .val (.int p5), .val (.int r21), .val (.int r25), .val (.int ((XT.ushr p5 (4 : Int32)) &&& (3 : Int32))), .val (.int r31), .val (.int r36), .val (.int u50_L10), .val (.int r46), .val (.int r61), .val (.int r66), .val (.int r71), .val (.int r76), .val (.ref ro_80), .val (.ref ro_83), .unset] [(.int (1 : Int32))] := (k166.icmpYes X83 hx (hb hby at_154) (XT.ii_ge_t hc154_167) (by decide) (by decide)).iconst X83 hx (hb hby at_161) (v := (1 : Int32)) rfl
          have k173 : Go p e below m W T83 162 #[.val (.int p1), .val (.int p2), .val (.int p3), .val (.int p4), .val (.int p5), .val (.int r21), .val (.int r25), .val (.int ((XT.ushr p5 (4 : Int32)) &&& (3 : Int32))), .val (.int r31), .val (.int r36), .val (.int u50_L10), .val (.int r46), .val (.int r61), .val (.int r66), .val (.int r71), .val (.int r76), .val (.ref ro_80), .val (.ref ro_83), .unset] [(.int (own_exp r21 r25 r61 r66 r71 r76))] := k172.cast (y := (own_exp r21 r25 r61 r66 r71 r76)) (by rw [qA, qB]; simp +decide [own_exp, hc147_150, hc154_167])
          have k174 : Go p e below m W T83 164 #[.val (.int p1), .val (.int p2), .val (.int p3), .val (.int p4), .val (.int p5), .val (.int r21), .val (.int r25), .val (.int ((XT.ushr p5 (4 : Int32)) &&& (3 : Int32))), .val (.int r31), .val (.int r36), .val (.int u50_L10), .val (.int r46), .val (.int r61), .val (.int r66), .val (.int r71), .val (.int r76), .val (.ref ro_80), .val (.ref ro_83), .val (.int (own_exp r21 r25 r61 r66 r71 r76))] [] := k173.istore X83 hx (hb hby at_162) rfl
          have k175 : Go p e below m W T83 228 #[.val (.int p1), .val (.int p2), .val (.int p3), .val (.int p4), .val (.int p5), .val (.int r21), .val (.int r25), .val (.int ((XT.ushr p5 (4 : Int32)) &&& (3 : Int32))), .val (.int r31), .val (.int r36), .val (.int u50_L10), .val (.int r46), .val (.int r61), .val (.int r66), .val (.int r71), .val (.int r76), .val (.ref ro_80), .val (.ref ro_83), .val (.int (own_exp r21 r25 r61 r66 r71 r76))] [] := k174.goto X83 hx (hb hby at_164) (by decide) (by decide)
          exact k175
  have k176 : Go p e below m W T83 232 #[.val (.int p1), .val (.int p2), .val (.int p3), .val (.int p4), .val (.int p5), .val (.int r21), .val (.int r25), .val (.int ((XT.ushr p5 (4 : Int32)) &&& (3 : Int32))), .val (.int r31), .val (.int r36), .val (.int u50_L10), .val (.int r46), .val (.int r61), .val (.int r66), .val (.int r71), .val (.int r76), .val (.ref ro_80), .val (.ref ro_83), .val (.int (own_exp r21 r25 r61 r66 r71 r76))] [(.ref ro_83), (.ref ro_80)] := (kj85.aload X83 hx (hb hby at_228) rfl rfl).aload X83 hx (hb hby at_230) rfl rfl
  have g_2 := g_1.keep Kq83 (fun x q => absurd q List.not_mem_nil)
  have g_3 := q80_0.keep Kq83
  have g_4 := q80_1.keep0 Kq83
  obtain ⟨T177, v177, L177, X177, Q177, k177⟩ := k176.stat (y := (⟨"com/example/promovent/promovent/library/CodePoints", "compare", "(Ljava/lang/String;Ljava/lang/String;)I"⟩ : MethodName)) (Wd := 0) (cells' := 14) (slots' := 48) (argsL := [(.ref ro_80), (.ref ro_83)]) (rest := []) X83 hx hZ83 hown83 (by rw [hml]; rfl) (hv 38 rfl) (hv 39 rfl) (hv 41 rfl) (hv 40 rfl) (hb hby at_232) (by decide) (rmcm l Z a0 hw [] ro_80 ro_83 (own_enc r61 r66 r21) (own_enc r71 r76 r25) cz fm h83 n0 Z83 g_2 S_cz hcz hfm SIO SAD SHI SLO g_3 q83_0 g_4 q83_1) e83 rfl rfl pd_rm0_2 rfl (Nat.le_of_eq rfl) (by decide) (by decide) rfl rfl (by decide) (by decide)
  obtain ⟨rfl, Nq177, e177q⟩ := Q177
  have N177 := Fr.app N83 Nq177
  have e177 : T177.heap = h83 := e177q
  have k177 : Go p e below m W T177 235 #[.val (.int p1), .val (.int p2), .val (.int p3), .val (.int p4), .val (.int p5), .val (.int r21), .val (.int r25), .val (.int ((XT.ushr p5 (4 : Int32)) &&& (3 : Int32))), .val (.int r31), .val (.int r36), .val (.int u50_L10), .val (.int r46), .val (.int r61), .val (.int r66), .val (.int r71), .val (.int r76), .val (.ref ro_80), .val (.ref ro_83), .val (.int (own_exp r21 r25 r61 r66 r71 r76))] [(.int (own_cmpL (own_enc r61 r66 r21) (own_enc r71 r76 r25)))] := k177
  obtain ⟨T178, v178, L178, X178, Q178, k178⟩ := k177.stat (y := (⟨"com/example/promovent/promovent/library/CodePointsComparePinLaw", "sign", "(I)I"⟩ : MethodName)) (Wd := 0) (cells' := 14) (slots' := 48) (argsL := [(.int (own_cmpL (own_enc r61 r66 r21) (own_enc r71 r76 r25)))]) (rest := []) X177 hx hZ83 hown83 (by rw [hml]; rfl) (hv 61 rfl) (hv 62 rfl) (hv 63 rfl) (hv 2 rfl) (hb hby at_235) (by decide) (rmsg l Z a0 hw [] (own_cmpL (own_enc r61 r66 r21) (own_enc r71 r76 r25)) h83 n0 Z83) e177 rfl rfl pd_rmbf1_0 rfl (Nat.le_of_eq rfl) (by decide) (by decide) rfl rfl (by decide) (by decide)
  obtain ⟨rfl, Nq178, e178q⟩ := Q178
  have N178 := Fr.app N177 Nq178
  have e178 : T178.heap = h83 := e178q
  have k178 : Go p e below m W T178 238 #[.val (.int p1), .val (.int p2), .val (.int p3), .val (.int p4), .val (.int p5), .val (.int r21), .val (.int r25), .val (.int ((XT.ushr p5 (4 : Int32)) &&& (3 : Int32))), .val (.int r31), .val (.int r36), .val (.int u50_L10), .val (.int r46), .val (.int r61), .val (.int r66), .val (.int r71), .val (.int r76), .val (.ref ro_80), .val (.ref ro_83), .val (.int (own_exp r21 r25 r61 r66 r71 r76))] [(.int (own_sgn (own_cmpL (own_enc r61 r66 r21) (own_enc r71 r76 r25))))] := k178
  have k179 : Go p e below m W T178 248 #[.val (.int p1), .val (.int p2), .val (.int p3), .val (.int p4), .val (.int p5), .val (.int r21), .val (.int r25), .val (.int ((XT.ushr p5 (4 : Int32)) &&& (3 : Int32))), .val (.int r31), .val (.int r36), .val (.int u50_L10), .val (.int r46), .val (.int r61), .val (.int r66), .val (.int r71), .val (.int r76), .val (.ref ro_80), .val (.ref ro_83), .val (.int (own_exp r21 r25 r61 r66 r71 r76))] [(.int (1 : Int32))] := (((k178.iload X178 hx (hb hby at_238) rfl).icmpNo X178 hx (hb hby at_240) (XT.ii_ne_f (own_law hs61 hs66 hs71 hs76 _ _))).iconst X178 hx (hb hby at_243) (v := (1 : Int32)) rfl).goto X178 hx (hb hby at_244) (by decide) (by decide)
  exact k179.ireturnNS X178 hx hZ83 own_EL hS83 (Nat.le_refl _) e178 (by rw [hh]; exact C83) (t := .boolean) Bd.returns (by simp) rfl (hb hby at_248) (BodyLoose.notSynchronized Bd) (by rw [e178]; exact ⟨rfl, N178⟩) (by decide) (by decide)

set_option maxRecDepth 65536 in
set_option maxHeartbeats 40000000 in
theorem comes_1 {Post : Tables → Env → Array Value → State → Outcome → State → Prop} (hpost : ∀ tb e args s v u, (limb_1_1.after args s (.returned v) u = true ∧ limb_1_2.after args s (.returned v) u = true ∧ True) → ReturnedEndW s (.returned v) u (Jvm.fieldLocs frame_1_writes args s ++ Jvm.arrayLocs frame_1_arrays args s ++ Jvm.staticLocs frame_1_statics s) 32 1216 → Post tb e args s (.returned v) u) :
    ArmFor flags0 classFile x code maxLocals ret World_1 tables_1 room_1 Calls_1 rest_1 Pre_1 Post := by
  intro l hfl _ _ p e ha hc hk s m args below hf hA hF happ hP
  obtain ⟨hcalls, hrest, hpre⟩ := hP
  obtain ⟨-, -, -, hnamed, -, -, -, hat⟩ := (Spec.applies_iff hf).mp happ
  obtain ⟨hg, hn⟩ := and_e (Cond.before_iff.mp (show (Jvm.Cond.and given_1 narrow_1).before args s = true from hpre))
  obtain ⟨ga, gb⟩ := and_e hg
  obtain ⟨w0, w1, w2, w3, w4, rfl⟩ : ∃ w0 w1 w2 w3 w4 : Value, args = #[w0, w1, w2, w3, w4] := by
    have hs : args.size = 5 := by simpa [Cond.value, given_1] using ga
    obtain ⟨L⟩ := args
    match L, hs with
    | [w0, w1, w2, w3, w4], _ => exact ⟨w0, w1, w2, w3, w4, rfl⟩
  have hw := fun d (hd : d ∈ tables_1) => atoms_spec (ws := Jvm.Cond.code x code maxLocals ret :: tables_1) hat d (List.mem_cons_of_mem _ hd)
  have hv : ∀ (i : Nat) {d : Jvm.Cond}, tables_1[i]? = some d → d.before _ s = true := fun i d q => hw d (List.mem_of_getElem? q)
  have hfit : Fit s := fun {y c} hc i hi => by
    obtain ⟨ha, rfl⟩ := Array.getElem?_eq_some_iff.mp hc
    have q := List.all_eq_true.mp ((Array.all_eq_true_iff_forall_mem.mp hF) _ (Array.getElem_mem ha)) i (List.mem_range.mpr hi)
    simpa [Array.getElem?_eq_getElem hi] using q
  obtain ⟨gi0, gr0⟩ := and_e gb
  obtain ⟨i0, ei0⟩ := is_v gi0
  obtain rfl : w0 = (.int i0) := Option.some.inj ei0
  obtain ⟨gi1, gr1⟩ := and_e gr0
  obtain ⟨i1, ei1⟩ := is_v gi1
  obtain rfl : w1 = (.int i1) := Option.some.inj ei1
  obtain ⟨gi2, gr2⟩ := and_e gr1
  obtain ⟨i2, ei2⟩ := is_v gi2
  obtain rfl : w2 = (.int i2) := Option.some.inj ei2
  obtain ⟨gi3, gr3⟩ := and_e gr2
  obtain ⟨i3, ei3⟩ := is_v gi3
  obtain rfl : w3 = (.int i3) := Option.some.inj ei3
  obtain ⟨i4, ei4⟩ := is_v gr3
  obtain rfl : w4 = (.int i4) := Option.some.inj ei4
  have O0 : Old s s.heap.size s.heap := Old.start s
  obtain ⟨hsets, hown0⟩ := atoms_of _ (rest_1_c_eq ▸ (show rest_1_c.before _ s = true from hrest))
  have n3 := not_v (Cond.before_iff.mp (hsets _ (List.mem_of_getElem? (i := 2) rfl)))
  obtain ⟨cz, ecz⟩ := is_v (Cond.before_iff.mp (hsets _ (List.mem_of_getElem? (i := 1) rfl)))
  have S_cz : Sta s s.heap "java/lang/String" "COMPACT_STRINGS" "Z" (.int cz) := Sta.start ecz (Or.inl (hsets _ (List.mem_of_getElem? (i := 0) rfl)))
  have hcz : ¬ (cz = (0 : Int32)) := gotF (Cond.eq_ints ecz (Term.int_eval (0))) n3
  obtain ⟨fm, efm, hfm⟩ := isR_v (Cond.before_iff.mp (hsets _ (List.mem_of_getElem? (i := 8) rfl)))
  have SIO : Sta s s.heap "jdk/internal/util/Preconditions" "SIOOBE_FORMATTER" "Ljava/util/function/BiFunction;" fm := Sta.start efm (Or.inl (hsets _ (List.mem_of_getElem? (i := 7) rfl)))
  have SAD : Sta s s.heap "java/lang/StringUTF16" "$assertionsDisabled" "Z" (.int (1 : Int32)) := Sta.start (own_eqi (Cond.before_iff.mp (hsets _ (List.mem_of_getElem? (i := 12) rfl)))) (Or.inl (hsets _ (List.mem_of_getElem? (i := 11) rfl)))
  have SHI : Sta s s.heap "java/lang/StringUTF16" "HI_BYTE_SHIFT" "I" (.int (0 : Int32)) := Sta.start (own_eqi (Cond.before_iff.mp (hsets _ (List.mem_of_getElem? (i := 15) rfl)))) (Or.inl (hsets _ (List.mem_of_getElem? (i := 14) rfl)))
  have SLO : Sta s s.heap "java/lang/StringUTF16" "LO_BYTE_SHIFT" "I" (.int (8 : Int32)) := Sta.start (own_eqi (Cond.before_iff.mp (hsets _ (List.mem_of_getElem? (i := 18) rfl)))) (Or.inl (hsets _ (List.mem_of_getElem? (i := 17) rfl)))
  have hcv : CHv s own_L s.vm s.heap := CHv.start (own_EL0 hw) (fun p hp => hcalls.1 p (by revert p hp; decide)) (hsets _ (List.mem_of_getElem? (i := 2) rfl)) (hv 31 rfl) (hv 18 rfl)
  obtain ⟨n, o, h1, h2, h3, _, L, rfl, ⟨rfl, N⟩, -, hq⟩ := rm0 l s _ hw tables_1 i0 i1 i2 i3 i4 cz fm s.heap s.heap.size (Nat.le_refl _) O0 S_cz hcz SIO hfm SAD SHI SLO p e ha hc hk s m _ below hf ((Spec.applies_iff_loose hf).mp happ).1 ⟨rfl, State.Warmed39.refl s, rfl, hcv, fun _ q => nomatch q⟩ trivial
  refine ⟨n, _, h1, h2, h3, hpost _ _ _ _ _ _ ⟨Cond.after_iff.mpr rfl, Cond.after_iff.mpr (eq_i res_at (Term.int_eval (1)) rfl), trivial⟩ ⟨hq.1, hq.2.1, hq.2.2.1, (hq.2.2.2.sift fun y hy => Or.inr (N y hy)).mono (by decide) (by decide)⟩⟩
theorem main_1_1 : Claimed_1_1 := comes_1 fun _ _ _ _ _ _ h hF => ⟨h.1, hF⟩
theorem main_1_2 : Claimed_1_2 := comes_1 fun _ _ _ _ _ _ h hF => ⟨h.2.1, hF⟩
end Jvm.Pilot.@@N@@
namespace Jvm.Pilot.@@N@@
open Jvm Jvm.ClassFile Sem Op Lib Jvm.Free Jvm.Stand Jvm.Pilot.@@N@@.Jvm.D
/-! MADE BY PROGRAM (witnessworld.py) out of the Statement's table words and the real class files: 24 classes; the members and pool entries that the words name. The judged class is class 1, her method 7. -/
namespace start1
open Jvm.ClassFile
def u (s : String) : CpInfo := .utf8 (stringToUtf16 s)
/-- a pool by its gaps: so many unusable entries, then the entry; so many at the end -/
def gap : Nat → List CpInfo → List CpInfo
  | 0, r => r
  | n + 1, r => .unusable :: gap n r
def poolList (es : List (Nat × CpInfo)) (last : Nat) : List CpInfo := es.foldr (fun e r => gap e.1 (e.2 :: r)) (gap last [])
def pool (es : List (Nat × CpInfo)) (last : Nat) : Array CpInfo := ⟨poolList es last⟩
def fileOf (pool : Array CpInfo) (this : Nat) (attrs : Array Attribute := #[]) (ms : Array MethodInfo := #[]) (fl : Nat := 33) (sup : Nat := 0) (ifs : Array Nat := #[]) (fds : Array FieldInfo := #[]) : ClassFile where
  minorVersion := 0
  majorVersion := 65
  constantPool := pool
  accessFlags := fl
  thisClass := this
  superClass := sup
  interfaces := ifs
  fields := fds
  methods := ms
  attributes := attrs
def plain (name : String) (sup : Option ClassId) : Class where
  name := name
  kind := .ordinary
  loader := none
  accessFlags := 33
  super := sup
  interfaces := #[]
  cf := none
  fields := #[]
  methods := #[]
  instanceTypes := #[]
  staticTypes := #[]
  resolved := #[]
  callSites := []
  init := .initialized
  statics := none
  mirror := none

def pool0 : Array CpInfo := pool [(5, u "<init>"), (0, u "()V"), (1, .class_ 10), (1, u "java/lang/Object")] 113

def k0c0 : Code := { maxStack := 0, maxLocals := 1, code := object_method_1_code, exceptionTable := #[], attributes := #[] }
def k0m0 : Method := { name := "<init>", desc := "()V", sig := { parameters := [], returnType := none }, accessFlags := 1, code := some k0c0 }
/-- java/lang/Object -/
def k0 : Class := { plain "java/lang/Object" none with
  accessFlags := 33
  interfaces := #[]
  cf := some (fileOf pool0 8 #[] #[{ accessFlags := 1, nameIndex := 5, descriptorIndex := 6, attributes := #[] }] 33 0 #[] #[])
  fields := #[]
  methods := #[k0m0]
  instanceTypes := #[]
  staticTypes := #[]
  resolved := Array.replicate 124 none
  statics := none }

def pool1 : Array CpInfo := pool [(2, .class_ 4), (1, u "java/lang/Object"), (0, u "<init>"), (0, u "()V"), (0, .integer 2147483647), (0, .class_ 9), (0, u "com/example/promovent/promovent/library/CodePointsComparePinLaw"), (0, .integer 1112064), (0, .integer 55296), (0, .integer 65536), (0, .integer 56320), (0, .class_ 15), (0, u "java/lang/String"), (0, .methodref 14 17), (0, .nameAndType 5 18), (0, u "([C)V"), (0, .methodref 8 20), (0, .nameAndType 21 22), (0, u "put"), (0, u "([CII)I"), (0, .methodref 8 24), (0, .nameAndType 25 26), (0, u "make"), (0, u "([CI)Ljava/lang/String;"), (0, .methodref 8 28), (0, .nameAndType 29 30), (0, u "raw"), (0, u "(I)I"), (0, .methodref 8 32), (0, .nameAndType 33 30), (0, u "toCp"), (0, .methodref 8 35), (0, .nameAndType 36 37), (0, u "encode"), (0, u "(III)Ljava/lang/String;"), (0, .methodref 39 40), (0, .class_ 41), (0, .nameAndType 42 43), (0, u "com/example/promovent/promovent/library/CodePoints"), (0, u "compare"), (0, u "(Ljava/lang/String;Ljava/lang/String;)I"), (0, .methodref 8 45), (0, .nameAndType 46 30), (0, u "sign"), (0, u "SCALARS"), (0, u "I"), (6, u "law"), (0, u "(IIIII)Z")] 2

def k1m0 : Method := { name := "<init>", desc := "()V", sig := { parameters := [], returnType := none }, accessFlags := 1, code := none }
def k1c1 : Code := { maxStack := 2, maxLocals := 1, code := method_2_code, exceptionTable := #[], attributes := #[] }
def k1m1 : Method := { name := "raw", desc := "(I)I", sig := { parameters := [.int], returnType := some .int }, accessFlags := 10, code := some k1c1 }
def k1c2 : Code := { maxStack := 2, maxLocals := 1, code := method_3_code, exceptionTable := #[], attributes := #[] }
def k1m2 : Method := { name := "toCp", desc := "(I)I", sig := { parameters := [.int], returnType := some .int }, accessFlags := 10, code := some k1c2 }
def k1c3 : Code := { maxStack := 5, maxLocals := 4, code := method_4_code, exceptionTable := #[], attributes := #[] }
def k1m3 : Method := { name := "put", desc := "([CII)I", sig := { parameters := [(.array .char), .int, .int], returnType := some .int }, accessFlags := 10, code := some k1c3 }
def k1c4 : Code := { maxStack := 7, maxLocals := 2, code := method_5_code, exceptionTable := #[], attributes := #[] }
def k1m4 : Method := { name := "make", desc := "([CI)Ljava/lang/String;", sig := { parameters := [(.array .char), .int], returnType := some (.object "java/lang/String") }, accessFlags := 10, code := some k1c4 }
def k1c5 : Code := { maxStack := 3, maxLocals := 5, code := method_6_code, exceptionTable := #[], attributes := #[] }
def k1m5 : Method := { name := "encode", desc := "(III)Ljava/lang/String;", sig := { parameters := [.int, .int, .int], returnType := some (.object "java/lang/String") }, accessFlags := 10, code := some k1c5 }
def k1c6 : Code := { maxStack := 1, maxLocals := 1, code := method_7_code, exceptionTable := #[], attributes := #[] }
def k1m6 : Method := { name := "sign", desc := "(I)I", sig := { parameters := [.int], returnType := some .int }, accessFlags := 10, code := some k1c6 }
def k1c7 : Code := { maxStack := 3, maxLocals := 19, code := code, exceptionTable := #[], attributes := #[] }
def k1m7 : Method := { name := "law", desc := "(IIIII)Z", sig := { parameters := [.int, .int, .int, .int, .int], returnType := some .boolean }, accessFlags := 9, code := some k1c7 }
/-- com/example/promovent/promovent/library/CodePointsComparePinLaw -/
def k1 : Class := { plain "com/example/promovent/promovent/library/CodePointsComparePinLaw" (some 0) with
  accessFlags := 49
  interfaces := #[]
  cf := some (fileOf pool1 8 #[] #[{ accessFlags := 1, nameIndex := 5, descriptorIndex := 6, attributes := #[] }, { accessFlags := 10, nameIndex := 29, descriptorIndex := 30, attributes := #[] }, { accessFlags := 10, nameIndex := 33, descriptorIndex := 30, attributes := #[] }, { accessFlags := 10, nameIndex := 21, descriptorIndex := 22, attributes := #[] }, { accessFlags := 10, nameIndex := 25, descriptorIndex := 26, attributes := #[] }, { accessFlags := 10, nameIndex := 36, descriptorIndex := 37, attributes := #[] }, { accessFlags := 10, nameIndex := 46, descriptorIndex := 30, attributes := #[] }, { accessFlags := 9, nameIndex := 55, descriptorIndex := 56, attributes := #[] }] 49 2 #[] #[{ accessFlags := 26, nameIndex := 47, descriptorIndex := 48, attributes := #[] }])
  fields := #[{ name := "SCALARS", type := .int, accessFlags := 26, slot := 0, constantValue := 0 }]
  methods := #[k1m0, k1m1, k1m2, k1m3, k1m4, k1m5, k1m6, k1m7]
  instanceTypes := #[]
  staticTypes := #[.int]
  resolved := Array.replicate 59 none
  statics := none }

def pool2 : Array CpInfo := pool [(1, .class_ 2), (0, u "java/io/Serializable"), (0, .class_ 4), (0, u "java/lang/Object")] 2

/-- java/io/Serializable -/
def k2 : Class := { plain "java/io/Serializable" (some 0) with
  accessFlags := 1537
  interfaces := #[]
  cf := some (fileOf pool2 1 #[] #[] 1537 3 #[] #[])
  fields := #[]
  methods := #[]
  instanceTypes := #[]
  staticTypes := #[]
  resolved := Array.replicate 7 none
  statics := none }

def pool3 : Array CpInfo := pool [(1, .class_ 2), (0, u "java/lang/Comparable"), (0, .class_ 4), (0, u "java/lang/Object")] 7

/-- java/lang/Comparable -/
def k3 : Class := { plain "java/lang/Comparable" (some 0) with
  accessFlags := 1537
  interfaces := #[]
  cf := some (fileOf pool3 1 #[] #[] 1537 3 #[] #[])
  fields := #[]
  methods := #[]
  instanceTypes := #[]
  staticTypes := #[]
  resolved := Array.replicate 12 none
  statics := none }

def pool4 : Array CpInfo := pool [(2, .class_ 4), (1, u "java/lang/CharSequence"), (42, .class_ 48), (0, u "java/lang/CharSequence$1CodePointIterator"), (10, .class_ 60), (0, u "java/lang/CharSequence$1CharIterator"), (5, .class_ 67), (0, u "java/lang/Object")] 63

/-- java/lang/CharSequence -/
def k4 : Class := { plain "java/lang/CharSequence" (some 0) with
  accessFlags := 1537
  interfaces := #[]
  cf := some (fileOf pool4 2 #[.nestMembers #[47, 59]] #[] 1537 66 #[] #[])
  fields := #[]
  methods := #[]
  instanceTypes := #[]
  staticTypes := #[]
  resolved := Array.replicate 131 none
  statics := none }

def pool5 : Array CpInfo := pool [(1, .class_ 2), (0, u "java/lang/constant/Constable"), (0, .class_ 4), (0, u "java/lang/Object")] 6

/-- java/lang/constant/Constable -/
def k5 : Class := { plain "java/lang/constant/Constable" (some 0) with
  accessFlags := 1537
  interfaces := #[]
  cf := some (fileOf pool5 1 #[] #[] 1537 3 #[] #[])
  fields := #[]
  methods := #[]
  instanceTypes := #[]
  staticTypes := #[]
  resolved := Array.replicate 11 none
  statics := none }

def pool6 : Array CpInfo := pool [(1, .class_ 2), (0, u "java/lang/constant/ConstantDesc"), (0, .class_ 4), (0, u "java/lang/Object")] 32

/-- java/lang/constant/ConstantDesc -/
def k6 : Class := { plain "java/lang/constant/ConstantDesc" (some 0) with
  accessFlags := 1537
  interfaces := #[]
  cf := some (fileOf pool6 1 #[] #[] 1537 3 #[] #[])
  fields := #[]
  methods := #[]
  instanceTypes := #[]
  staticTypes := #[]
  resolved := Array.replicate 37 none
  statics := none }

def pool7 : Array CpInfo := pool [(1, .methodref 2 3), (0, .class_ 4), (0, .nameAndType 5 6), (0, u "java/lang/Object"), (0, u "<init>"), (0, u "()V"), (0, .string 8), (0, u ""), (0, .fieldref 10 11), (0, .class_ 12), (0, .nameAndType 13 14), (0, u "java/lang/String"), (0, u "value"), (0, u "[B"), (0, .fieldref 10 16), (0, .nameAndType 17 18), (0, u "coder"), (0, u "B"), (2, u "hash"), (0, u "I"), (2, u "hashIsZero"), (0, u "Z"), (0, .methodref 10 28), (0, .nameAndType 5 29), (0, u "([CIILjava/lang/Void;)V"), (8, .fieldref 10 39), (0, .nameAndType 40 26), (0, u "COMPACT_STRINGS"), (1, .class_ 44), (1, u "java/lang/StringUTF16"), (0, u "compress"), (1, .methodref 42 48), (0, .nameAndType 49 50), (0, u "coderFromArrayLen"), (0, u "([BI)B"), (56, .class_ 109), (1, u "java/lang/StringLatin1"), (32, u "()Z"), (34, .methodref 42 178), (0, .nameAndType 45 179), (0, u "([CII)[B"), (154, u "()I"), (0, .methodref 10 336), (0, .nameAndType 17 337), (0, u "()B"), (25, u "([BI)C"), (27, u "(II)V"), (35, u "(I)C"), (64, .methodref 10 493), (0, .nameAndType 494 142), (0, u "isLatin1"), (0, .methodref 107 496), (0, .nameAndType 497 363), (0, u "charAt"), (0, .methodref 42 496), (2, u "checkIndex"), (5, u "length"), (67, .class_ 576), (0, u "java/lang/CharSequence"), (22, u "CASE_INSENSITIVE_ORDER"), (0, u "Ljava/util/Comparator;"), (409, u "([C)V"), (42, .fieldref 1054 1055), (0, .class_ 1056), (0, .nameAndType 1057 1058), (0, u "jdk/internal/util/Preconditions"), (0, u "SIOOBE_FORMATTER"), (0, u "Ljava/util/function/BiFunction;"), (0, .methodref 1054 1060), (0, .nameAndType 501 1061), (0, u "(IILjava/util/function/BiFunction;)I"), (39, u "serialPersistentFields"), (0, u "[Ljava/io/ObjectStreamField;"), (0, .class_ 1104), (0, u "java/lang/String$CaseInsensitiveComparator"), (1, .class_ 1107), (0, u "java/io/Serializable"), (0, .class_ 1109), (0, u "java/lang/Comparable"), (0, .class_ 1111), (0, u "java/lang/constant/Constable"), (0, .class_ 1113), (0, u "java/lang/constant/ConstantDesc"), (2, u "serialVersionUID"), (0, u "J"), (3, u "REPL"), (0, u "C"), (2, u "LATIN1"), (1, u "UTF16")] 323

def k7m0 : Method := { name := "<init>", desc := "()V", sig := { parameters := [], returnType := none }, accessFlags := 1, code := none }
def k7c1 : Code := { maxStack := 5, maxLocals := 2, code := jdk_42_method_3_code, exceptionTable := #[], attributes := #[] }
def k7m1 : Method := { name := "<init>", desc := "([C)V", sig := { parameters := [(.array .char)], returnType := none }, accessFlags := 1, code := some k7c1 }
def k7c2 : Code := { maxStack := 2, maxLocals := 1, code := jdk_42_method_54_code, exceptionTable := #[], attributes := #[] }
def k7m2 : Method := { name := "length", desc := "()I", sig := { parameters := [], returnType := some .int }, accessFlags := 1, code := some k7c2 }
def k7c3 : Code := { maxStack := 2, maxLocals := 2, code := jdk_42_method_56_code, exceptionTable := #[], attributes := #[] }
def k7m3 : Method := { name := "charAt", desc := "(I)C", sig := { parameters := [.int], returnType := some .char }, accessFlags := 1, code := some k7c3 }
def k7c4 : Code := { maxStack := 4, maxLocals := 6, code := jdk_42_method_149_code, exceptionTable := #[], attributes := #[] }
def k7m4 : Method := { name := "<init>", desc := "([CIILjava/lang/Void;)V", sig := { parameters := [(.array .char), .int, .int, (.object "java/lang/Void")], returnType := none }, accessFlags := 2, code := some k7c4 }
def k7c5 : Code := { maxStack := 1, maxLocals := 1, code := jdk_42_method_152_code, exceptionTable := #[], attributes := #[] }
def k7m5 : Method := { name := "coder", desc := "()B", sig := { parameters := [], returnType := some .byte }, accessFlags := 0, code := some k7c5 }
def k7c6 : Code := { maxStack := 1, maxLocals := 1, code := jdk_42_method_154_code, exceptionTable := #[], attributes := #[] }
def k7m6 : Method := { name := "isLatin1", desc := "()Z", sig := { parameters := [], returnType := some .boolean }, accessFlags := 0, code := some k7c6 }
def k7c7 : Code := { maxStack := 3, maxLocals := 2, code := jdk_42_method_155_code, exceptionTable := #[], attributes := #[] }
def k7m7 : Method := { name := "checkIndex", desc := "(II)V", sig := { parameters := [.int, .int], returnType := none }, accessFlags := 8, code := some k7c7 }
/-- java/lang/String -/
def k7 : Class := { plain "java/lang/String" (some 0) with
  accessFlags := 49
  interfaces := #[2, 3, 4, 5, 6]
  cf := some (fileOf pool7 10 #[.nestMembers #[1103]] #[{ accessFlags := 1, nameIndex := 5, descriptorIndex := 6, attributes := #[] }, { accessFlags := 1, nameIndex := 5, descriptorIndex := 1010, attributes := #[] }, { accessFlags := 1, nameIndex := 507, descriptorIndex := 334, attributes := #[] }, { accessFlags := 1, nameIndex := 497, descriptorIndex := 427, attributes := #[] }, { accessFlags := 2, nameIndex := 5, descriptorIndex := 29, attributes := #[] }, { accessFlags := 0, nameIndex := 17, descriptorIndex := 337, attributes := #[] }, { accessFlags := 0, nameIndex := 494, descriptorIndex := 142, attributes := #[] }, { accessFlags := 8, nameIndex := 501, descriptorIndex := 391, attributes := #[] }] 49 2 #[1106, 1108, 575, 1110, 1112] #[{ accessFlags := 18, nameIndex := 13, descriptorIndex := 14, attributes := #[] }, { accessFlags := 18, nameIndex := 17, descriptorIndex := 18, attributes := #[] }, { accessFlags := 2, nameIndex := 21, descriptorIndex := 22, attributes := #[] }, { accessFlags := 2, nameIndex := 25, descriptorIndex := 26, attributes := #[] }, { accessFlags := 26, nameIndex := 1116, descriptorIndex := 1117, attributes := #[] }, { accessFlags := 24, nameIndex := 40, descriptorIndex := 26, attributes := #[] }, { accessFlags := 26, nameIndex := 1101, descriptorIndex := 1102, attributes := #[] }, { accessFlags := 26, nameIndex := 1121, descriptorIndex := 1122, attributes := #[] }, { accessFlags := 25, nameIndex := 599, descriptorIndex := 600, attributes := #[] }, { accessFlags := 24, nameIndex := 1125, descriptorIndex := 18, attributes := #[] }, { accessFlags := 24, nameIndex := 1127, descriptorIndex := 18, attributes := #[] }])
  fields := #[{ name := "value", type := (.array .byte), accessFlags := 18, slot := 0, constantValue := 0 }, { name := "coder", type := .byte, accessFlags := 18, slot := 1, constantValue := 0 }, { name := "hash", type := .int, accessFlags := 2, slot := 2, constantValue := 0 }, { name := "hashIsZero", type := .boolean, accessFlags := 2, slot := 3, constantValue := 0 }, { name := "serialVersionUID", type := .long, accessFlags := 26, slot := 0, constantValue := 0 }, { name := "COMPACT_STRINGS", type := .boolean, accessFlags := 24, slot := 1, constantValue := 0 }, { name := "serialPersistentFields", type := (.array (.object "java/io/ObjectStreamField")), accessFlags := 26, slot := 2, constantValue := 0 }, { name := "REPL", type := .char, accessFlags := 26, slot := 3, constantValue := 0 }, { name := "CASE_INSENSITIVE_ORDER", type := (.object "java/util/Comparator"), accessFlags := 25, slot := 4, constantValue := 0 }, { name := "LATIN1", type := .byte, accessFlags := 24, slot := 5, constantValue := 0 }, { name := "UTF16", type := .byte, accessFlags := 24, slot := 6, constantValue := 0 }]
  methods := #[k7m0, k7m1, k7m2, k7m3, k7m4, k7m5, k7m6, k7m7]
  instanceTypes := #[(.array .byte), .byte, .int, .boolean]
  staticTypes := #[.long, .boolean, (.array (.object "java/io/ObjectStreamField")), .char, (.object "java/util/Comparator"), .byte, .byte]
  resolved := Array.replicate 1451 none
  statics := some 0 }

def pool8 : Array CpInfo := pool [(2, .class_ 4), (1, u "java/lang/Object"), (0, u "<init>"), (0, u "()V"), (0, .methodref 8 9), (0, .class_ 10), (0, .nameAndType 11 12), (0, u "java/lang/String"), (0, u "length"), (0, u "()I"), (0, .methodref 14 15), (0, .class_ 16), (0, .nameAndType 17 18), (0, u "java/lang/Math"), (0, u "min"), (0, u "(II)I"), (0, .methodref 8 20), (0, .nameAndType 21 22), (0, u "charAt"), (0, u "(I)C"), (0, .methodref 24 25), (0, .class_ 26), (0, .nameAndType 27 28), (0, u "com/example/promovent/promovent/library/CodePoints"), (0, u "rank"), (0, u "(C)I"), (0, .methodref 30 31), (0, .class_ 32), (0, .nameAndType 33 18), (0, u "java/lang/Integer"), (0, u "compare"), (0, .methodref 35 36), (0, .class_ 37), (0, .nameAndType 38 39), (0, u "java/lang/Character"), (0, u "isSurrogate"), (0, u "(C)Z"), (0, .integer 65536), (2, u "(Ljava/lang/String;Ljava/lang/String;)I")] 3

def k8m0 : Method := { name := "<init>", desc := "()V", sig := { parameters := [], returnType := none }, accessFlags := 2, code := none }
def k8c1 : Code := { maxStack := 2, maxLocals := 6, code := prog_27_method_2_code, exceptionTable := #[], attributes := #[] }
def k8m1 : Method := { name := "compare", desc := "(Ljava/lang/String;Ljava/lang/String;)I", sig := { parameters := [(.object "java/lang/String"), (.object "java/lang/String")], returnType := some .int }, accessFlags := 8, code := some k8c1 }
def k8c2 : Code := { maxStack := 2, maxLocals := 1, code := prog_27_method_3_code, exceptionTable := #[], attributes := #[] }
def k8m2 : Method := { name := "rank", desc := "(C)I", sig := { parameters := [.char], returnType := some .int }, accessFlags := 10, code := some k8c2 }
/-- com/example/promovent/promovent/library/CodePoints -/
def k8 : Class := { plain "com/example/promovent/promovent/library/CodePoints" (some 0) with
  accessFlags := 48
  interfaces := #[]
  cf := some (fileOf pool8 24 #[] #[{ accessFlags := 2, nameIndex := 5, descriptorIndex := 6, attributes := #[] }, { accessFlags := 8, nameIndex := 33, descriptorIndex := 43, attributes := #[] }, { accessFlags := 10, nameIndex := 27, descriptorIndex := 28, attributes := #[] }] 48 2 #[] #[])
  fields := #[]
  methods := #[k8m0, k8m1, k8m2]
  instanceTypes := #[]
  staticTypes := #[]
  resolved := Array.replicate 47 none
  statics := none }

def pool9 : Array CpInfo := pool [(1, .class_ 2), (0, u "java/lang/Math"), (1, .class_ 6), (1, u "java/lang/Object"), (0, u "<init>"), (0, u "()V"), (89, .class_ 100), (1, u "java/lang/Math$RandomNumberGeneratorHolder"), (71, u "negativeZeroFloatBits"), (0, u "J"), (2, u "negativeZeroDoubleBits"), (24, u "min"), (43, u "$assertionsDisabled"), (0, u "Z"), (88, u "(II)I"), (2, u "twoToTheDoubleScaleDown"), (0, u "D"), (4, u "twoToTheDoubleScaleUp"), (9, u "E"), (3, u "PI"), (2, u "TAU"), (2, u "DEGREES_TO_RADIANS"), (0, u "RADIANS_TO_DEGREES")] 94

def k9m0 : Method := { name := "<init>", desc := "()V", sig := { parameters := [], returnType := none }, accessFlags := 2, code := none }
def k9c1 : Code := { maxStack := 2, maxLocals := 2, code := jdk_29_method_69_code, exceptionTable := #[], attributes := #[] }
def k9m1 : Method := { name := "min", desc := "(II)I", sig := { parameters := [.int, .int], returnType := some .int }, accessFlags := 9, code := some k9c1 }
/-- java/lang/Math -/
def k9 : Class := { plain "java/lang/Math" (some 0) with
  accessFlags := 49
  interfaces := #[]
  cf := some (fileOf pool9 1 #[.nestMembers #[98]] #[{ accessFlags := 2, nameIndex := 7, descriptorIndex := 8, attributes := #[] }, { accessFlags := 9, nameIndex := 201, descriptorIndex := 335, attributes := #[] }] 49 4 #[] #[{ accessFlags := 25, nameIndex := 354, descriptorIndex := 339, attributes := #[] }, { accessFlags := 25, nameIndex := 358, descriptorIndex := 339, attributes := #[] }, { accessFlags := 25, nameIndex := 361, descriptorIndex := 339, attributes := #[] }, { accessFlags := 26, nameIndex := 364, descriptorIndex := 339, attributes := #[] }, { accessFlags := 26, nameIndex := 365, descriptorIndex := 339, attributes := #[] }, { accessFlags := 26, nameIndex := 172, descriptorIndex := 173, attributes := #[] }, { accessFlags := 26, nameIndex := 176, descriptorIndex := 173, attributes := #[] }, { accessFlags := 8, nameIndex := 344, descriptorIndex := 339, attributes := #[] }, { accessFlags := 8, nameIndex := 338, descriptorIndex := 339, attributes := #[] }, { accessFlags := 4120, nameIndex := 245, descriptorIndex := 246, attributes := #[] }])
  fields := #[{ name := "E", type := .double, accessFlags := 25, slot := 0, constantValue := 0 }, { name := "PI", type := .double, accessFlags := 25, slot := 1, constantValue := 0 }, { name := "TAU", type := .double, accessFlags := 25, slot := 2, constantValue := 0 }, { name := "DEGREES_TO_RADIANS", type := .double, accessFlags := 26, slot := 3, constantValue := 0 }, { name := "RADIANS_TO_DEGREES", type := .double, accessFlags := 26, slot := 4, constantValue := 0 }, { name := "negativeZeroFloatBits", type := .long, accessFlags := 26, slot := 5, constantValue := 0 }, { name := "negativeZeroDoubleBits", type := .long, accessFlags := 26, slot := 6, constantValue := 0 }, { name := "twoToTheDoubleScaleUp", type := .double, accessFlags := 8, slot := 7, constantValue := 0 }, { name := "twoToTheDoubleScaleDown", type := .double, accessFlags := 8, slot := 8, constantValue := 0 }, { name := "$assertionsDisabled", type := .boolean, accessFlags := 4120, slot := 9, constantValue := 0 }]
  methods := #[k9m0, k9m1]
  instanceTypes := #[]
  staticTypes := #[.double, .double, .double, .double, .double, .long, .long, .double, .double, .boolean]
  resolved := Array.replicate 460 none
  statics := none }

def pool10 : Array CpInfo := pool [(2, .class_ 4), (1, u "java/lang/Object"), (0, u "<init>"), (0, u "()V"), (1, .class_ 10), (1, u "java/lang/Number"), (2, .class_ 14), (0, u "java/io/Serializable"), (0, u "serialVersionUID"), (0, u "J")] 20

def k10m0 : Method := { name := "<init>", desc := "()V", sig := { parameters := [], returnType := none }, accessFlags := 1, code := none }
/-- java/lang/Number -/
def k10 : Class := { plain "java/lang/Number" (some 0) with
  accessFlags := 1057
  interfaces := #[2]
  cf := some (fileOf pool10 8 #[] #[{ accessFlags := 1, nameIndex := 5, descriptorIndex := 6, attributes := #[] }] 1057 2 #[13] #[{ accessFlags := 26, nameIndex := 15, descriptorIndex := 16, attributes := #[] }])
  fields := #[{ name := "serialVersionUID", type := .long, accessFlags := 26, slot := 0, constantValue := 0 }]
  methods := #[k10m0]
  instanceTypes := #[]
  staticTypes := #[.long]
  resolved := Array.replicate 37 none
  statics := none }

def pool11 : Array CpInfo := pool [(1, .class_ 2), (0, u "java/lang/Integer"), (16, u "digits"), (0, u "[C"), (39, u "(II)I"), (24, u "DigitOnes"), (0, u "[B"), (2, u "DigitTens"), (99, .class_ 190), (0, u "java/lang/Integer$IntegerCache"), (3, u "I"), (8, .class_ 204), (0, u "java/lang/Number"), (2, u "value"), (53, u "compare"), (40, u "TYPE"), (0, u "Ljava/lang/Class;"), (0, .class_ 305), (0, u "java/lang/Comparable"), (0, .class_ 307), (0, u "java/lang/constant/Constable"), (0, .class_ 309), (0, u "java/lang/constant/ConstantDesc"), (0, u "MIN_VALUE"), (1, u "MAX_VALUE"), (3, u "SIZE"), (1, u "BYTES"), (1, u "serialVersionUID"), (0, u "J")] 131

def k11c0 : Code := { maxStack := 2, maxLocals := 2, code := jdk_33_method_40_code, exceptionTable := #[], attributes := #[] }
def k11m0 : Method := { name := "compare", desc := "(II)I", sig := { parameters := [.int, .int], returnType := some .int }, accessFlags := 9, code := some k11c0 }
/-- java/lang/Integer -/
def k11 : Class := { plain "java/lang/Integer" (some 10) with
  accessFlags := 49
  interfaces := #[3, 5, 6]
  cf := some (fileOf pool11 1 #[.nestMembers #[189]] #[{ accessFlags := 9, nameIndex := 261, descriptorIndex := 60, attributes := #[] }] 49 203 #[304, 306, 308] #[{ accessFlags := 25, nameIndex := 310, descriptorIndex := 194, attributes := #[] }, { accessFlags := 25, nameIndex := 312, descriptorIndex := 194, attributes := #[] }, { accessFlags := 25, nameIndex := 302, descriptorIndex := 303, attributes := #[] }, { accessFlags := 24, nameIndex := 19, descriptorIndex := 20, attributes := #[] }, { accessFlags := 24, nameIndex := 89, descriptorIndex := 86, attributes := #[] }, { accessFlags := 24, nameIndex := 85, descriptorIndex := 86, attributes := #[] }, { accessFlags := 18, nameIndex := 207, descriptorIndex := 194, attributes := #[] }, { accessFlags := 25, nameIndex := 316, descriptorIndex := 194, attributes := #[] }, { accessFlags := 25, nameIndex := 318, descriptorIndex := 194, attributes := #[] }, { accessFlags := 26, nameIndex := 320, descriptorIndex := 321, attributes := #[] }])
  fields := #[{ name := "MIN_VALUE", type := .int, accessFlags := 25, slot := 0, constantValue := 0 }, { name := "MAX_VALUE", type := .int, accessFlags := 25, slot := 1, constantValue := 0 }, { name := "TYPE", type := (.object "java/lang/Class"), accessFlags := 25, slot := 2, constantValue := 0 }, { name := "digits", type := (.array .char), accessFlags := 24, slot := 3, constantValue := 0 }, { name := "DigitTens", type := (.array .byte), accessFlags := 24, slot := 4, constantValue := 0 }, { name := "DigitOnes", type := (.array .byte), accessFlags := 24, slot := 5, constantValue := 0 }, { name := "value", type := .int, accessFlags := 18, slot := 0, constantValue := 0 }, { name := "SIZE", type := .int, accessFlags := 25, slot := 6, constantValue := 0 }, { name := "BYTES", type := .int, accessFlags := 25, slot := 7, constantValue := 0 }, { name := "serialVersionUID", type := .long, accessFlags := 26, slot := 8, constantValue := 0 }]
  methods := #[k11m0]
  instanceTypes := #[.int]
  staticTypes := #[.int, .int, (.object "java/lang/Class"), (.array .char), (.array .byte), (.array .byte), .int, .int, .long]
  resolved := Array.replicate 453 none
  statics := none }

def pool12 : Array CpInfo := pool [(3, .class_ 4), (0, u "java/lang/String"), (1, .class_ 8), (1, u "java/lang/Object"), (0, u "<init>"), (0, u "()V"), (0, .methodref 12 13), (0, .class_ 14), (0, .nameAndType 15 16), (0, u "java/lang/StringUTF16"), (0, u "newBytesLength"), (0, u "(I)I"), (3, .integer 1073741823), (23, .fieldref 12 45), (0, .nameAndType 46 47), (0, u "$assertionsDisabled"), (0, u "Z"), (0, .methodref 12 49), (0, .nameAndType 50 51), (0, u "length"), (0, u "([B)I"), (7, .fieldref 12 60), (0, .nameAndType 61 62), (0, u "HI_BYTE_SHIFT"), (0, u "I"), (0, .fieldref 12 64), (0, .nameAndType 65 62), (0, u "LO_BYTE_SHIFT"), (1, .methodref 12 68), (0, .nameAndType 69 70), (0, u "checkIndex"), (0, u "(I[B)V"), (0, .methodref 12 72), (0, .nameAndType 73 74), (0, u "getChar"), (0, u "([BI)C"), (32, .methodref 12 108), (0, .nameAndType 109 110), (0, u "newBytesFor"), (0, u "(I)[B"), (0, .methodref 12 112), (0, .nameAndType 113 114), (0, u "putChar"), (0, u "([BII)V"), (0, .methodref 12 116), (0, .nameAndType 117 118), (0, u "compress"), (0, u "([CI[BII)I"), (0, .methodref 12 120), (0, .nameAndType 121 122), (0, u "toBytes"), (0, u "([CII)[B"), (138, u "coderFromArrayLen"), (0, u "([BI)B"), (106, .class_ 371), (1, u "java/lang/StringUTF16$LinesSpliterator"), (20, u "charAt"), (21, .methodref 3 415), (0, .nameAndType 69 416), (0, u "(II)V"), (13, u "MAX_LENGTH"), (196, .class_ 628), (0, u "java/lang/StringUTF16$CodePointsSpliterator"), (0, .class_ 630), (0, u "java/lang/StringUTF16$CharsSpliterator")] 4

def k12m0 : Method := { name := "<init>", desc := "()V", sig := { parameters := [], returnType := none }, accessFlags := 0, code := none }
def k12c1 : Code := { maxStack := 1, maxLocals := 1, code := jdk_52_method_2_code, exceptionTable := #[], attributes := #[] }
def k12m1 : Method := { name := "newBytesFor", desc := "(I)[B", sig := { parameters := [.int], returnType := some (.array .byte) }, accessFlags := 9, code := some k12c1 }
def k12c2 : Code := { maxStack := 4, maxLocals := 1, code := jdk_52_method_3_code, exceptionTable := #[], attributes := #[] }
def k12m2 : Method := { name := "newBytesLength", desc := "(I)I", sig := { parameters := [.int], returnType := some .int }, accessFlags := 9, code := some k12c2 }
def k12c3 : Code := { maxStack := 4, maxLocals := 3, code := jdk_52_method_4_code, exceptionTable := #[], attributes := #[] }
def k12m3 : Method := { name := "putChar", desc := "([BII)V", sig := { parameters := [(.array .byte), .int, .int], returnType := none }, accessFlags := 8, code := some k12c3 }
def k12c4 : Code := { maxStack := 3, maxLocals := 2, code := jdk_52_method_5_code, exceptionTable := #[], attributes := #[] }
def k12m4 : Method := { name := "getChar", desc := "([BI)C", sig := { parameters := [(.array .byte), .int], returnType := some .char }, accessFlags := 8, code := some k12c4 }
def k12c5 : Code := { maxStack := 2, maxLocals := 1, code := jdk_52_method_6_code, exceptionTable := #[], attributes := #[] }
def k12m5 : Method := { name := "length", desc := "([B)I", sig := { parameters := [(.array .byte)], returnType := some .int }, accessFlags := 9, code := some k12c5 }
def k12c6 : Code := { maxStack := 4, maxLocals := 5, code := jdk_52_method_14_code, exceptionTable := #[], attributes := #[] }
def k12m6 : Method := { name := "toBytes", desc := "([CII)[B", sig := { parameters := [(.array .char), .int, .int], returnType := some (.array .byte) }, accessFlags := 9, code := some k12c6 }
def k12c7 : Code := { maxStack := 2, maxLocals := 2, code := jdk_52_method_15_code, exceptionTable := #[], attributes := #[] }
def k12m7 : Method := { name := "coderFromArrayLen", desc := "([BI)B", sig := { parameters := [(.array .byte), .int], returnType := some .byte }, accessFlags := 8, code := some k12c7 }
def k12c8 : Code := { maxStack := 5, maxLocals := 6, code := jdk_52_method_16_code, exceptionTable := #[], attributes := #[] }
def k12m8 : Method := { name := "compress", desc := "([CII)[B", sig := { parameters := [(.array .char), .int, .int], returnType := some (.array .byte) }, accessFlags := 9, code := some k12c8 }
def k12c9 : Code := { maxStack := 3, maxLocals := 7, code := jdk_52_method_21_code, exceptionTable := #[], attributes := #[] }
def k12m9 : Method := { name := "compress", desc := "([CI[BII)I", sig := { parameters := [(.array .char), .int, (.array .byte), .int, .int], returnType := some .int }, accessFlags := 9, code := some k12c9 }
def k12c10 : Code := { maxStack := 2, maxLocals := 2, code := jdk_52_method_83_code, exceptionTable := #[], attributes := #[] }
def k12m10 : Method := { name := "charAt", desc := "([BI)C", sig := { parameters := [(.array .byte), .int], returnType := some .char }, accessFlags := 9, code := some k12c10 }
def k12c11 : Code := { maxStack := 2, maxLocals := 2, code := jdk_52_method_91_code, exceptionTable := #[], attributes := #[] }
def k12m11 : Method := { name := "checkIndex", desc := "(I[B)V", sig := { parameters := [.int, (.array .byte)], returnType := none }, accessFlags := 9, code := some k12c11 }
/-- java/lang/StringUTF16 -/
def k12 : Class := { plain "java/lang/StringUTF16" (some 0) with
  accessFlags := 48
  interfaces := #[]
  cf := some (fileOf pool12 12 #[.nestMembers #[627, 629, 369]] #[{ accessFlags := 0, nameIndex := 9, descriptorIndex := 10, attributes := #[] }, { accessFlags := 9, nameIndex := 109, descriptorIndex := 110, attributes := #[] }, { accessFlags := 9, nameIndex := 15, descriptorIndex := 16, attributes := #[] }, { accessFlags := 8, nameIndex := 113, descriptorIndex := 114, attributes := #[] }, { accessFlags := 8, nameIndex := 73, descriptorIndex := 74, attributes := #[] }, { accessFlags := 9, nameIndex := 50, descriptorIndex := 51, attributes := #[] }, { accessFlags := 9, nameIndex := 121, descriptorIndex := 122, attributes := #[] }, { accessFlags := 8, nameIndex := 261, descriptorIndex := 262, attributes := #[] }, { accessFlags := 9, nameIndex := 117, descriptorIndex := 122, attributes := #[] }, { accessFlags := 9, nameIndex := 117, descriptorIndex := 118, attributes := #[] }, { accessFlags := 9, nameIndex := 392, descriptorIndex := 74, attributes := #[] }, { accessFlags := 9, nameIndex := 69, descriptorIndex := 70, attributes := #[] }] 48 6 #[] #[{ accessFlags := 26, nameIndex := 61, descriptorIndex := 62, attributes := #[] }, { accessFlags := 26, nameIndex := 65, descriptorIndex := 62, attributes := #[] }, { accessFlags := 24, nameIndex := 430, descriptorIndex := 62, attributes := #[] }, { accessFlags := 4120, nameIndex := 46, descriptorIndex := 47, attributes := #[] }])
  fields := #[{ name := "HI_BYTE_SHIFT", type := .int, accessFlags := 26, slot := 0, constantValue := 0 }, { name := "LO_BYTE_SHIFT", type := .int, accessFlags := 26, slot := 1, constantValue := 0 }, { name := "MAX_LENGTH", type := .int, accessFlags := 24, slot := 2, constantValue := 0 }, { name := "$assertionsDisabled", type := .boolean, accessFlags := 4120, slot := 3, constantValue := 0 }]
  methods := #[k12m0, k12m1, k12m2, k12m3, k12m4, k12m5, k12m6, k12m7, k12m8, k12m9, k12m10, k12m11]
  instanceTypes := #[]
  staticTypes := #[.int, .int, .int, .boolean]
  resolved := Array.replicate 635 none
  statics := some 1 }

def pool13 : Array CpInfo := pool [(1, .class_ 2), (0, u "java/lang/String"), (1, .class_ 6), (1, u "java/lang/Object"), (0, u "<init>"), (0, u "()V"), (0, .methodref 1 10), (0, .nameAndType 11 12), (0, u "checkIndex"), (0, u "(II)V"), (1, .class_ 16), (1, u "java/lang/StringLatin1"), (36, u "([BI)C"), (67, u "$assertionsDisabled"), (0, u "Z"), (98, .class_ 223), (1, u "java/lang/StringLatin1$LinesSpliterator"), (28, u "charAt"), (137, .class_ 391), (0, u "java/lang/StringLatin1$CharsSpliterator")] 3

def k13m0 : Method := { name := "<init>", desc := "()V", sig := { parameters := [], returnType := none }, accessFlags := 0, code := none }
def k13c1 : Code := { maxStack := 2, maxLocals := 2, code := jdk_43_method_2_code, exceptionTable := #[], attributes := #[] }
def k13m1 : Method := { name := "charAt", desc := "([BI)C", sig := { parameters := [(.array .byte), .int], returnType := some .char }, accessFlags := 9, code := some k13c1 }
/-- java/lang/StringLatin1 -/
def k13 : Class := { plain "java/lang/StringLatin1" (some 0) with
  accessFlags := 48
  interfaces := #[]
  cf := some (fileOf pool13 14 #[.nestMembers #[390, 221]] #[{ accessFlags := 0, nameIndex := 7, descriptorIndex := 8, attributes := #[] }, { accessFlags := 9, nameIndex := 252, descriptorIndex := 53, attributes := #[] }] 48 4 #[] #[{ accessFlags := 4120, nameIndex := 121, descriptorIndex := 122, attributes := #[] }])
  fields := #[{ name := "$assertionsDisabled", type := .boolean, accessFlags := 4120, slot := 0, constantValue := 0 }]
  methods := #[k13m0, k13m1]
  instanceTypes := #[]
  staticTypes := #[.boolean]
  resolved := Array.replicate 395 none
  statics := none }

def pool14 : Array CpInfo := pool [(2, .class_ 4), (1, u "java/lang/Object"), (0, u "<init>"), (0, u "()V"), (17, .class_ 26), (1, u "jdk/internal/util/Preconditions"), (6, u "checkIndex"), (21, .class_ 56), (0, u "jdk/internal/util/Preconditions$4"), (57, .class_ 115), (0, u "jdk/internal/util/Preconditions$1"), (7, u "SIOOBE_FORMATTER"), (0, u "Ljava/util/function/BiFunction;"), (0, .class_ 126), (0, u "jdk/internal/util/Preconditions$2"), (3, u "AIOOBE_FORMATTER"), (0, .class_ 132), (0, u "jdk/internal/util/Preconditions$3"), (3, u "IOOBE_FORMATTER"), (41, u "(IILjava/util/function/BiFunction;)I")] 15

def k14m0 : Method := { name := "<init>", desc := "()V", sig := { parameters := [], returnType := none }, accessFlags := 1, code := none }
def k14c1 : Code := { maxStack := 3, maxLocals := 3, code := jdk_41_method_11_code, exceptionTable := #[], attributes := #[] }
def k14m1 : Method := { name := "checkIndex", desc := "(IILjava/util/function/BiFunction;)I", sig := { parameters := [.int, .int, (.object "java/util/function/BiFunction")], returnType := some .int }, accessFlags := 9, code := some k14c1 }
/-- jdk/internal/util/Preconditions -/
def k14 : Class := { plain "jdk/internal/util/Preconditions" (some 0) with
  accessFlags := 33
  interfaces := #[]
  cf := some (fileOf pool14 24 #[.nestMembers #[55, 131, 125, 114]] #[{ accessFlags := 1, nameIndex := 5, descriptorIndex := 6, attributes := #[] }, { accessFlags := 9, nameIndex := 33, descriptorIndex := 178, attributes := #[] }] 33 2 #[] #[{ accessFlags := 25, nameIndex := 123, descriptorIndex := 124, attributes := #[] }, { accessFlags := 25, nameIndex := 130, descriptorIndex := 124, attributes := #[] }, { accessFlags := 25, nameIndex := 136, descriptorIndex := 124, attributes := #[] }])
  fields := #[{ name := "SIOOBE_FORMATTER", type := (.object "java/util/function/BiFunction"), accessFlags := 25, slot := 0, constantValue := 0 }, { name := "AIOOBE_FORMATTER", type := (.object "java/util/function/BiFunction"), accessFlags := 25, slot := 1, constantValue := 0 }, { name := "IOOBE_FORMATTER", type := (.object "java/util/function/BiFunction"), accessFlags := 25, slot := 2, constantValue := 0 }]
  methods := #[k14m0, k14m1]
  instanceTypes := #[]
  staticTypes := #[(.object "java/util/function/BiFunction"), (.object "java/util/function/BiFunction"), (.object "java/util/function/BiFunction")]
  resolved := Array.replicate 194 none
  statics := some 2 }

def pool15 : Array CpInfo := pool [(1, .class_ 2), (0, u "java/lang/Character"), (18, u "value"), (0, u "C"), (19, .class_ 44), (1, u "java/lang/Object"), (3, .class_ 50), (1, u "java/lang/Character$CharacterCache"), (24, .integer 55296), (1, .integer 57344), (3, u "(C)Z"), (202, u "$assertionsDisabled"), (0, u "Z"), (21, .class_ 309), (1, u "java/lang/Character$UnicodeBlock"), (73, u "TYPE"), (0, u "Ljava/lang/Class;"), (0, .class_ 386), (0, u "java/io/Serializable"), (0, .class_ 388), (0, u "java/lang/Comparable"), (0, .class_ 390), (0, u "java/lang/constant/Constable"), (0, u "MIN_RADIX"), (0, u "I"), (2, u "MAX_RADIX"), (1, u "MIN_VALUE"), (1, u "MAX_VALUE"), (3, u "UNASSIGNED"), (0, u "B"), (0, u "UPPERCASE_LETTER"), (1, u "LOWERCASE_LETTER"), (0, u "TITLECASE_LETTER"), (1, u "MODIFIER_LETTER"), (1, u "OTHER_LETTER"), (1, u "NON_SPACING_MARK"), (1, u "ENCLOSING_MARK"), (1, u "COMBINING_SPACING_MARK"), (1, u "DECIMAL_DIGIT_NUMBER"), (1, u "LETTER_NUMBER"), (1, u "OTHER_NUMBER"), (1, u "SPACE_SEPARATOR"), (1, u "LINE_SEPARATOR"), (1, u "PARAGRAPH_SEPARATOR"), (1, u "CONTROL"), (1, u "FORMAT"), (1, u "PRIVATE_USE"), (1, u "SURROGATE"), (1, u "DASH_PUNCTUATION"), (1, u "START_PUNCTUATION"), (1, u "END_PUNCTUATION"), (1, u "CONNECTOR_PUNCTUATION"), (1, u "OTHER_PUNCTUATION"), (1, u "MATH_SYMBOL"), (1, u "CURRENCY_SYMBOL"), (1, u "MODIFIER_SYMBOL"), (1, u "OTHER_SYMBOL"), (1, u "INITIAL_QUOTE_PUNCTUATION"), (1, u "FINAL_QUOTE_PUNCTUATION"), (1, u "ERROR"), (1, u "DIRECTIONALITY_UNDEFINED"), (0, u "DIRECTIONALITY_LEFT_TO_RIGHT"), (0, u "DIRECTIONALITY_RIGHT_TO_LEFT"), (0, u "DIRECTIONALITY_RIGHT_TO_LEFT_ARABIC"), (0, u "DIRECTIONALITY_EUROPEAN_NUMBER"), (0, u "DIRECTIONALITY_EUROPEAN_NUMBER_SEPARATOR"), (0, u "DIRECTIONALITY_EUROPEAN_NUMBER_TERMINATOR"), (0, u "DIRECTIONALITY_ARABIC_NUMBER"), (0, u "DIRECTIONALITY_COMMON_NUMBER_SEPARATOR"), (0, u "DIRECTIONALITY_NONSPACING_MARK"), (0, u "DIRECTIONALITY_BOUNDARY_NEUTRAL"), (0, u "DIRECTIONALITY_PARAGRAPH_SEPARATOR"), (0, u "DIRECTIONALITY_SEGMENT_SEPARATOR"), (0, u "DIRECTIONALITY_WHITESPACE"), (0, u "DIRECTIONALITY_OTHER_NEUTRALS"), (0, u "DIRECTIONALITY_LEFT_TO_RIGHT_EMBEDDING"), (0, u "DIRECTIONALITY_LEFT_TO_RIGHT_OVERRIDE"), (0, u "DIRECTIONALITY_RIGHT_TO_LEFT_EMBEDDING"), (0, u "DIRECTIONALITY_RIGHT_TO_LEFT_OVERRIDE"), (1, u "DIRECTIONALITY_POP_DIRECTIONAL_FORMAT"), (0, u "DIRECTIONALITY_LEFT_TO_RIGHT_ISOLATE"), (0, u "DIRECTIONALITY_RIGHT_TO_LEFT_ISOLATE"), (0, u "DIRECTIONALITY_FIRST_STRONG_ISOLATE"), (0, u "DIRECTIONALITY_POP_DIRECTIONAL_ISOLATE"), (0, u "MIN_HIGH_SURROGATE"), (0, u "MAX_HIGH_SURROGATE"), (1, u "MIN_LOW_SURROGATE"), (0, u "MAX_LOW_SURROGATE"), (1, u "MIN_SURROGATE"), (0, u "MAX_SURROGATE"), (0, u "MIN_SUPPLEMENTARY_CODE_POINT"), (0, u "MIN_CODE_POINT"), (0, u "MAX_CODE_POINT"), (1, u "serialVersionUID"), (0, u "J"), (2, u "SIZE"), (0, u "BYTES"), (24, u "isSurrogate"), (63, .class_ 596), (0, u "java/lang/Character$UnicodeScript"), (0, .class_ 598), (0, u "java/lang/Character$Subset")] 5

def k15c0 : Code := { maxStack := 2, maxLocals := 1, code := jdk_89_method_16_code, exceptionTable := #[], attributes := #[] }
def k15m0 : Method := { name := "isSurrogate", desc := "(C)Z", sig := { parameters := [.char], returnType := some .boolean }, accessFlags := 9, code := some k15c0 }
/-- java/lang/Character -/
def k15 : Class := { plain "java/lang/Character" (some 0) with
  accessFlags := 49
  interfaces := #[2, 3, 5]
  cf := some (fileOf pool15 1 #[.nestMembers #[48, 595, 307, 597]] #[{ accessFlags := 9, nameIndex := 531, descriptorIndex := 81, attributes := #[] }] 49 42 #[385, 387, 389] #[{ accessFlags := 25, nameIndex := 391, descriptorIndex := 392, attributes := #[] }, { accessFlags := 25, nameIndex := 395, descriptorIndex := 392, attributes := #[] }, { accessFlags := 25, nameIndex := 397, descriptorIndex := 22, attributes := #[] }, { accessFlags := 25, nameIndex := 399, descriptorIndex := 22, attributes := #[] }, { accessFlags := 25, nameIndex := 383, descriptorIndex := 384, attributes := #[] }, { accessFlags := 25, nameIndex := 403, descriptorIndex := 404, attributes := #[] }, { accessFlags := 25, nameIndex := 405, descriptorIndex := 404, attributes := #[] }, { accessFlags := 25, nameIndex := 407, descriptorIndex := 404, attributes := #[] }, { accessFlags := 25, nameIndex := 408, descriptorIndex := 404, attributes := #[] }, { accessFlags := 25, nameIndex := 410, descriptorIndex := 404, attributes := #[] }, { accessFlags := 25, nameIndex := 412, descriptorIndex := 404, attributes := #[] }, { accessFlags := 25, nameIndex := 414, descriptorIndex := 404, attributes := #[] }, { accessFlags := 25, nameIndex := 416, descriptorIndex := 404, attributes := #[] }, { accessFlags := 25, nameIndex := 418, descriptorIndex := 404, attributes := #[] }, { accessFlags := 25, nameIndex := 420, descriptorIndex := 404, attributes := #[] }, { accessFlags := 25, nameIndex := 422, descriptorIndex := 404, attributes := #[] }, { accessFlags := 25, nameIndex := 424, descriptorIndex := 404, attributes := #[] }, { accessFlags := 25, nameIndex := 426, descriptorIndex := 404, attributes := #[] }, { accessFlags := 25, nameIndex := 428, descriptorIndex := 404, attributes := #[] }, { accessFlags := 25, nameIndex := 430, descriptorIndex := 404, attributes := #[] }, { accessFlags := 25, nameIndex := 432, descriptorIndex := 404, attributes := #[] }, { accessFlags := 25, nameIndex := 434, descriptorIndex := 404, attributes := #[] }, { accessFlags := 25, nameIndex := 436, descriptorIndex := 404, attributes := #[] }, { accessFlags := 25, nameIndex := 438, descriptorIndex := 404, attributes := #[] }, { accessFlags := 25, nameIndex := 440, descriptorIndex := 404, attributes := #[] }, { accessFlags := 25, nameIndex := 442, descriptorIndex := 404, attributes := #[] }, { accessFlags := 25, nameIndex := 444, descriptorIndex := 404, attributes := #[] }, { accessFlags := 25, nameIndex := 446, descriptorIndex := 404, attributes := #[] }, { accessFlags := 25, nameIndex := 448, descriptorIndex := 404, attributes := #[] }, { accessFlags := 25, nameIndex := 450, descriptorIndex := 404, attributes := #[] }, { accessFlags := 25, nameIndex := 452, descriptorIndex := 404, attributes := #[] }, { accessFlags := 25, nameIndex := 454, descriptorIndex := 404, attributes := #[] }, { accessFlags := 25, nameIndex := 456, descriptorIndex := 404, attributes := #[] }, { accessFlags := 25, nameIndex := 458, descriptorIndex := 404, attributes := #[] }, { accessFlags := 25, nameIndex := 460, descriptorIndex := 404, attributes := #[] }, { accessFlags := 24, nameIndex := 462, descriptorIndex := 392, attributes := #[] }, { accessFlags := 25, nameIndex := 464, descriptorIndex := 404, attributes := #[] }, { accessFlags := 25, nameIndex := 465, descriptorIndex := 404, attributes := #[] }, { accessFlags := 25, nameIndex := 466, descriptorIndex := 404, attributes := #[] }, { accessFlags := 25, nameIndex := 467, descriptorIndex := 404, attributes := #[] }, { accessFlags := 25, nameIndex := 468, descriptorIndex := 404, attributes := #[] }, { accessFlags := 25, nameIndex := 469, descriptorIndex := 404, attributes := #[] }, { accessFlags := 25, nameIndex := 470, descriptorIndex := 404, attributes := #[] }, { accessFlags := 25, nameIndex := 471, descriptorIndex := 404, attributes := #[] }, { accessFlags := 25, nameIndex := 472, descriptorIndex := 404, attributes := #[] }, { accessFlags := 25, nameIndex := 473, descriptorIndex := 404, attributes := #[] }, { accessFlags := 25, nameIndex := 474, descriptorIndex := 404, attributes := #[] }, { accessFlags := 25, nameIndex := 475, descriptorIndex := 404, attributes := #[] }, { accessFlags := 25, nameIndex := 476, descriptorIndex := 404, attributes := #[] }, { accessFlags := 25, nameIndex := 477, descriptorIndex := 404, attributes := #[] }, { accessFlags := 25, nameIndex := 478, descriptorIndex := 404, attributes := #[] }, { accessFlags := 25, nameIndex := 479, descriptorIndex := 404, attributes := #[] }, { accessFlags := 25, nameIndex := 480, descriptorIndex := 404, attributes := #[] }, { accessFlags := 25, nameIndex := 481, descriptorIndex := 404, attributes := #[] }, { accessFlags := 25, nameIndex := 482, descriptorIndex := 404, attributes := #[] }, { accessFlags := 25, nameIndex := 484, descriptorIndex := 404, attributes := #[] }, { accessFlags := 25, nameIndex := 485, descriptorIndex := 404, attributes := #[] }, { accessFlags := 25, nameIndex := 486, descriptorIndex := 404, attributes := #[] }, { accessFlags := 25, nameIndex := 487, descriptorIndex := 404, attributes := #[] }, { accessFlags := 25, nameIndex := 488, descriptorIndex := 404, attributes := #[] }, { accessFlags := 25, nameIndex := 489, descriptorIndex := 22, attributes := #[] }, { accessFlags := 25, nameIndex := 490, descriptorIndex := 22, attributes := #[] }, { accessFlags := 25, nameIndex := 492, descriptorIndex := 22, attributes := #[] }, { accessFlags := 25, nameIndex := 493, descriptorIndex := 22, attributes := #[] }, { accessFlags := 25, nameIndex := 495, descriptorIndex := 22, attributes := #[] }, { accessFlags := 25, nameIndex := 496, descriptorIndex := 22, attributes := #[] }, { accessFlags := 25, nameIndex := 497, descriptorIndex := 392, attributes := #[] }, { accessFlags := 25, nameIndex := 498, descriptorIndex := 392, attributes := #[] }, { accessFlags := 25, nameIndex := 499, descriptorIndex := 392, attributes := #[] }, { accessFlags := 18, nameIndex := 21, descriptorIndex := 22, attributes := #[] }, { accessFlags := 26, nameIndex := 501, descriptorIndex := 502, attributes := #[] }, { accessFlags := 25, nameIndex := 505, descriptorIndex := 392, attributes := #[] }, { accessFlags := 25, nameIndex := 506, descriptorIndex := 392, attributes := #[] }, { accessFlags := 4120, nameIndex := 284, descriptorIndex := 285, attributes := #[] }])
  fields := #[{ name := "MIN_RADIX", type := .int, accessFlags := 25, slot := 0, constantValue := 0 }, { name := "MAX_RADIX", type := .int, accessFlags := 25, slot := 1, constantValue := 0 }, { name := "MIN_VALUE", type := .char, accessFlags := 25, slot := 2, constantValue := 0 }, { name := "MAX_VALUE", type := .char, accessFlags := 25, slot := 3, constantValue := 0 }, { name := "TYPE", type := (.object "java/lang/Class"), accessFlags := 25, slot := 4, constantValue := 0 }, { name := "UNASSIGNED", type := .byte, accessFlags := 25, slot := 5, constantValue := 0 }, { name := "UPPERCASE_LETTER", type := .byte, accessFlags := 25, slot := 6, constantValue := 0 }, { name := "LOWERCASE_LETTER", type := .byte, accessFlags := 25, slot := 7, constantValue := 0 }, { name := "TITLECASE_LETTER", type := .byte, accessFlags := 25, slot := 8, constantValue := 0 }, { name := "MODIFIER_LETTER", type := .byte, accessFlags := 25, slot := 9, constantValue := 0 }, { name := "OTHER_LETTER", type := .byte, accessFlags := 25, slot := 10, constantValue := 0 }, { name := "NON_SPACING_MARK", type := .byte, accessFlags := 25, slot := 11, constantValue := 0 }, { name := "ENCLOSING_MARK", type := .byte, accessFlags := 25, slot := 12, constantValue := 0 }, { name := "COMBINING_SPACING_MARK", type := .byte, accessFlags := 25, slot := 13, constantValue := 0 }, { name := "DECIMAL_DIGIT_NUMBER", type := .byte, accessFlags := 25, slot := 14, constantValue := 0 }, { name := "LETTER_NUMBER", type := .byte, accessFlags := 25, slot := 15, constantValue := 0 }, { name := "OTHER_NUMBER", type := .byte, accessFlags := 25, slot := 16, constantValue := 0 }, { name := "SPACE_SEPARATOR", type := .byte, accessFlags := 25, slot := 17, constantValue := 0 }, { name := "LINE_SEPARATOR", type := .byte, accessFlags := 25, slot := 18, constantValue := 0 }, { name := "PARAGRAPH_SEPARATOR", type := .byte, accessFlags := 25, slot := 19, constantValue := 0 }, { name := "CONTROL", type := .byte, accessFlags := 25, slot := 20, constantValue := 0 }, { name := "FORMAT", type := .byte, accessFlags := 25, slot := 21, constantValue := 0 }, { name := "PRIVATE_USE", type := .byte, accessFlags := 25, slot := 22, constantValue := 0 }, { name := "SURROGATE", type := .byte, accessFlags := 25, slot := 23, constantValue := 0 }, { name := "DASH_PUNCTUATION", type := .byte, accessFlags := 25, slot := 24, constantValue := 0 }, { name := "START_PUNCTUATION", type := .byte, accessFlags := 25, slot := 25, constantValue := 0 }, { name := "END_PUNCTUATION", type := .byte, accessFlags := 25, slot := 26, constantValue := 0 }, { name := "CONNECTOR_PUNCTUATION", type := .byte, accessFlags := 25, slot := 27, constantValue := 0 }, { name := "OTHER_PUNCTUATION", type := .byte, accessFlags := 25, slot := 28, constantValue := 0 }, { name := "MATH_SYMBOL", type := .byte, accessFlags := 25, slot := 29, constantValue := 0 }, { name := "CURRENCY_SYMBOL", type := .byte, accessFlags := 25, slot := 30, constantValue := 0 }, { name := "MODIFIER_SYMBOL", type := .byte, accessFlags := 25, slot := 31, constantValue := 0 }, { name := "OTHER_SYMBOL", type := .byte, accessFlags := 25, slot := 32, constantValue := 0 }, { name := "INITIAL_QUOTE_PUNCTUATION", type := .byte, accessFlags := 25, slot := 33, constantValue := 0 }, { name := "FINAL_QUOTE_PUNCTUATION", type := .byte, accessFlags := 25, slot := 34, constantValue := 0 }, { name := "ERROR", type := .int, accessFlags := 24, slot := 35, constantValue := 0 }, { name := "DIRECTIONALITY_UNDEFINED", type := .byte, accessFlags := 25, slot := 36, constantValue := 0 }, { name := "DIRECTIONALITY_LEFT_TO_RIGHT", type := .byte, accessFlags := 25, slot := 37, constantValue := 0 }, { name := "DIRECTIONALITY_RIGHT_TO_LEFT", type := .byte, accessFlags := 25, slot := 38, constantValue := 0 }, { name := "DIRECTIONALITY_RIGHT_TO_LEFT_ARABIC", type := .byte, accessFlags := 25, slot := 39, constantValue := 0 }, { name := "DIRECTIONALITY_EUROPEAN_NUMBER", type := .byte, accessFlags := 25, slot := 40, constantValue := 0 }, { name := "DIRECTIONALITY_EUROPEAN_NUMBER_SEPARATOR", type := .byte, accessFlags := 25, slot := 41, constantValue := 0 }, { name := "DIRECTIONALITY_EUROPEAN_NUMBER_TERMINATOR", type := .byte, accessFlags := 25, slot := 42, constantValue := 0 }, { name := "DIRECTIONALITY_ARABIC_NUMBER", type := .byte, accessFlags := 25, slot := 43, constantValue := 0 }, { name := "DIRECTIONALITY_COMMON_NUMBER_SEPARATOR", type := .byte, accessFlags := 25, slot := 44, constantValue := 0 }, { name := "DIRECTIONALITY_NONSPACING_MARK", type := .byte, accessFlags := 25, slot := 45, constantValue := 0 }, { name := "DIRECTIONALITY_BOUNDARY_NEUTRAL", type := .byte, accessFlags := 25, slot := 46, constantValue := 0 }, { name := "DIRECTIONALITY_PARAGRAPH_SEPARATOR", type := .byte, accessFlags := 25, slot := 47, constantValue := 0 }, { name := "DIRECTIONALITY_SEGMENT_SEPARATOR", type := .byte, accessFlags := 25, slot := 48, constantValue := 0 }, { name := "DIRECTIONALITY_WHITESPACE", type := .byte, accessFlags := 25, slot := 49, constantValue := 0 }, { name := "DIRECTIONALITY_OTHER_NEUTRALS", type := .byte, accessFlags := 25, slot := 50, constantValue := 0 }, { name := "DIRECTIONALITY_LEFT_TO_RIGHT_EMBEDDING", type := .byte, accessFlags := 25, slot := 51, constantValue := 0 }, { name := "DIRECTIONALITY_LEFT_TO_RIGHT_OVERRIDE", type := .byte, accessFlags := 25, slot := 52, constantValue := 0 }, { name := "DIRECTIONALITY_RIGHT_TO_LEFT_EMBEDDING", type := .byte, accessFlags := 25, slot := 53, constantValue := 0 }, { name := "DIRECTIONALITY_RIGHT_TO_LEFT_OVERRIDE", type := .byte, accessFlags := 25, slot := 54, constantValue := 0 }, { name := "DIRECTIONALITY_POP_DIRECTIONAL_FORMAT", type := .byte, accessFlags := 25, slot := 55, constantValue := 0 }, { name := "DIRECTIONALITY_LEFT_TO_RIGHT_ISOLATE", type := .byte, accessFlags := 25, slot := 56, constantValue := 0 }, { name := "DIRECTIONALITY_RIGHT_TO_LEFT_ISOLATE", type := .byte, accessFlags := 25, slot := 57, constantValue := 0 }, { name := "DIRECTIONALITY_FIRST_STRONG_ISOLATE", type := .byte, accessFlags := 25, slot := 58, constantValue := 0 }, { name := "DIRECTIONALITY_POP_DIRECTIONAL_ISOLATE", type := .byte, accessFlags := 25, slot := 59, constantValue := 0 }, { name := "MIN_HIGH_SURROGATE", type := .char, accessFlags := 25, slot := 60, constantValue := 0 }, { name := "MAX_HIGH_SURROGATE", type := .char, accessFlags := 25, slot := 61, constantValue := 0 }, { name := "MIN_LOW_SURROGATE", type := .char, accessFlags := 25, slot := 62, constantValue := 0 }, { name := "MAX_LOW_SURROGATE", type := .char, accessFlags := 25, slot := 63, constantValue := 0 }, { name := "MIN_SURROGATE", type := .char, accessFlags := 25, slot := 64, constantValue := 0 }, { name := "MAX_SURROGATE", type := .char, accessFlags := 25, slot := 65, constantValue := 0 }, { name := "MIN_SUPPLEMENTARY_CODE_POINT", type := .int, accessFlags := 25, slot := 66, constantValue := 0 }, { name := "MIN_CODE_POINT", type := .int, accessFlags := 25, slot := 67, constantValue := 0 }, { name := "MAX_CODE_POINT", type := .int, accessFlags := 25, slot := 68, constantValue := 0 }, { name := "value", type := .char, accessFlags := 18, slot := 0, constantValue := 0 }, { name := "serialVersionUID", type := .long, accessFlags := 26, slot := 69, constantValue := 0 }, { name := "SIZE", type := .int, accessFlags := 25, slot := 70, constantValue := 0 }, { name := "BYTES", type := .int, accessFlags := 25, slot := 71, constantValue := 0 }, { name := "$assertionsDisabled", type := .boolean, accessFlags := 4120, slot := 72, constantValue := 0 }]
  methods := #[k15m0]
  instanceTypes := #[.char]
  staticTypes := #[.int, .int, .char, .char, (.object "java/lang/Class"), .byte, .byte, .byte, .byte, .byte, .byte, .byte, .byte, .byte, .byte, .byte, .byte, .byte, .byte, .byte, .byte, .byte, .byte, .byte, .byte, .byte, .byte, .byte, .byte, .byte, .byte, .byte, .byte, .byte, .byte, .int, .byte, .byte, .byte, .byte, .byte, .byte, .byte, .byte, .byte, .byte, .byte, .byte, .byte, .byte, .byte, .byte, .byte, .byte, .byte, .byte, .byte, .byte, .byte, .byte, .char, .char, .char, .char, .char, .char, .int, .int, .int, .long, .int, .int, .boolean]
  resolved := Array.replicate 604 none
  statics := none }

def pool16 : Array CpInfo := pool [(9, u "<init>"), (6, .class_ 18), (1, u "java/lang/Object"), (0, u "()V"), (1, .class_ 23), (1, u "jdk/internal/util/ArraysSupport"), (0, u "LOG2_ARRAY_LONG_INDEX_SCALE"), (0, u "I"), (2, u "U"), (0, u "Ljdk/internal/misc/Unsafe;"), (8, u "BIG_ENDIAN"), (0, u "Z"), (8, u "LOG2_BYTE_BIT_SIZE"), (4, u "LOG2_ARRAY_INT_INDEX_SCALE"), (54, u "JLA"), (0, u "Ljdk/internal/access/JavaLangAccess;"), (11, u "LOG2_ARRAY_BOOLEAN_INDEX_SCALE"), (9, u "LOG2_ARRAY_BYTE_INDEX_SCALE"), (5, u "LOG2_ARRAY_CHAR_INDEX_SCALE"), (5, u "LOG2_ARRAY_SHORT_INDEX_SCALE"), (18, u "LOG2_ARRAY_FLOAT_INDEX_SCALE"), (24, u "LOG2_ARRAY_DOUBLE_INDEX_SCALE"), (89, u "T_BOOLEAN"), (2, u "T_CHAR"), (1, u "T_FLOAT"), (1, u "T_DOUBLE"), (1, u "T_BYTE"), (1, u "T_SHORT"), (1, u "T_INT"), (1, u "T_LONG"), (1, u "SOFT_MAX_ARRAY_LENGTH")] 83

def k16m0 : Method := { name := "<init>", desc := "()V", sig := { parameters := [], returnType := none }, accessFlags := 2, code := none }
/-- jdk/internal/util/ArraysSupport -/
def k16 : Class := { plain "jdk/internal/util/ArraysSupport" (some 0) with
  accessFlags := 33
  interfaces := #[]
  cf := some (fileOf pool16 21 #[] #[{ accessFlags := 2, nameIndex := 9, descriptorIndex := 19, attributes := #[] }] 33 16 #[] #[{ accessFlags := 24, nameIndex := 28, descriptorIndex := 29, attributes := #[] }, { accessFlags := 26, nameIndex := 38, descriptorIndex := 39, attributes := #[] }, { accessFlags := 25, nameIndex := 121, descriptorIndex := 25, attributes := #[] }, { accessFlags := 25, nameIndex := 131, descriptorIndex := 25, attributes := #[] }, { accessFlags := 25, nameIndex := 137, descriptorIndex := 25, attributes := #[] }, { accessFlags := 25, nameIndex := 143, descriptorIndex := 25, attributes := #[] }, { accessFlags := 25, nameIndex := 53, descriptorIndex := 25, attributes := #[] }, { accessFlags := 25, nameIndex := 24, descriptorIndex := 25, attributes := #[] }, { accessFlags := 25, nameIndex := 162, descriptorIndex := 25, attributes := #[] }, { accessFlags := 25, nameIndex := 187, descriptorIndex := 25, attributes := #[] }, { accessFlags := 26, nameIndex := 48, descriptorIndex := 25, attributes := #[] }, { accessFlags := 25, nameIndex := 277, descriptorIndex := 25, attributes := #[] }, { accessFlags := 25, nameIndex := 280, descriptorIndex := 25, attributes := #[] }, { accessFlags := 25, nameIndex := 282, descriptorIndex := 25, attributes := #[] }, { accessFlags := 25, nameIndex := 284, descriptorIndex := 25, attributes := #[] }, { accessFlags := 25, nameIndex := 286, descriptorIndex := 25, attributes := #[] }, { accessFlags := 25, nameIndex := 288, descriptorIndex := 25, attributes := #[] }, { accessFlags := 25, nameIndex := 290, descriptorIndex := 25, attributes := #[] }, { accessFlags := 25, nameIndex := 292, descriptorIndex := 25, attributes := #[] }, { accessFlags := 26, nameIndex := 108, descriptorIndex := 109, attributes := #[] }, { accessFlags := 25, nameIndex := 294, descriptorIndex := 25, attributes := #[] }])
  fields := #[{ name := "U", type := (.object "jdk/internal/misc/Unsafe"), accessFlags := 24, slot := 0, constantValue := 0 }, { name := "BIG_ENDIAN", type := .boolean, accessFlags := 26, slot := 1, constantValue := 0 }, { name := "LOG2_ARRAY_BOOLEAN_INDEX_SCALE", type := .int, accessFlags := 25, slot := 2, constantValue := 0 }, { name := "LOG2_ARRAY_BYTE_INDEX_SCALE", type := .int, accessFlags := 25, slot := 3, constantValue := 0 }, { name := "LOG2_ARRAY_CHAR_INDEX_SCALE", type := .int, accessFlags := 25, slot := 4, constantValue := 0 }, { name := "LOG2_ARRAY_SHORT_INDEX_SCALE", type := .int, accessFlags := 25, slot := 5, constantValue := 0 }, { name := "LOG2_ARRAY_INT_INDEX_SCALE", type := .int, accessFlags := 25, slot := 6, constantValue := 0 }, { name := "LOG2_ARRAY_LONG_INDEX_SCALE", type := .int, accessFlags := 25, slot := 7, constantValue := 0 }, { name := "LOG2_ARRAY_FLOAT_INDEX_SCALE", type := .int, accessFlags := 25, slot := 8, constantValue := 0 }, { name := "LOG2_ARRAY_DOUBLE_INDEX_SCALE", type := .int, accessFlags := 25, slot := 9, constantValue := 0 }, { name := "LOG2_BYTE_BIT_SIZE", type := .int, accessFlags := 26, slot := 10, constantValue := 0 }, { name := "T_BOOLEAN", type := .int, accessFlags := 25, slot := 11, constantValue := 0 }, { name := "T_CHAR", type := .int, accessFlags := 25, slot := 12, constantValue := 0 }, { name := "T_FLOAT", type := .int, accessFlags := 25, slot := 13, constantValue := 0 }, { name := "T_DOUBLE", type := .int, accessFlags := 25, slot := 14, constantValue := 0 }, { name := "T_BYTE", type := .int, accessFlags := 25, slot := 15, constantValue := 0 }, { name := "T_SHORT", type := .int, accessFlags := 25, slot := 16, constantValue := 0 }, { name := "T_INT", type := .int, accessFlags := 25, slot := 17, constantValue := 0 }, { name := "T_LONG", type := .int, accessFlags := 25, slot := 18, constantValue := 0 }, { name := "JLA", type := (.object "jdk/internal/access/JavaLangAccess"), accessFlags := 26, slot := 19, constantValue := 0 }, { name := "SOFT_MAX_ARRAY_LENGTH", type := .int, accessFlags := 25, slot := 20, constantValue := 0 }]
  methods := #[k16m0]
  instanceTypes := #[]
  staticTypes := #[(.object "jdk/internal/misc/Unsafe"), .boolean, .int, .int, .int, .int, .int, .int, .int, .int, .int, .int, .int, .int, .int, .int, .int, .int, .int, (.object "jdk/internal/access/JavaLangAccess"), .int]
  resolved := Array.replicate 378 none
  statics := none }

def pool17 : Array CpInfo := pool [(1, u "java/lang/Cloneable"), (0, .class_ 1), (0, u "java/lang/Object"), (0, .class_ 3)] 3

/-- java/lang/Cloneable -/
def k17 : Class := { plain "java/lang/Cloneable" (some 0) with
  accessFlags := 1537
  interfaces := #[]
  cf := some (fileOf pool17 2 #[] #[] 1537 4 #[] #[])
  fields := #[]
  methods := #[]
  instanceTypes := #[]
  staticTypes := #[]
  resolved := Array.replicate 8 none
  statics := none }

/-- the primitive byte -/
def k18 : Class := { plain "byte" none with kind := .primitive 'B', accessFlags := 0x411 }
/-- [B -/
def k19 : Class := { plain "[B" (some 0) with kind := .array 18 .byte, interfaces := #[17, 2], accessFlags := 1041 }

/-- the primitive char -/
def k20 : Class := { plain "char" none with kind := .primitive 'C', accessFlags := 0x411 }
/-- [C -/
def k21 : Class := { plain "[C" (some 0) with kind := .array 20 .char, interfaces := #[17, 2], accessFlags := 1041 }

/-- the primitive int -/
def k22 : Class := { plain "int" none with kind := .primitive 'I', accessFlags := 0x411 }
/-- [I -/
def k23 : Class := { plain "[I" (some 0) with kind := .array 22 .int, interfaces := #[17, 2], accessFlags := 1041 }

def heap : Heap := #[{ cls := 7, slots := #[.long 0, .int 1, .null, .int 0, .null, .int 0, .int 0], vm := .statics 7 },
  { cls := 12, slots := #[.int 0, .int 8, .int 0, .int 1], vm := .statics 12 },
  { cls := 14, slots := #[.null, .null, .null], vm := .statics 14 }]
def classes : Array Class := #[k0, k1, k2, k3, k4, k5, k6, k7, k8, k9, k10, k11, k12, k13, k14, k15, k16, k17, k18, k19, k20, k21, k22, k23]
def interned : List (Array UInt16 × Addr) := []
def slotsUsed : Nat := 14
def theMethod : MethodId := ⟨1, 7⟩
def args0 : Array Value := #[.int 5, .int 1, .int 2, .int 3, .int 4]
def aboutOver (below : List Frame) : State where
  vm := { classes := classes, interned := interned.toArray }
  heap := heap
  slotsUsed := slotsUsed
  threads := #[{ frames := .invoking theMethod args0 :: below }]
def below0 : List Frame := [.native { method := ⟨0, 0⟩, args := #[] }]
def about1 : State := aboutOver below0
def p0 : Program := .bare "" "" ""
def e0 : Env := launch0.env 0 0 0
theorem w_frames : about1.frames = Frame.invoking theMethod args0 :: below0 := rfl
set_option maxRecDepth 65536 in
theorem w_args : argsFit about1.vm theMethod args0 = true := by decide +kernel
set_option maxRecDepth 65536 in
theorem w_heap : heapFits about1 = true := by decide +kernel
set_option maxRecDepth 65536 in
theorem w_runnable : about1.curStatus? = some .runnable := by decide +kernel
set_option maxRecDepth 65536 in
theorem w_alone : about1.alone = true := by decide +kernel
set_option maxRecDepth 65536 in
theorem w_named : about1.methodNamed? x = some theMethod := by decide +kernel
set_option maxRecDepth 65536 in
theorem w_hears : about1.hears theMethod below0 = true := by decide +kernel
set_option maxRecDepth 65536 in
theorem w_ripe : about1.ripe theMethod args0 below0 = true := by decide +kernel
theorem w_running : about1.status = .running := rfl
set_option maxRecDepth 65536 in
theorem w_room : about1.hasRoom e0.platform room_1 = true :=
  launch0.hasRoom_least _ room_1 (by decide +kernel) (by decide +kernel) (by decide +kernel) (by decide +kernel) (by decide +kernel) (by decide +kernel)
theorem allAtoms_all (ts : List Jvm.Cond) (a : Array Jvm.Value) (st : Jvm.State) : (allAtoms ts).before a st = ts.all (fun c => c.before a st) := by
  induction ts with
  | nil => rfl
  | cons c t ih =>
    show (Jvm.Cond.and c (allAtoms t)).before a st = _
    rw [Jvm.Cond.before_and, ih, List.all_cons]
def words1 : List Jvm.Cond := Jvm.Cond.code x code maxLocals ret :: tables_1
/-- a 'code' word, met by the world's own term for the bytes: nothing is compared byte by byte -/
theorem code_word {y : MethodName} {bytes : ByteArray} {mx : Nat} {rt : Option FieldType} {a : Array Value} {s : State} {m : MethodId} {meth : Method} {c : Code} (h1 : s.methodNamed? y = some m) (h2 : s.vm.method? m = some meth) (h3 : meth.code = some c) (h4 : c.code = bytes)
    (h5 : (c.maxLocals == mx && c.exceptionTable.isEmpty && decide (c.maxStack ≤ mostOperands) && decide (meth.sig.returnType = rt) && !meth.locks && decide (parseMethodDescriptor y.desc = some meth.sig)) = true) : (Jvm.Cond.code y bytes mx rt).before a s = true := by
  simp only [Bool.and_eq_true, beq_iff_eq, Bool.not_eq_true', decide_eq_true_eq] at h5
  obtain ⟨⟨⟨⟨⟨g1, g2⟩, g3⟩, g4⟩, g5⟩, g6⟩ := h5
  simp [Cond.before, Cond.holds, Cond.value, h1, h2, h3, h4, g1, g2, g3, g4, g5, g6]
def isCode : Jvm.Cond → Bool
  | .code _ _ _ _ => true
  | _ => false
theorem all_split {L : List Jvm.Cond} {P : Jvm.Cond → Bool} (h1 : L.all (fun c => isCode c || P c) = true) (h2 : ∀ c ∈ L.filter isCode, P c = true) : L.all P = true := by
  refine List.all_eq_true.mpr fun c hc => ?_
  have h := List.all_eq_true.mp h1 c hc
  rcases Bool.eq_false_or_eq_true (isCode c) with hi | hi
  · exact h2 c (List.mem_filter.mpr ⟨hc, hi⟩)
  · simpa [hi] using h
set_option maxRecDepth 65536 in
theorem w_c0 : (Jvm.Cond.code x code maxLocals ret).before args0 about1 = true := code_word (m := ⟨1, 7⟩) (meth := k1m7) (c := k1c7) (by decide +kernel) rfl rfl rfl (by decide +kernel)
set_option maxRecDepth 65536 in
theorem w_c1 : (Jvm.Cond.code ({ cls := "com/example/promovent/promovent/library/CodePointsComparePinLaw", name := "raw", desc := "(I)I" } : Jvm.MethodName) method_2_code (1 : Nat) (Option.some Jvm.ClassFile.FieldType.int)).before args0 about1 = true := code_word (m := ⟨1, 1⟩) (meth := k1m1) (c := k1c1) (by decide +kernel) rfl rfl rfl (by decide +kernel)
set_option maxRecDepth 65536 in
theorem w_c2 : (Jvm.Cond.code ({ cls := "com/example/promovent/promovent/library/CodePointsComparePinLaw", name := "toCp", desc := "(I)I" } : Jvm.MethodName) method_3_code (1 : Nat) (Option.some Jvm.ClassFile.FieldType.int)).before args0 about1 = true := code_word (m := ⟨1, 2⟩) (meth := k1m2) (c := k1c2) (by decide +kernel) rfl rfl rfl (by decide +kernel)
set_option maxRecDepth 65536 in
theorem w_c3 : (Jvm.Cond.code ({ cls := "com/example/promovent/promovent/library/CodePointsComparePinLaw", name := "encode", desc := "(III)Ljava/lang/String;" } : Jvm.MethodName) method_6_code (5 : Nat) (Option.some (Jvm.ClassFile.FieldType.object "java/lang/String"))).before args0 about1 = true := code_word (m := ⟨1, 5⟩) (meth := k1m5) (c := k1c5) (by decide +kernel) rfl rfl rfl (by decide +kernel)
set_option maxRecDepth 65536 in
theorem w_c4 : (Jvm.Cond.code ({ cls := "com/example/promovent/promovent/library/CodePointsComparePinLaw", name := "make", desc := "([CI)Ljava/lang/String;" } : Jvm.MethodName) method_5_code (2 : Nat) (Option.some (Jvm.ClassFile.FieldType.object "java/lang/String"))).before args0 about1 = true := code_word (m := ⟨1, 4⟩) (meth := k1m4) (c := k1c4) (by decide +kernel) rfl rfl rfl (by decide +kernel)
set_option maxRecDepth 65536 in
theorem w_c5 : (Jvm.Cond.code ({ cls := "java/lang/String", name := "<init>", desc := "([C)V" } : Jvm.MethodName) jdk_42_method_3_code (2 : Nat) (Option.none : Option Jvm.ClassFile.FieldType)).before args0 about1 = true := code_word (m := ⟨7, 1⟩) (meth := k7m1) (c := k7c1) (by decide +kernel) rfl rfl rfl (by decide +kernel)
set_option maxRecDepth 65536 in
theorem w_c6 : (Jvm.Cond.code ({ cls := "java/lang/String", name := "<init>", desc := "([CIILjava/lang/Void;)V" } : Jvm.MethodName) jdk_42_method_149_code (6 : Nat) (Option.none : Option Jvm.ClassFile.FieldType)).before args0 about1 = true := code_word (m := ⟨7, 4⟩) (meth := k7m4) (c := k7c4) (by decide +kernel) rfl rfl rfl (by decide +kernel)
set_option maxRecDepth 65536 in
theorem w_c7 : (Jvm.Cond.code ({ cls := "java/lang/Object", name := "<init>", desc := "()V" } : Jvm.MethodName) object_method_1_code (1 : Nat) (Option.none : Option Jvm.ClassFile.FieldType)).before args0 about1 = true := code_word (m := ⟨0, 0⟩) (meth := k0m0) (c := k0c0) (by decide +kernel) rfl rfl rfl (by decide +kernel)
set_option maxRecDepth 65536 in
theorem w_c8 : (Jvm.Cond.code ({ cls := "com/example/promovent/promovent/library/CodePoints", name := "compare", desc := "(Ljava/lang/String;Ljava/lang/String;)I" } : Jvm.MethodName) prog_27_method_2_code (6 : Nat) (Option.some Jvm.ClassFile.FieldType.int)).before args0 about1 = true := code_word (m := ⟨8, 1⟩) (meth := k8m1) (c := k8c1) (by decide +kernel) rfl rfl rfl (by decide +kernel)
set_option maxRecDepth 65536 in
theorem w_c9 : (Jvm.Cond.code ({ cls := "java/lang/String", name := "length", desc := "()I" } : Jvm.MethodName) jdk_42_method_54_code (1 : Nat) (Option.some Jvm.ClassFile.FieldType.int)).before args0 about1 = true := code_word (m := ⟨7, 2⟩) (meth := k7m2) (c := k7c2) (by decide +kernel) rfl rfl rfl (by decide +kernel)
set_option maxRecDepth 65536 in
theorem w_c10 : (Jvm.Cond.code ({ cls := "java/lang/String", name := "coder", desc := "()B" } : Jvm.MethodName) jdk_42_method_152_code (1 : Nat) (Option.some Jvm.ClassFile.FieldType.byte)).before args0 about1 = true := code_word (m := ⟨7, 5⟩) (meth := k7m5) (c := k7c5) (by decide +kernel) rfl rfl rfl (by decide +kernel)
set_option maxRecDepth 65536 in
theorem w_c11 : (Jvm.Cond.code ({ cls := "java/lang/Math", name := "min", desc := "(II)I" } : Jvm.MethodName) jdk_29_method_69_code (2 : Nat) (Option.some Jvm.ClassFile.FieldType.int)).before args0 about1 = true := code_word (m := ⟨9, 1⟩) (meth := k9m1) (c := k9c1) (by decide +kernel) rfl rfl rfl (by decide +kernel)
set_option maxRecDepth 65536 in
theorem w_c12 : (Jvm.Cond.code ({ cls := "java/lang/Integer", name := "compare", desc := "(II)I" } : Jvm.MethodName) jdk_33_method_40_code (2 : Nat) (Option.some Jvm.ClassFile.FieldType.int)).before args0 about1 = true := code_word (m := ⟨11, 0⟩) (meth := k11m0) (c := k11c0) (by decide +kernel) rfl rfl rfl (by decide +kernel)
set_option maxRecDepth 65536 in
theorem w_c13 : (Jvm.Cond.code ({ cls := "com/example/promovent/promovent/library/CodePointsComparePinLaw", name := "sign", desc := "(I)I" } : Jvm.MethodName) method_7_code (1 : Nat) (Option.some Jvm.ClassFile.FieldType.int)).before args0 about1 = true := code_word (m := ⟨1, 6⟩) (meth := k1m6) (c := k1c6) (by decide +kernel) rfl rfl rfl (by decide +kernel)
set_option maxRecDepth 65536 in
theorem w_c14 : (Jvm.Cond.code ({ cls := "com/example/promovent/promovent/library/CodePointsComparePinLaw", name := "put", desc := "([CII)I" } : Jvm.MethodName) method_4_code (4 : Nat) (Option.some Jvm.ClassFile.FieldType.int)).before args0 about1 = true := code_word (m := ⟨1, 3⟩) (meth := k1m3) (c := k1c3) (by decide +kernel) rfl rfl rfl (by decide +kernel)
set_option maxRecDepth 65536 in
theorem w_c15 : (Jvm.Cond.code ({ cls := "java/lang/StringUTF16", name := "compress", desc := "([CII)[B" } : Jvm.MethodName) jdk_52_method_16_code (6 : Nat) (Option.some (Jvm.ClassFile.FieldType.array Jvm.ClassFile.FieldType.byte))).before args0 about1 = true := code_word (m := ⟨12, 8⟩) (meth := k12m8) (c := k12c8) (by decide +kernel) rfl rfl rfl (by decide +kernel)
set_option maxRecDepth 65536 in
theorem w_c16 : (Jvm.Cond.code ({ cls := "java/lang/StringUTF16", name := "compress", desc := "([CI[BII)I" } : Jvm.MethodName) jdk_52_method_21_code (7 : Nat) (Option.some Jvm.ClassFile.FieldType.int)).before args0 about1 = true := code_word (m := ⟨12, 9⟩) (meth := k12m9) (c := k12c9) (by decide +kernel) rfl rfl rfl (by decide +kernel)
set_option maxRecDepth 65536 in
theorem w_c17 : (Jvm.Cond.code ({ cls := "java/lang/StringUTF16", name := "coderFromArrayLen", desc := "([BI)B" } : Jvm.MethodName) jdk_52_method_15_code (2 : Nat) (Option.some Jvm.ClassFile.FieldType.byte)).before args0 about1 = true := code_word (m := ⟨12, 7⟩) (meth := k12m7) (c := k12c7) (by decide +kernel) rfl rfl rfl (by decide +kernel)
set_option maxRecDepth 65536 in
theorem w_c18 : (Jvm.Cond.code ({ cls := "java/lang/String", name := "charAt", desc := "(I)C" } : Jvm.MethodName) jdk_42_method_56_code (2 : Nat) (Option.some Jvm.ClassFile.FieldType.char)).before args0 about1 = true := code_word (m := ⟨7, 3⟩) (meth := k7m3) (c := k7c3) (by decide +kernel) rfl rfl rfl (by decide +kernel)
set_option maxRecDepth 65536 in
theorem w_c19 : (Jvm.Cond.code ({ cls := "java/lang/String", name := "isLatin1", desc := "()Z" } : Jvm.MethodName) jdk_42_method_154_code (1 : Nat) (Option.some Jvm.ClassFile.FieldType.boolean)).before args0 about1 = true := code_word (m := ⟨7, 6⟩) (meth := k7m6) (c := k7c6) (by decide +kernel) rfl rfl rfl (by decide +kernel)
set_option maxRecDepth 65536 in
theorem w_c20 : (Jvm.Cond.code ({ cls := "java/lang/StringLatin1", name := "charAt", desc := "([BI)C" } : Jvm.MethodName) jdk_43_method_2_code (2 : Nat) (Option.some Jvm.ClassFile.FieldType.char)).before args0 about1 = true := code_word (m := ⟨13, 1⟩) (meth := k13m1) (c := k13c1) (by decide +kernel) rfl rfl rfl (by decide +kernel)
set_option maxRecDepth 65536 in
theorem w_c21 : (Jvm.Cond.code ({ cls := "java/lang/String", name := "checkIndex", desc := "(II)V" } : Jvm.MethodName) jdk_42_method_155_code (2 : Nat) (Option.none : Option Jvm.ClassFile.FieldType)).before args0 about1 = true := code_word (m := ⟨7, 7⟩) (meth := k7m7) (c := k7c7) (by decide +kernel) rfl rfl rfl (by decide +kernel)
set_option maxRecDepth 65536 in
theorem w_c22 : (Jvm.Cond.code ({ cls := "jdk/internal/util/Preconditions", name := "checkIndex", desc := "(IILjava/util/function/BiFunction;)I" } : Jvm.MethodName) jdk_41_method_11_code (3 : Nat) (Option.some Jvm.ClassFile.FieldType.int)).before args0 about1 = true := code_word (m := ⟨14, 1⟩) (meth := k14m1) (c := k14c1) (by decide +kernel) rfl rfl rfl (by decide +kernel)
set_option maxRecDepth 65536 in
theorem w_c23 : (Jvm.Cond.code ({ cls := "com/example/promovent/promovent/library/CodePoints", name := "rank", desc := "(C)I" } : Jvm.MethodName) prog_27_method_3_code (1 : Nat) (Option.some Jvm.ClassFile.FieldType.int)).before args0 about1 = true := code_word (m := ⟨8, 2⟩) (meth := k8m2) (c := k8c2) (by decide +kernel) rfl rfl rfl (by decide +kernel)
set_option maxRecDepth 65536 in
theorem w_c24 : (Jvm.Cond.code ({ cls := "java/lang/Character", name := "isSurrogate", desc := "(C)Z" } : Jvm.MethodName) jdk_89_method_16_code (1 : Nat) (Option.some Jvm.ClassFile.FieldType.boolean)).before args0 about1 = true := code_word (m := ⟨15, 0⟩) (meth := k15m0) (c := k15c0) (by decide +kernel) rfl rfl rfl (by decide +kernel)
set_option maxRecDepth 65536 in
theorem w_c25 : (Jvm.Cond.code ({ cls := "java/lang/StringUTF16", name := "toBytes", desc := "([CII)[B" } : Jvm.MethodName) jdk_52_method_14_code (5 : Nat) (Option.some (Jvm.ClassFile.FieldType.array Jvm.ClassFile.FieldType.byte))).before args0 about1 = true := code_word (m := ⟨12, 6⟩) (meth := k12m6) (c := k12c6) (by decide +kernel) rfl rfl rfl (by decide +kernel)
set_option maxRecDepth 65536 in
theorem w_c26 : (Jvm.Cond.code ({ cls := "java/lang/StringUTF16", name := "newBytesFor", desc := "(I)[B" } : Jvm.MethodName) jdk_52_method_2_code (1 : Nat) (Option.some (Jvm.ClassFile.FieldType.array Jvm.ClassFile.FieldType.byte))).before args0 about1 = true := code_word (m := ⟨12, 1⟩) (meth := k12m1) (c := k12c1) (by decide +kernel) rfl rfl rfl (by decide +kernel)
set_option maxRecDepth 65536 in
theorem w_c27 : (Jvm.Cond.code ({ cls := "java/lang/StringUTF16", name := "newBytesLength", desc := "(I)I" } : Jvm.MethodName) jdk_52_method_3_code (1 : Nat) (Option.some Jvm.ClassFile.FieldType.int)).before args0 about1 = true := code_word (m := ⟨12, 2⟩) (meth := k12m2) (c := k12c2) (by decide +kernel) rfl rfl rfl (by decide +kernel)
set_option maxRecDepth 65536 in
theorem w_c28 : (Jvm.Cond.code ({ cls := "java/lang/StringUTF16", name := "putChar", desc := "([BII)V" } : Jvm.MethodName) jdk_52_method_4_code (3 : Nat) (Option.none : Option Jvm.ClassFile.FieldType)).before args0 about1 = true := code_word (m := ⟨12, 3⟩) (meth := k12m3) (c := k12c3) (by decide +kernel) rfl rfl rfl (by decide +kernel)
set_option maxRecDepth 65536 in
theorem w_c29 : (Jvm.Cond.code ({ cls := "java/lang/StringUTF16", name := "getChar", desc := "([BI)C" } : Jvm.MethodName) jdk_52_method_5_code (2 : Nat) (Option.some Jvm.ClassFile.FieldType.char)).before args0 about1 = true := code_word (m := ⟨12, 4⟩) (meth := k12m4) (c := k12c4) (by decide +kernel) rfl rfl rfl (by decide +kernel)
set_option maxRecDepth 65536 in
theorem w_c30 : (Jvm.Cond.code ({ cls := "java/lang/StringUTF16", name := "charAt", desc := "([BI)C" } : Jvm.MethodName) jdk_52_method_83_code (2 : Nat) (Option.some Jvm.ClassFile.FieldType.char)).before args0 about1 = true := code_word (m := ⟨12, 10⟩) (meth := k12m10) (c := k12c10) (by decide +kernel) rfl rfl rfl (by decide +kernel)
set_option maxRecDepth 65536 in
theorem w_c31 : (Jvm.Cond.code ({ cls := "java/lang/StringUTF16", name := "checkIndex", desc := "(I[B)V" } : Jvm.MethodName) jdk_52_method_91_code (2 : Nat) (Option.none : Option Jvm.ClassFile.FieldType)).before args0 about1 = true := code_word (m := ⟨12, 11⟩) (meth := k12m11) (c := k12c11) (by decide +kernel) rfl rfl rfl (by decide +kernel)
set_option maxRecDepth 65536 in
theorem w_c32 : (Jvm.Cond.code ({ cls := "java/lang/StringUTF16", name := "length", desc := "([B)I" } : Jvm.MethodName) jdk_52_method_6_code (1 : Nat) (Option.some Jvm.ClassFile.FieldType.int)).before args0 about1 = true := code_word (m := ⟨12, 5⟩) (meth := k12m5) (c := k12c5) (by decide +kernel) rfl rfl rfl (by decide +kernel)
def codes1 : List Jvm.Cond := [Jvm.Cond.code x code maxLocals ret, Jvm.Cond.code ({ cls := "com/example/promovent/promovent/library/CodePointsComparePinLaw", name := "raw", desc := "(I)I" } : Jvm.MethodName) method_2_code (1 : Nat) (Option.some Jvm.ClassFile.FieldType.int), Jvm.Cond.code ({ cls := "com/example/promovent/promovent/library/CodePointsComparePinLaw", name := "toCp", desc := "(I)I" } : Jvm.MethodName) method_3_code (1 : Nat) (Option.some Jvm.ClassFile.FieldType.int), Jvm.Cond.code ({ cls := "com/example/promovent/promovent/library/CodePointsComparePinLaw", name := "encode", desc := "(III)Ljava/lang/String;" } : Jvm.MethodName) method_6_code (5 : Nat) (Option.some (Jvm.ClassFile.FieldType.object "java/lang/String")), Jvm.Cond.code ({ cls := "com/example/promovent/promovent/library/CodePointsComparePinLaw", name := "make", desc := "([CI)Ljava/lang/String;" } : Jvm.MethodName) method_5_code (2 : Nat) (Option.some (Jvm.ClassFile.FieldType.object "java/lang/String")), Jvm.Cond.code ({ cls := "java/lang/String", name := "<init>", desc := "([C)V" } : Jvm.MethodName) jdk_42_method_3_code (2 : Nat) (Option.none : Option Jvm.ClassFile.FieldType), Jvm.Cond.code ({ cls := "java/lang/String", name := "<init>", desc := "([CIILjava/lang/Void;)V" } : Jvm.MethodName) jdk_42_method_149_code (6 : Nat) (Option.none : Option Jvm.ClassFile.FieldType), Jvm.Cond.code ({ cls := "java/lang/Object", name := "<init>", desc := "()V" } : Jvm.MethodName) object_method_1_code (1 : Nat) (Option.none : Option Jvm.ClassFile.FieldType), Jvm.Cond.code ({ cls := "com/example/promovent/promovent/library/CodePoints", name := "compare", desc := "(Ljava/lang/String;Ljava/lang/String;)I" } : Jvm.MethodName) prog_27_method_2_code (6 : Nat) (Option.some Jvm.ClassFile.FieldType.int), Jvm.Cond.code ({ cls := "java/lang/String", name := "length", desc := "()I" } : Jvm.MethodName) jdk_42_method_54_code (1 : Nat) (Option.some Jvm.ClassFile.FieldType.int), Jvm.Cond.code ({ cls := "java/lang/String", name := "coder", desc := "()B" } : Jvm.MethodName) jdk_42_method_152_code (1 : Nat) (Option.some Jvm.ClassFile.FieldType.byte), Jvm.Cond.code ({ cls := "java/lang/Math", name := "min", desc := "(II)I" } : Jvm.MethodName) jdk_29_method_69_code (2 : Nat) (Option.some Jvm.ClassFile.FieldType.int), Jvm.Cond.code ({ cls := "java/lang/Integer", name := "compare", desc := "(II)I" } : Jvm.MethodName) jdk_33_method_40_code (2 : Nat) (Option.some Jvm.ClassFile.FieldType.int), Jvm.Cond.code ({ cls := "com/example/promovent/promovent/library/CodePointsComparePinLaw", name := "sign", desc := "(I)I" } : Jvm.MethodName) method_7_code (1 : Nat) (Option.some Jvm.ClassFile.FieldType.int), Jvm.Cond.code ({ cls := "com/example/promovent/promovent/library/CodePointsComparePinLaw", name := "put", desc := "([CII)I" } : Jvm.MethodName) method_4_code (4 : Nat) (Option.some Jvm.ClassFile.FieldType.int), Jvm.Cond.code ({ cls := "java/lang/StringUTF16", name := "compress", desc := "([CII)[B" } : Jvm.MethodName) jdk_52_method_16_code (6 : Nat) (Option.some (Jvm.ClassFile.FieldType.array Jvm.ClassFile.FieldType.byte)), Jvm.Cond.code ({ cls := "java/lang/StringUTF16", name := "compress", desc := "([CI[BII)I" } : Jvm.MethodName) jdk_52_method_21_code (7 : Nat) (Option.some Jvm.ClassFile.FieldType.int), Jvm.Cond.code ({ cls := "java/lang/StringUTF16", name := "coderFromArrayLen", desc := "([BI)B" } : Jvm.MethodName) jdk_52_method_15_code (2 : Nat) (Option.some Jvm.ClassFile.FieldType.byte), Jvm.Cond.code ({ cls := "java/lang/String", name := "charAt", desc := "(I)C" } : Jvm.MethodName) jdk_42_method_56_code (2 : Nat) (Option.some Jvm.ClassFile.FieldType.char), Jvm.Cond.code ({ cls := "java/lang/String", name := "isLatin1", desc := "()Z" } : Jvm.MethodName) jdk_42_method_154_code (1 : Nat) (Option.some Jvm.ClassFile.FieldType.boolean), Jvm.Cond.code ({ cls := "java/lang/StringLatin1", name := "charAt", desc := "([BI)C" } : Jvm.MethodName) jdk_43_method_2_code (2 : Nat) (Option.some Jvm.ClassFile.FieldType.char), Jvm.Cond.code ({ cls := "java/lang/String", name := "checkIndex", desc := "(II)V" } : Jvm.MethodName) jdk_42_method_155_code (2 : Nat) (Option.none : Option Jvm.ClassFile.FieldType), Jvm.Cond.code ({ cls := "jdk/internal/util/Preconditions", name := "checkIndex", desc := "(IILjava/util/function/BiFunction;)I" } : Jvm.MethodName) jdk_41_method_11_code (3 : Nat) (Option.some Jvm.ClassFile.FieldType.int), Jvm.Cond.code ({ cls := "com/example/promovent/promovent/library/CodePoints", name := "rank", desc := "(C)I" } : Jvm.MethodName) prog_27_method_3_code (1 : Nat) (Option.some Jvm.ClassFile.FieldType.int), Jvm.Cond.code ({ cls := "java/lang/Character", name := "isSurrogate", desc := "(C)Z" } : Jvm.MethodName) jdk_89_method_16_code (1 : Nat) (Option.some Jvm.ClassFile.FieldType.boolean), Jvm.Cond.code ({ cls := "java/lang/StringUTF16", name := "toBytes", desc := "([CII)[B" } : Jvm.MethodName) jdk_52_method_14_code (5 : Nat) (Option.some (Jvm.ClassFile.FieldType.array Jvm.ClassFile.FieldType.byte)), Jvm.Cond.code ({ cls := "java/lang/StringUTF16", name := "newBytesFor", desc := "(I)[B" } : Jvm.MethodName) jdk_52_method_2_code (1 : Nat) (Option.some (Jvm.ClassFile.FieldType.array Jvm.ClassFile.FieldType.byte)), Jvm.Cond.code ({ cls := "java/lang/StringUTF16", name := "newBytesLength", desc := "(I)I" } : Jvm.MethodName) jdk_52_method_3_code (1 : Nat) (Option.some Jvm.ClassFile.FieldType.int), Jvm.Cond.code ({ cls := "java/lang/StringUTF16", name := "putChar", desc := "([BII)V" } : Jvm.MethodName) jdk_52_method_4_code (3 : Nat) (Option.none : Option Jvm.ClassFile.FieldType), Jvm.Cond.code ({ cls := "java/lang/StringUTF16", name := "getChar", desc := "([BI)C" } : Jvm.MethodName) jdk_52_method_5_code (2 : Nat) (Option.some Jvm.ClassFile.FieldType.char), Jvm.Cond.code ({ cls := "java/lang/StringUTF16", name := "charAt", desc := "([BI)C" } : Jvm.MethodName) jdk_52_method_83_code (2 : Nat) (Option.some Jvm.ClassFile.FieldType.char), Jvm.Cond.code ({ cls := "java/lang/StringUTF16", name := "checkIndex", desc := "(I[B)V" } : Jvm.MethodName) jdk_52_method_91_code (2 : Nat) (Option.none : Option Jvm.ClassFile.FieldType), Jvm.Cond.code ({ cls := "java/lang/StringUTF16", name := "length", desc := "([B)I" } : Jvm.MethodName) jdk_52_method_6_code (1 : Nat) (Option.some Jvm.ClassFile.FieldType.int)]
set_option maxRecDepth 65536 in
theorem codes_eq : words1.filter isCode = codes1 := rfl
theorem w_codes : ∀ c ∈ words1.filter isCode, c.before args0 about1 = true := by
  rw [codes_eq]
  intro c hc
  simp only [codes1, List.mem_cons, List.not_mem_nil, or_false] at hc
  rcases hc with rfl | rfl | rfl | rfl | rfl | rfl | rfl | rfl | rfl | rfl | rfl | rfl | rfl | rfl | rfl | rfl | rfl | rfl | rfl | rfl | rfl | rfl | rfl | rfl | rfl | rfl | rfl | rfl | rfl | rfl | rfl | rfl | rfl
  · exact w_c0
  · exact w_c1
  · exact w_c2
  · exact w_c3
  · exact w_c4
  · exact w_c5
  · exact w_c6
  · exact w_c7
  · exact w_c8
  · exact w_c9
  · exact w_c10
  · exact w_c11
  · exact w_c12
  · exact w_c13
  · exact w_c14
  · exact w_c15
  · exact w_c16
  · exact w_c17
  · exact w_c18
  · exact w_c19
  · exact w_c20
  · exact w_c21
  · exact w_c22
  · exact w_c23
  · exact w_c24
  · exact w_c25
  · exact w_c26
  · exact w_c27
  · exact w_c28
  · exact w_c29
  · exact w_c30
  · exact w_c31
  · exact w_c32
set_option maxRecDepth 65536 in
theorem w_t1 : (words1.take 24).all (fun c => isCode c || c.before args0 about1) = true := by decide +kernel
set_option maxRecDepth 65536 in
theorem w_t2 : ((words1.drop 24).take 24).all (fun c => isCode c || c.before args0 about1) = true := by decide +kernel
set_option maxRecDepth 65536 in
theorem w_t3 : (((words1.drop 24).drop 24).take 24).all (fun c => isCode c || c.before args0 about1) = true := by decide +kernel
set_option maxRecDepth 65536 in
theorem w_t4 : ((((words1.drop 24).drop 24).drop 24).take 24).all (fun c => isCode c || c.before args0 about1) = true := by decide +kernel
set_option maxRecDepth 65536 in
theorem w_t5 : (((((words1.drop 24).drop 24).drop 24).drop 24).take 24).all (fun c => isCode c || c.before args0 about1) = true := by decide +kernel
set_option maxRecDepth 65536 in
theorem w_t6 : (((((words1.drop 24).drop 24).drop 24).drop 24).drop 24).all (fun c => isCode c || c.before args0 about1) = true := by decide +kernel
theorem w_tables : (allAtoms (Jvm.Cond.code x code maxLocals ret :: tables_1)).before args0 about1 = true := by
  rw [allAtoms_all]
  show words1.all (fun c => c.before args0 about1) = true
  refine all_split ?_ w_codes
  rw [← List.take_append_drop 24 words1, List.all_append, w_t1, ← List.take_append_drop 24 (words1.drop 24), List.all_append, w_t2, ← List.take_append_drop 24 ((words1.drop 24).drop 24), List.all_append, w_t3, ← List.take_append_drop 24 (((words1.drop 24).drop 24).drop 24), List.all_append, w_t4, ← List.take_append_drop 24 ((((words1.drop 24).drop 24).drop 24).drop 24), List.all_append, w_t5, w_t6]
  rfl
set_option maxRecDepth 65536 in
theorem w_rest : rest_1_c.before args0 about1 = true := by decide +kernel
set_option maxRecDepth 65536 in
theorem w_case : (Jvm.Cond.and given_1 narrow_1).before args0 about1 = true := by decide +kernel
set_option maxRecDepth 65536 in
theorem w_consts : constsHeld consts_1 about1 := Jvm.Lit.constsHeldB_iff.mp (by decide +kernel)
theorem w_applies : (headSpec (Jvm.Cond.code x code maxLocals ret :: tables_1) room_1).applies x e0.platform about1 = true :=
  (Spec.applies_iff w_frames).mpr ⟨w_running, w_runnable, w_alone, w_named, w_hears, w_ripe, w_room, w_tables⟩
theorem atStart : AtStart classFile x code maxLocals ret World_1 tables_1 room_1 Calls_1 rest_1 Pre_1 launch0 p0 e0 about1 theMethod args0 below0 :=
  ⟨lists_1, trivial, launch0.admits_env _ _ _, launch0.least_env, fairChoices_fair.cas, fairChoices_fair.clock, w_frames, w_args, w_heap, w_applies, ⟨w_consts, trivial⟩, w_rest, w_case⟩
end start1
theorem witness_1 : WitnessClaimed_1 := ⟨start1.p0, start1.e0, start1.about1, start1.theMethod, start1.args0, start1.below0, start1.atStart⟩
end Jvm.Pilot.@@N@@
