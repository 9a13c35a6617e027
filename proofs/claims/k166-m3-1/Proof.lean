import JvmDerived
import JvmDerived.Pilot.@@N@@Statement
import JvmDerived.Pilot.@@N@@Code
set_option linter.unusedVariables false
set_option linter.unusedSimpArgs false
namespace Jvm.RoadKit
open Sem ClassFile Op Lib Jvm.Stand Jvm.Free Jvm.LawKit
section New
variable {p : Program} {l : Launch} {e : Env} {R : Room} {s : State} {m : MethodId} {args : Array Value} {below : List Frame} {meth : Method} {c : Code} {T : State} {locs : List Loc} {cells slots : Nat}
theorem retI (X : Stand p l e R s m args below meth c T locs cells slots) (hx : p.tables.exec = Jvm.exec) {pc : Nat} {Ls : Array Slot} {z : Int32} {rest : List Value} (hret : meth.sig.returnType = some .int) (hd : decode c.code pc = .ok (.ireturn, 1)) {fs : List Frame}
    (hl : ∀ (f : JFrame) (acts : List Action), f.method = m → f.locked = none → f.entered = [] → (doReturn e (T.setTop f) acts (some (.int z))).1 = T.setFrames fs) : Steps p.tables e below (T.setTop (mkF m pc Ls (.int z :: rest))) (T.setFrames fs) := by
  have hm' : T.vm.method? m = some meth := X.method'
  have hn : narrow .int (.int z) = .int z := rfl
  show Steps p.tables e below (T.setTop { method := m, pc := pc, locals := Ls, stack := _ :: rest, locked := none }) _
  jvm_step X.here [X.here.top, hx, hd, hm', hret, hn]
  first | (intro acts; rw [hl _ acts rfl rfl rfl]) | rw [hl _ _ rfl rfl rfl]
  exact Steps.refl _
end New
end Jvm.RoadKit
namespace Jvm.Pilot.@@N@@
open Jvm Jvm.ClassFile Sem Op Lib Jvm.Free Jvm.Stand Jvm.LawKit Jvm.RoadKit Bundle Jvm.Pilot.@@N@@.Jvm.D
section OwnKit
variable {p : Program} {l : Launch} {e : Env} {R : Room} {s : State} {m : MethodId} {args : Array Value} {below : List Frame} {meth : Method} {c : Code} {T W : State} {locs : List Loc} {cells slots : Nat} {Z : State} {a0 : Array Value} {h : Heap} {pc : Nat} {L : Array Slot} {S : List Value}
def Go (p : Program) (e : Env) (below : List Frame) (m : MethodId) (W T : State) (pc : Nat) (L : Array Slot) (S : List Value) : Prop := ∀ t, Steps p.tables e below (T.setTop (mkF m pc L S)) t → Steps p.tables e below W t
theorem Go.iloadN {n : Fin 4} {v : Int32} (k : Go p e below m W T pc L S) (X : Stand p l e R s m args below meth c T locs cells slots) (hx : p.tables.exec = Jvm.exec) (hd : decode c.code pc = .ok (.iload_n n, 1)) (hl : L[n.val]? = some (.val (.int v))) : Go p e below m W T (pc + 1) L (.int v :: S) := fun t kt => k t (Jvm.Free.XS.iloadN X.here hx rfl hd hl kt)
theorem Go.iload {n : Nat} {v : Int32} (k : Go p e below m W T pc L S) (X : Stand p l e R s m args below meth c T locs cells slots) (hx : p.tables.exec = Jvm.exec) (hd : decode c.code pc = .ok (.iload n, 2)) (hl : L[n]? = some (.val (.int v))) : Go p e below m W T (pc + 2) L (.int v :: S) := fun t kt => k t (Jvm.Free.XS.iload X.here hx rfl hd hl kt)
theorem Go.lloadN {n : Fin 4} {v : Int64} (k : Go p e below m W T pc L S) (X : Stand p l e R s m args below meth c T locs cells slots) (hx : p.tables.exec = Jvm.exec) (hd : decode c.code pc = .ok (.lload_n n, 1)) (hl : L[n.val]? = some (.val (.long v))) : Go p e below m W T (pc + 1) L (.long v :: S) := fun t kt => k t (Jvm.Free.XT.lloadN X.here hx rfl hd hl kt)
theorem Go.lload {n : Nat} {v : Int64} (k : Go p e below m W T pc L S) (X : Stand p l e R s m args below meth c T locs cells slots) (hx : p.tables.exec = Jvm.exec) (hd : decode c.code pc = .ok (.lload n, 2)) (hl : L[n]? = some (.val (.long v))) : Go p e below m W T (pc + 2) L (.long v :: S) := fun t kt => k t (Jvm.Free.XT.lload X.here hx rfl hd hl kt)
theorem Go.aloadN {n : Fin 4} {v : Value} (k : Go p e below m W T pc L S) (X : Stand p l e R s m args below meth c T locs cells slots) (hx : p.tables.exec = Jvm.exec) (hd : decode c.code pc = .ok (.aload_n n, 1)) (hl : L[n.val]? = some (.val v)) (hv : v.isRef = true) : Go p e below m W T (pc + 1) L (v :: S) := fun t kt => k t (Jvm.Free.XS.aloadN X.here hx rfl hd hl hv kt)
theorem Go.aload {n : Nat} {v : Value} (k : Go p e below m W T pc L S) (X : Stand p l e R s m args below meth c T locs cells slots) (hx : p.tables.exec = Jvm.exec) (hd : decode c.code pc = .ok (.aload n, 2)) (hl : L[n]? = some (.val v)) (hv : v.isRef = true) : Go p e below m W T (pc + 2) L (v :: S) := fun t kt => k t (Jvm.Free.XS.aload X.here hx rfl hd hl hv kt)
theorem Go.iconst {i : Int} {v : Int32} (k : Go p e below m W T pc L S) (X : Stand p l e R s m args below meth c T locs cells slots) (hx : p.tables.exec = Jvm.exec) (hd : decode c.code pc = .ok (.iconst i, 1)) (hv : Int32.ofInt i = v) : Go p e below m W T (pc + 1) L (.int v :: S) := fun t kt => k t (Jvm.Free.XT.iconstV X.here hx rfl v hd hv kt)
theorem Go.bipush {i : Int} {v : Int32} (k : Go p e below m W T pc L S) (X : Stand p l e R s m args below meth c T locs cells slots) (hx : p.tables.exec = Jvm.exec) (hd : decode c.code pc = .ok (.bipush i, 2)) (hv : (Int8.ofInt i).toInt32 = v) : Go p e below m W T (pc + 2) L (.int v :: S) := fun t kt => k t (Jvm.Free.XT.bipushV X.here hx rfl v hd hv kt)
theorem Go.sipush {i : Int} {v : Int32} (k : Go p e below m W T pc L S) (X : Stand p l e R s m args below meth c T locs cells slots) (hx : p.tables.exec = Jvm.exec) (hd : decode c.code pc = .ok (.sipush i, 3)) (hv : (Int16.ofInt i).toInt32 = v) : Go p e below m W T (pc + 3) L (.int v :: S) := fun t kt => k t (Jvm.Free.XT.sipushV X.here hx rfl v hd hv kt)
theorem Go.lconst {i : Fin 2} {v : Int64} (k : Go p e below m W T pc L S) (X : Stand p l e R s m args below meth c T locs cells slots) (hx : p.tables.exec = Jvm.exec) (hd : decode c.code pc = .ok (.lconst i, 1)) (hv : Int64.ofNat i = v) : Go p e below m W T (pc + 1) L (.long v :: S) := fun t kt => k t (Jvm.Free.XT.lconstV X.here hx rfl v hd hv kt)
theorem Go.aconstNull  (k : Go p e below m W T pc L S) (X : Stand p l e R s m args below meth c T locs cells slots) (hx : p.tables.exec = Jvm.exec) (hd : decode c.code pc = .ok (.aconst_null, 1)) : Go p e below m W T (pc + 1) L (.null :: S) := fun t kt => k t (Jvm.Free.XS.aconstNull X.here hx rfl hd kt)
theorem Go.istoreN {n : Fin 4} {x : Int32} {L' : Array Slot} (k : Go p e below m W T pc L (.int x :: S)) (X : Stand p l e R s m args below meth c T locs cells slots) (hx : p.tables.exec = Jvm.exec) (hd : decode c.code pc = .ok (.istore_n n, 1)) (hl : storeLocals L n.val (.int x) = some L') : Go p e below m W T (pc + 1) L' S := fun t kt => k t (Jvm.Free.XS.istoreN X.here hx rfl hd rfl hl kt)
theorem Go.istore {n : Nat} {x : Int32} {L' : Array Slot} (k : Go p e below m W T pc L (.int x :: S)) (X : Stand p l e R s m args below meth c T locs cells slots) (hx : p.tables.exec = Jvm.exec) (hd : decode c.code pc = .ok (.istore n, 2)) (hl : storeLocals L n (.int x) = some L') : Go p e below m W T (pc + 2) L' S := fun t kt => k t (Jvm.Free.XS.istore X.here hx rfl hd rfl hl kt)
theorem Go.lstoreN {n : Fin 4} {x : Int64} {L' : Array Slot} (k : Go p e below m W T pc L (.long x :: S)) (X : Stand p l e R s m args below meth c T locs cells slots) (hx : p.tables.exec = Jvm.exec) (hd : decode c.code pc = .ok (.lstore_n n, 1)) (hl : storeLocals L n.val (.long x) = some L') : Go p e below m W T (pc + 1) L' S := fun t kt => k t (Jvm.Free.XT.lstoreN X.here hx rfl hd rfl hl kt)
theorem Go.lstore {n : Nat} {x : Int64} {L' : Array Slot} (k : Go p e below m W T pc L (.long x :: S)) (X : Stand p l e R s m args below meth c T locs cells slots) (hx : p.tables.exec = Jvm.exec) (hd : decode c.code pc = .ok (.lstore n, 2)) (hl : storeLocals L n (.long x) = some L') : Go p e below m W T (pc + 2) L' S := fun t kt => k t (Jvm.Free.XT.lstore X.here hx rfl hd rfl hl kt)
theorem Go.astoreN {n : Fin 4} {x : Value} {L' : Array Slot} (k : Go p e below m W T pc L (x :: S)) (X : Stand p l e R s m args below meth c T locs cells slots) (hx : p.tables.exec = Jvm.exec) (hd : decode c.code pc = .ok (.astore_n n, 1)) (hv : x.isRef = true) (hl : storeLocals L n.val x = some L') : Go p e below m W T (pc + 1) L' S := fun t kt => k t (Jvm.Free.XS.astoreN X.here hx rfl hd rfl hv hl kt)
theorem Go.astore {n : Nat} {x : Value} {L' : Array Slot} (k : Go p e below m W T pc L (x :: S)) (X : Stand p l e R s m args below meth c T locs cells slots) (hx : p.tables.exec = Jvm.exec) (hd : decode c.code pc = .ok (.astore n, 2)) (hv : x.isRef = true) (hl : storeLocals L n x = some L') : Go p e below m W T (pc + 2) L' S := fun t kt => k t (Jvm.Free.XS.astore X.here hx rfl hd rfl hv hl kt)
theorem Go.iinc {n : Nat} {i : Int} {x v : Int32} {L' : Array Slot} (k : Go p e below m W T pc L S) (X : Stand p l e R s m args below meth c T locs cells slots) (hx : p.tables.exec = Jvm.exec) (hd : decode c.code pc = .ok (.iinc n i, 3)) (hv : Int32.ofInt i = v) (hl : L[n]? = some (.val (.int x))) (hl' : storeLocals L n (.int (x + v)) = some L') : Go p e below m W T (pc + 3) L' S := fun t kt => k t (Jvm.Free.XT.iincV X.here hx rfl v hd hv hl hl' kt)
theorem Go.iadd {x y : Int32} (k : Go p e below m W T pc L (.int y :: .int x :: S)) (X : Stand p l e R s m args below meth c T locs cells slots) (hx : p.tables.exec = Jvm.exec) (hd : decode c.code pc = .ok (.iadd, 1)) : Go p e below m W T (pc + 1) L (.int (x + y) :: S) := fun t kt => k t (Jvm.Free.XS.iadd X.here hx rfl hd rfl kt)
theorem Go.isub {x y : Int32} (k : Go p e below m W T pc L (.int y :: .int x :: S)) (X : Stand p l e R s m args below meth c T locs cells slots) (hx : p.tables.exec = Jvm.exec) (hd : decode c.code pc = .ok (.isub, 1)) : Go p e below m W T (pc + 1) L (.int (x - y) :: S) := fun t kt => k t (Jvm.Free.XS.isub X.here hx rfl hd rfl kt)
theorem Go.iand {x y : Int32} (k : Go p e below m W T pc L (.int y :: .int x :: S)) (X : Stand p l e R s m args below meth c T locs cells slots) (hx : p.tables.exec = Jvm.exec) (hd : decode c.code pc = .ok (.iand, 1)) : Go p e below m W T (pc + 1) L (.int (x &&& y) :: S) := fun t kt => k t (Jvm.Free.XS.iand X.here hx rfl hd rfl kt)
theorem Go.imul {x y : Int32} (k : Go p e below m W T pc L (.int y :: .int x :: S)) (X : Stand p l e R s m args below meth c T locs cells slots) (hx : p.tables.exec = Jvm.exec) (hd : decode c.code pc = .ok (.imul, 1)) : Go p e below m W T (pc + 1) L (.int (x * y) :: S) := fun t kt => k t (Jvm.Free.XS.imul X.here hx rfl hd rfl kt)
theorem Go.ixor {x y : Int32} (k : Go p e below m W T pc L (.int y :: .int x :: S)) (X : Stand p l e R s m args below meth c T locs cells slots) (hx : p.tables.exec = Jvm.exec) (hd : decode c.code pc = .ok (.ixor, 1)) : Go p e below m W T (pc + 1) L (.int (x ^^^ y) :: S) := fun t kt => k t (Jvm.Free.XT.ixor X.here hx rfl hd rfl kt)
theorem Go.ior {x y : Int32} (k : Go p e below m W T pc L (.int y :: .int x :: S)) (X : Stand p l e R s m args below meth c T locs cells slots) (hx : p.tables.exec = Jvm.exec) (hd : decode c.code pc = .ok (.ior, 1)) : Go p e below m W T (pc + 1) L (.int (x ||| y) :: S) := fun t kt => k t (Jvm.Free.XT.ior X.here hx rfl hd rfl kt)
theorem Go.ishl {x y : Int32} (k : Go p e below m W T pc L (.int y :: .int x :: S)) (X : Stand p l e R s m args below meth c T locs cells slots) (hx : p.tables.exec = Jvm.exec) (hd : decode c.code pc = .ok (.ishl, 1)) : Go p e below m W T (pc + 1) L (.int (x <<< (y &&& 31)) :: S) := fun t kt => k t (Jvm.Free.XT.ishl X.here hx rfl hd rfl kt)
theorem Go.ishr {x y : Int32} (k : Go p e below m W T pc L (.int y :: .int x :: S)) (X : Stand p l e R s m args below meth c T locs cells slots) (hx : p.tables.exec = Jvm.exec) (hd : decode c.code pc = .ok (.ishr, 1)) : Go p e below m W T (pc + 1) L (.int (x >>> (y &&& 31)) :: S) := fun t kt => k t (Jvm.Free.XT.ishr X.here hx rfl hd rfl kt)
theorem Go.iushr {x y : Int32} (k : Go p e below m W T pc L (.int y :: .int x :: S)) (X : Stand p l e R s m args below meth c T locs cells slots) (hx : p.tables.exec = Jvm.exec) (hd : decode c.code pc = .ok (.iushr, 1)) : Go p e below m W T (pc + 1) L (.int (XT.ushr x y) :: S) := fun t kt => k t (Jvm.Free.XT.iushr X.here hx rfl hd rfl kt)
theorem Go.idiv {x y : Int32} (k : Go p e below m W T pc L (.int y :: .int x :: S)) (X : Stand p l e R s m args below meth c T locs cells slots) (hx : p.tables.exec = Jvm.exec) (hd : decode c.code pc = .ok (.idiv, 1)) (hy : y ≠ 0) : Go p e below m W T (pc + 1) L (.int (x / y) :: S) := fun t kt => k t (Jvm.Free.XS.idiv X.here hx rfl hd rfl hy kt)
theorem Go.irem {x y : Int32} (k : Go p e below m W T pc L (.int y :: .int x :: S)) (X : Stand p l e R s m args below meth c T locs cells slots) (hx : p.tables.exec = Jvm.exec) (hd : decode c.code pc = .ok (.irem, 1)) (hy : y ≠ 0) : Go p e below m W T (pc + 1) L (.int (x % y) :: S) := fun t kt => k t (Jvm.RoadKit.iremM X hx rfl hd rfl hy kt)
theorem Go.ineg {x : Int32} (k : Go p e below m W T pc L (.int x :: S)) (X : Stand p l e R s m args below meth c T locs cells slots) (hx : p.tables.exec = Jvm.exec) (hd : decode c.code pc = .ok (.ineg, 1)) : Go p e below m W T (pc + 1) L (.int (-x) :: S) := fun t kt => k t (Jvm.Free.XS.ineg X.here hx rfl hd rfl kt)
theorem Go.ladd {x y : Int64} (k : Go p e below m W T pc L (.long y :: .long x :: S)) (X : Stand p l e R s m args below meth c T locs cells slots) (hx : p.tables.exec = Jvm.exec) (hd : decode c.code pc = .ok (.ladd, 1)) : Go p e below m W T (pc + 1) L (.long (x + y) :: S) := fun t kt => k t (Jvm.Free.XT.ladd X.here hx rfl hd rfl kt)
theorem Go.lsub {x y : Int64} (k : Go p e below m W T pc L (.long y :: .long x :: S)) (X : Stand p l e R s m args below meth c T locs cells slots) (hx : p.tables.exec = Jvm.exec) (hd : decode c.code pc = .ok (.lsub, 1)) : Go p e below m W T (pc + 1) L (.long (x - y) :: S) := fun t kt => k t (Jvm.Free.XT.lsub X.here hx rfl hd rfl kt)
theorem Go.lmul {x y : Int64} (k : Go p e below m W T pc L (.long y :: .long x :: S)) (X : Stand p l e R s m args below meth c T locs cells slots) (hx : p.tables.exec = Jvm.exec) (hd : decode c.code pc = .ok (.lmul, 1)) : Go p e below m W T (pc + 1) L (.long (x * y) :: S) := fun t kt => k t (Jvm.Free.XT.lmul X.here hx rfl hd rfl kt)
theorem Go.land {x y : Int64} (k : Go p e below m W T pc L (.long y :: .long x :: S)) (X : Stand p l e R s m args below meth c T locs cells slots) (hx : p.tables.exec = Jvm.exec) (hd : decode c.code pc = .ok (.land, 1)) : Go p e below m W T (pc + 1) L (.long (x &&& y) :: S) := fun t kt => k t (Jvm.Free.XT.land X.here hx rfl hd rfl kt)
theorem Go.lor {x y : Int64} (k : Go p e below m W T pc L (.long y :: .long x :: S)) (X : Stand p l e R s m args below meth c T locs cells slots) (hx : p.tables.exec = Jvm.exec) (hd : decode c.code pc = .ok (.lor, 1)) : Go p e below m W T (pc + 1) L (.long (x ||| y) :: S) := fun t kt => k t (Jvm.Free.XT.lor X.here hx rfl hd rfl kt)
theorem Go.lxor {x y : Int64} (k : Go p e below m W T pc L (.long y :: .long x :: S)) (X : Stand p l e R s m args below meth c T locs cells slots) (hx : p.tables.exec = Jvm.exec) (hd : decode c.code pc = .ok (.lxor, 1)) : Go p e below m W T (pc + 1) L (.long (x ^^^ y) :: S) := fun t kt => k t (Jvm.Free.XT.lxor X.here hx rfl hd rfl kt)
theorem Go.lshl {x : Int64} {y : Int32} (k : Go p e below m W T pc L (.int y :: .long x :: S)) (X : Stand p l e R s m args below meth c T locs cells slots) (hx : p.tables.exec = Jvm.exec) (hd : decode c.code pc = .ok (.lshl, 1)) : Go p e below m W T (pc + 1) L (.long (x <<< (y.toInt64 &&& 63)) :: S) := fun t kt => k t (Jvm.Free.XT.lshl X.here hx rfl hd rfl kt)
theorem Go.lshr {x : Int64} {y : Int32} (k : Go p e below m W T pc L (.int y :: .long x :: S)) (X : Stand p l e R s m args below meth c T locs cells slots) (hx : p.tables.exec = Jvm.exec) (hd : decode c.code pc = .ok (.lshr, 1)) : Go p e below m W T (pc + 1) L (.long (x >>> (y.toInt64 &&& 63)) :: S) := fun t kt => k t (Jvm.Free.XT.lshr X.here hx rfl hd rfl kt)
theorem Go.lushr {x : Int64} {y : Int32} (k : Go p e below m W T pc L (.int y :: .long x :: S)) (X : Stand p l e R s m args below meth c T locs cells slots) (hx : p.tables.exec = Jvm.exec) (hd : decode c.code pc = .ok (.lushr, 1)) : Go p e below m W T (pc + 1) L (.long (XT.ushrL x y) :: S) := fun t kt => k t (Jvm.Free.XT.lushr X.here hx rfl hd rfl kt)
theorem Go.i2l {x : Int32} (k : Go p e below m W T pc L (.int x :: S)) (X : Stand p l e R s m args below meth c T locs cells slots) (hx : p.tables.exec = Jvm.exec) (hd : decode c.code pc = .ok (.i2l, 1)) : Go p e below m W T (pc + 1) L (.long x.toInt64 :: S) := fun t kt => k t (Jvm.Free.XT.i2l X.here hx rfl hd rfl kt)
theorem Go.l2i {x : Int64} (k : Go p e below m W T pc L (.long x :: S)) (X : Stand p l e R s m args below meth c T locs cells slots) (hx : p.tables.exec = Jvm.exec) (hd : decode c.code pc = .ok (.l2i, 1)) : Go p e below m W T (pc + 1) L (.int x.toInt32 :: S) := fun t kt => k t (Jvm.Free.XT.l2i X.here hx rfl hd rfl kt)
theorem Go.i2b {x : Int32} (k : Go p e below m W T pc L (.int x :: S)) (X : Stand p l e R s m args below meth c T locs cells slots) (hx : p.tables.exec = Jvm.exec) (hd : decode c.code pc = .ok (.i2b, 1)) : Go p e below m W T (pc + 1) L (.int x.toInt8.toInt32 :: S) := fun t kt => k t (Jvm.Free.XT.i2b X.here hx rfl hd rfl kt)
theorem Go.i2c {x : Int32} (k : Go p e below m W T pc L (.int x :: S)) (X : Stand p l e R s m args below meth c T locs cells slots) (hx : p.tables.exec = Jvm.exec) (hd : decode c.code pc = .ok (.i2c, 1)) : Go p e below m W T (pc + 1) L (.int x.toUInt32.toUInt16.toUInt32.toInt32 :: S) := fun t kt => k t (Jvm.Free.XT.i2c X.here hx rfl hd rfl kt)
theorem Go.lcmp {x y : Int64} (k : Go p e below m W T pc L (.long y :: .long x :: S)) (X : Stand p l e R s m args below meth c T locs cells slots) (hx : p.tables.exec = Jvm.exec) (hd : decode c.code pc = .ok (.lcmp, 1)) : Go p e below m W T (pc + 1) L (.int (XT.cmpL x y) :: S) := fun t kt => k t (Jvm.Free.XT.lcmp X.here hx rfl hd rfl kt)
theorem Go.dup {x : Value} (k : Go p e below m W T pc L (x :: S)) (X : Stand p l e R s m args below meth c T locs cells slots) (hx : p.tables.exec = Jvm.exec) (hd : decode c.code pc = .ok (.dup, 1)) (h1 : x.category = 1) : Go p e below m W T (pc + 1) L (x :: x :: S) := fun t kt => k t (Jvm.Free.XS.dup X.here hx rfl hd rfl h1 kt)
theorem Go.pop {x : Value} (k : Go p e below m W T pc L (x :: S)) (X : Stand p l e R s m args below meth c T locs cells slots) (hx : p.tables.exec = Jvm.exec) (hd : decode c.code pc = .ok (.pop, 1)) (h1 : x.category = 1) : Go p e below m W T (pc + 1) L S := fun t kt => k t (Jvm.Free.XT.pop X.here hx rfl hd rfl h1 kt)
theorem Go.dupX1 {x y : Value} (k : Go p e below m W T pc L (x :: y :: S)) (X : Stand p l e R s m args below meth c T locs cells slots) (hx : p.tables.exec = Jvm.exec) (hd : decode c.code pc = .ok (.dup_x1, 1)) (h1 : x.category = 1) (h2 : y.category = 1) : Go p e below m W T (pc + 1) L (x :: y :: x :: S) := fun t kt => k t (Jvm.Free.XT.dupX1 X.here hx rfl hd rfl h1 h2 kt)
theorem Go.dup2 {x y : Value} (k : Go p e below m W T pc L (x :: y :: S)) (X : Stand p l e R s m args below meth c T locs cells slots) (hx : p.tables.exec = Jvm.exec) (hd : decode c.code pc = .ok (.dup2, 1)) (h1 : x.category = 1) (h2 : y.category = 1) : Go p e below m W T (pc + 1) L (x :: y :: x :: y :: S) := fun t kt => k t (Jvm.Free.XT.dup2 X.here hx rfl hd rfl h1 h2 kt)
theorem Go.goto {o : Int} {pc' : Nat} (k : Go p e below m W T pc L S) (X : Stand p l e R s m args below meth c T locs cells slots) (hx : p.tables.exec = Jvm.exec) (hd : decode c.code pc = .ok (.goto o, 3)) (ho : 0 ≤ (pc : Int) + o) (hp : ((pc : Int) + o).toNat = pc') : Go p e below m W T pc' L S := fun t kt => k t (Jvm.Free.XS.goto X.here hx rfl rfl hd ho hp kt)
theorem Go.ifYes {cd : ClassFile.Cond} {o : Int} {pc' : Nat} {x : Int32} (k : Go p e below m W T pc L (.int x :: S)) (X : Stand p l e R s m args below meth c T locs cells slots) (hx : p.tables.exec = Jvm.exec) (hd : decode c.code pc = .ok (.ifCond cd o, 3)) (hc : ifCond.holds cd x = true) (ho : 0 ≤ (pc : Int) + o) (hp : ((pc : Int) + o).toNat = pc') : Go p e below m W T pc' L S := fun t kt => k t (Jvm.Free.XS.ifYes X.here hx rfl rfl hd rfl hc ho hp kt)
theorem Go.ifNo {cd : ClassFile.Cond} {o : Int} {x : Int32} (k : Go p e below m W T pc L (.int x :: S)) (X : Stand p l e R s m args below meth c T locs cells slots) (hx : p.tables.exec = Jvm.exec) (hd : decode c.code pc = .ok (.ifCond cd o, 3)) (hc : ifCond.holds cd x = false) : Go p e below m W T (pc + 3) L S := fun t kt => k t (Jvm.Free.XS.ifNo X.here hx rfl hd rfl hc kt)
theorem Go.icmpYes {cd : ClassFile.Cond} {o : Int} {pc' : Nat} {x y : Int32} (k : Go p e below m W T pc L (.int y :: .int x :: S)) (X : Stand p l e R s m args below meth c T locs cells slots) (hx : p.tables.exec = Jvm.exec) (hd : decode c.code pc = .ok (.if_icmp cd o, 3)) (hc : if_icmp.holds cd x y = true) (ho : 0 ≤ (pc : Int) + o) (hp : ((pc : Int) + o).toNat = pc') : Go p e below m W T pc' L S := fun t kt => k t (Jvm.Free.XS.icmpYes X.here hx rfl rfl hd rfl hc ho hp kt)
theorem Go.icmpNo {cd : ClassFile.Cond} {o : Int} {x y : Int32} (k : Go p e below m W T pc L (.int y :: .int x :: S)) (X : Stand p l e R s m args below meth c T locs cells slots) (hx : p.tables.exec = Jvm.exec) (hd : decode c.code pc = .ok (.if_icmp cd o, 3)) (hc : if_icmp.holds cd x y = false) : Go p e below m W T (pc + 3) L S := fun t kt => k t (Jvm.Free.XS.icmpNo X.here hx rfl hd rfl hc kt)
theorem Go.nullYes {o : Int} {pc' : Nat} {v : Value} (k : Go p e below m W T pc L (v :: S)) (X : Stand p l e R s m args below meth c T locs cells slots) (hx : p.tables.exec = Jvm.exec) (hd : decode c.code pc = .ok (.ifnull o, 3)) (hv : v = .null) (ho : 0 ≤ (pc : Int) + o) (hp : ((pc : Int) + o).toNat = pc') : Go p e below m W T pc' L S := fun t kt => k t (Jvm.Free.XT.nullYes X.here hx rfl rfl hd rfl hv ho hp kt)
theorem Go.nullNo {o : Int} {v : Value} (k : Go p e below m W T pc L (v :: S)) (X : Stand p l e R s m args below meth c T locs cells slots) (hx : p.tables.exec = Jvm.exec) (hd : decode c.code pc = .ok (.ifnull o, 3)) (hr : v.isRef = true) (hv : ¬ v = .null) : Go p e below m W T (pc + 3) L S := fun t kt => k t (Jvm.Free.XT.nullNo X.here hx rfl hd rfl hr hv kt)
theorem Go.nonnullYes {o : Int} {pc' : Nat} {v : Value} (k : Go p e below m W T pc L (v :: S)) (X : Stand p l e R s m args below meth c T locs cells slots) (hx : p.tables.exec = Jvm.exec) (hd : decode c.code pc = .ok (.ifnonnull o, 3)) (hr : v.isRef = true) (hv : ¬ v = .null) (ho : 0 ≤ (pc : Int) + o) (hp : ((pc : Int) + o).toNat = pc') : Go p e below m W T pc' L S := fun t kt => k t (Jvm.Free.XT.nonnullYes X.here hx rfl rfl hd rfl hr hv ho hp kt)
theorem Go.nonnullNo {o : Int} {v : Value} (k : Go p e below m W T pc L (v :: S)) (X : Stand p l e R s m args below meth c T locs cells slots) (hx : p.tables.exec = Jvm.exec) (hd : decode c.code pc = .ok (.ifnonnull o, 3)) (hv : v = .null) : Go p e below m W T (pc + 3) L S := fun t kt => k t (Jvm.Free.XT.nonnullNo X.here hx rfl hd rfl hv kt)
theorem Go.acmpYes {cd : ClassFile.ACond} {o : Int} {pc' : Nat} {x y : Value} (k : Go p e below m W T pc L (y :: x :: S)) (X : Stand p l e R s m args below meth c T locs cells slots) (hx : p.tables.exec = Jvm.exec) (hd : decode c.code pc = .ok (.if_acmp cd o, 3)) (h1 : x.isRef = true) (h2 : y.isRef = true) (hc : XT.acmp cd x y = true) (ho : 0 ≤ (pc : Int) + o) (hp : ((pc : Int) + o).toNat = pc') : Go p e below m W T pc' L S := fun t kt => k t (Jvm.Free.XT.acmpYes X.here hx rfl rfl hd rfl h1 h2 hc ho hp kt)
theorem Go.acmpNo {cd : ClassFile.ACond} {o : Int} {x y : Value} (k : Go p e below m W T pc L (y :: x :: S)) (X : Stand p l e R s m args below meth c T locs cells slots) (hx : p.tables.exec = Jvm.exec) (hd : decode c.code pc = .ok (.if_acmp cd o, 3)) (h1 : x.isRef = true) (h2 : y.isRef = true) (hc : XT.acmp cd x y = false) : Go p e below m W T (pc + 3) L S := fun t kt => k t (Jvm.Free.XT.acmpNo X.here hx rfl hd rfl h1 h2 hc kt)
theorem Go.tsw {dflt low high : Int} {offs : Array Int} {len : Nat} {o : Int} {pc' : Nat} {i : Int32} (k : Go p e below m W T pc L (.int i :: S)) (X : Stand p l e R s m args below meth c T locs cells slots) (hx : p.tables.exec = Jvm.exec) (hd : decode c.code pc = .ok (.tableswitch dflt low high offs, len)) (hin : ¬ (i.toInt < low ∨ i.toInt > high)) (hoff : offs[(i.toInt - low).toNat]? = some o) (ho : 0 ≤ (pc : Int) + o) (hp : ((pc : Int) + o).toNat = pc') : Go p e below m W T pc' L S := fun t kt => k t (Jvm.Free.XS.tswIn X.here hx rfl rfl hd rfl hin hoff ho hp kt)
theorem Go.ldcI {own : String} {index : Nat} {v : Int32} (k : Go p e below m W T pc L S) (X : Stand p l e R s m args below meth c T locs cells slots) (hx : p.tables.exec = Jvm.exec) (hZ : Z.Warmed39 s.vm) (hown : s.vm.findClass own = some m.cls) (w : (Cond.constant own index v).before a0 Z = true) (hd : decode c.code pc = .ok (.ldc index, 2)) : Go p e below m W T (pc + 2) L (.int v :: S) := fun t kt => k t (Jvm.Stand.ldcI X hx hown (mvT hZ w) rfl hd kt)
theorem Go.ldc2J {own : String} {index : Nat} {v : Int64} (k : Go p e below m W T pc L S) (X : Stand p l e R s m args below meth c T locs cells slots) (hx : p.tables.exec = Jvm.exec) (hZ : Z.Warmed39 s.vm) (hown : s.vm.findClass own = some m.cls) (w : (Cond.constantLong own index v).before a0 Z = true) (hd : decode c.code pc = .ok (.ldc2_w index, 3)) : Go p e below m W T (pc + 3) L (.long v :: S) := fun t kt => k t (Jvm.Stand.ldc2J X hx hown (mvT hZ w) rfl hd kt)
theorem Go.getF {own R0 O n d host : String} {index : Nat} {a : Addr} {v : Value} (k : Go p e below m W T pc L (.ref a :: S)) (X : Stand p l e R s m args below meth c T locs cells slots) (hx : p.tables.exec = Jvm.exec) (hZ : Z.Warmed39 s.vm) (hown : s.vm.findClass own = some m.cls) (w : (Cond.fieldLink own index R0 n d).before a0 Z = true ∨ (Cond.fieldLinkNest own index R0 n d host).before a0 Z = true) (via : Via Z R0 O n d) (eT : T.heap = h) (F : Fld Z h a O n d v) (hd : decode c.code pc = .ok (.getfield index, 3)) :
    ∃ T', Stand p l e R s m args below meth c T' locs cells slots ∧ T'.heap = h ∧ Go p e below m W T' (pc + 3) L (v :: S) := by
  obtain ⟨T', X', e', st⟩ := Jvm.RoadKit.getF X hx hZ hown w via eT F (g := mkF m pc L (.ref a :: S)) rfl rfl hd
  exact ⟨T', X', e', fun t kt => k t (st t kt)⟩
theorem Go.getS {own R0 O n d host : String} {index : Nat} {v : Value} (k : Go p e below m W T pc L S) (X : Stand p l e R s m args below meth c T locs cells slots) (hx : p.tables.exec = Jvm.exec) (hZ : Z.Warmed39 s.vm) (hown : s.vm.findClass own = some m.cls) (w : (Cond.fieldLink own index R0 n d).before a0 Z = true ∨ (Cond.fieldLinkNest own index R0 n d host).before a0 Z = true) (via : Via Z R0 O n d) (eT : T.heap = h) (F : Sta Z h O n d v) (hd : decode c.code pc = .ok (.getstatic index, 3)) :
    ∃ T', Stand p l e R s m args below meth c T' locs cells slots ∧ T'.heap = h ∧ Go p e below m W T' (pc + 3) L (v :: S) := by
  obtain ⟨T', X', e', st⟩ := Jvm.RoadKit.getS2 X hx hZ hown w via eT F (g := mkF m pc L S) rfl hd
  exact ⟨T', X', e', fun t kt => k t (st t kt)⟩
theorem Go.putF {own R0 O n d host C : String} {index kk : Nat} {ty : FieldType} {a : Addr} {v old : Value} (k : Go p e below m W T pc L (v :: .ref a :: S)) (X : Stand p l e R s m args below meth c T locs cells slots) (hx : p.tables.exec = Jvm.exec) (hZ : Z.Warmed39 s.vm) (hown : s.vm.findClass own = some m.cls) (w : (Cond.fieldLink own index R0 n d).before a0 Z = true ∨ (Cond.fieldLinkNest own index R0 n d host).before a0 Z = true) (via : Via Z R0 O n d) (eT : T.heap = h) (F : Fld Z h a O n d old) (E : Exa Z h a C)
    (Ly : (Cond.lays C O n d).before a0 Z = true ∨ ((Cond.laysFinal C O n d).before a0 Z = true ∧ own = O ∧ meth.name = "<init>")) (wi : (Cond.instantiable C kk).before a0 Z = true) (hty : parseFieldDescriptor d = some ty) (hn : narrow ty v = v) (hf : fits ty v = true) {n0 : Nat} (N : Fr n0 locs) (g0 : n0 ≤ a) (hd : decode c.code pc = .ok (.putfield index, 3)) :
    ∃ T' h' locs', Stand p l e R s m args below meth c T' locs' cells slots ∧ T'.heap = h' ∧ Wr h h' a (Jvm.RoadKit.slotOf Z O n d) v ∧ Fr n0 locs' ∧ Go p e below m W T' (pc + 3) L S := by
  obtain ⟨T', h', X', e', W', st⟩ := Jvm.RoadKit.putF X hx hZ hown w via eT F E Ly wi hty hn hf (g := mkF m pc L (v :: .ref a :: S)) rfl rfl hd
  exact ⟨T', h', _, X', e', W', Fr.snoc X' N g0, fun t kt => k t (st t kt)⟩
theorem Go.newO {own C : String} {index n cells' slots' : Nat} (k : Go p e below m W T pc L S) (X : Stand p l e R s m args below meth c T locs cells slots) (hx : p.tables.exec = Jvm.exec) (hZ : Z.Warmed39 s.vm) (hown : s.vm.findClass own = some m.cls) (w : (Cond.classLink own index C).before a0 Z = true) (wi : (Cond.instantiable C n).before a0 Z = true) (wz : (Cond.initialized C).before a0 Z = true) (eT : T.heap = h) (hd : decode c.code pc = .ok (.new index, 3)) (h1 : cells + 1 = cells') (h2 : slots + n = slots') (h3 : cells' ≤ R.cells) (h4 : slots' ≤ R.slots) :
    ∃ T' h' b, Stand p l e R s m args below meth c T' locs cells' slots' ∧ T'.heap = h' ∧ b = h.size ∧ Ext h h' ∧ Exa Z h' b C ∧ (∀ {O nm d : String} {ty : FieldType}, Laid Z a0 C O nm d → parseFieldDescriptor d = some ty → Fld Z h' b O nm d (defaultValue ty)) ∧ Go p e below m W T' (pc + 3) L (.ref b :: S) := by
  subst h1 h2
  obtain ⟨T', h', X', e', E', A', D', -, st⟩ := Jvm.RoadKit.newO X hx hZ hown w wi wz eT (g := mkF m pc L S) rfl hd h3 h4
  exact ⟨T', h', _, X', e', rfl, E', A', D', fun t kt => k t (st t kt)⟩
theorem Go.initO {own : String} {idx Wd : Nat} {a : Addr} (k : Go p e below m W T pc L (.ref a :: S)) (X : Stand p l e R s m args below meth c T locs cells slots) (hx : p.tables.exec = Jvm.exec) (hZ : Z.Warmed39 s.vm) (hown : s.vm.findClass own = some m.cls) (hsz : L.size = c.maxLocals) (w1 : (Cond.methodLink own idx Lib.objectInit).before a0 Z = true) (w2 : (Cond.instanceMethod Lib.objectInit).before a0 Z = true)
    (w3 : (Cond.code Lib.objectInit ⟨#[0xb1]⟩ 1 none).before a0 Z = true) (eT : T.heap = h) (hd : decode c.code pc = .ok (.invokespecial idx, 3)) (hW : (S.map fun v => v.category).sum ≤ Wd) (hf : 1 ≤ R.frames) (hl : Wd + 12 ≤ R.locals) :
    ∃ T', Stand p l e R s m args below meth c T' locs cells slots ∧ T'.heap = h ∧ Go p e below m W T' (pc + 3) L S := by
  obtain ⟨T', X', e', st⟩ := Jvm.RoadKit.initO X hx hZ hown w1 w2 w3 eT (g := mkF m pc L (.ref a :: S)) rfl hsz rfl hd hf (W := Wd) (by show 2 * 0 + _ ≤ _; rw [Nat.mul_zero, Nat.zero_add]; exact hW) hl
  exact ⟨T', X', e', fun t kt => k t (st t kt)⟩
theorem Go.virtB {own C : String} {index : Nat} {y z : MethodName} {Wd cells' slots' : Nat} {b : Addr} {argsL rest : List Value} {Q : Option Value → Heap → List Loc → Prop} {as' : Array Value} {ps : List FieldType} {r : Option FieldType} {rc rs : Nat}
    (k : Go p e below m W T pc L S) (X : Stand p l e R s m args below meth c T locs cells slots) (hx : p.tables.exec = Jvm.exec) (hZ : Z.Warmed39 s.vm) (hown : s.vm.findClass own = some m.cls) (hsz : L.size = c.maxLocals)
    (w1 : (Cond.methodLink own index y).before a0 Z = true) (w2 : (Cond.declares y).before a0 Z = true) (hnf : NotFace s y) (w3 : (Cond.selects C y z).before a0 Z = true) (w4 : (Cond.instanceMethod z).before a0 Z = true) (hd : decode c.code pc = .ok (.invokevirtual index, 3)) (hy : y.cls ≠ "java/lang/invoke/MethodHandle" ∧ y.cls ≠ "java/lang/invoke/VarHandle")
    (hK : Back l R p e below s args z 3 Wd (fun A a => a = as' ∧ A.U.heap = h ∧ A.cells + rc ≤ R.cells ∧ A.slots + rs ≤ R.slots) (fun A _ v B => ∃ L, Q v B.U.heap L ∧ B.locs = A.locs ++ L ∧ B.cells = A.cells + rc ∧ B.slots = A.slots + rs))
    (eT : T.heap = h) (E : Exa Z h b C) (hs : S = argsL.reverse ++ .ref b :: rest) (ha : (.ref b :: argsL).toArray = as') (hp : parseMethodDescriptor y.desc = some ⟨ps, r⟩) (hlen : argsL.length = ps.length) (hW : (rest.map fun v => v.category).sum ≤ Wd) (h1 : cells + rc = cells') (h2 : slots + rs = slots') (h3 : cells' ≤ R.cells) (h4 : slots' ≤ R.slots) :
    ∃ T' v L', Stand p l e R s m args below meth c T' (locs ++ L') cells' slots' ∧ Q v T'.heap L' ∧ Go p e below m W T' (pc + 3) L (v.toList ++ rest) := by
  subst hs h1 h2
  obtain ⟨cq, kq, qa, qb, qc⟩ := isOf hZ eT E
  obtain ⟨v, _, ⟨T', L', k', n'⟩, -, X', ⟨Lc, hQ, l1, y1, z1⟩, st⟩ := X.virtualBack hx (y := y) (z := z) hown (mvT hZ w1) (mvT hZ w2) hnf (mvT hZ w3) (mvT hZ w4) hy hK qa qc (g := mkF m pc L (argsL.reverse ++ .ref b :: rest)) rfl hsz (Steps.refl _) (argsL := argsL) (rest := rest) (lenOf hp hlen) rfl (by show 2 * 0 + _ ≤ _; rw [Nat.mul_zero, Nat.zero_add]; exact hW) hd (fun _ _ => ⟨ha, eT, h3, h4⟩)
  dsimp only [Pt.U, Pt.locs, Pt.cells, Pt.slots] at X' l1 y1 z1 st hQ
  subst l1 y1 z1
  exact ⟨T', v, Lc, X', hQ, fun t kt => k t (st.trans kt)⟩
theorem Go.virt {own C : String} {index : Nat} {y z : MethodName} {Wd cells' slots' : Nat} {b : Addr} {argsL rest : List Value} {Q : Option Value → Heap → List Loc → Prop} {as' : Array Value} {ps : List FieldType} {r : Option FieldType} {bytes : ByteArray} {maxL : Nat} {ret : Option FieldType} {rm : Room}
    (k : Go p e below m W T pc L S) (X : Stand p l e R s m args below meth c T locs cells slots) (hx : p.tables.exec = Jvm.exec) (hZ : Z.Warmed39 s.vm) (hown : s.vm.findClass own = some m.cls) (hsz : L.size = c.maxLocals)
    (w1 : (Cond.methodLink own index y).before a0 Z = true) (w2 : (Cond.declares y).before a0 Z = true) (hnf : NotFace s y) (w3 : (Cond.selects C y z).before a0 Z = true) (w4 : (Cond.instanceMethod z).before a0 Z = true) (wc : (Cond.code z bytes maxL ret).before a0 Z = true) (wz : (Cond.initialized z.cls).before a0 Z = true) (hd : decode c.code pc = .ok (.invokevirtual index, 3)) (hy : y.cls ≠ "java/lang/invoke/MethodHandle" ∧ y.cls ≠ "java/lang/invoke/VarHandle")
    (hM : MetFree l z (head1 [Cond.code z bytes maxL ret] rm) (fun a U => a = as' ∧ Z.Warmed39 U.vm ∧ U.heap = h) (fun _ _ _ _ _ => True) (fun _ U o U' => ∃ v L, o = .returned v ∧ Q v U'.heap L ∧ FrameEnd U o U' L rm.cells rm.slots))
    (eT : T.heap = h) (E : Exa Z h b C) (hs : S = argsL.reverse ++ .ref b :: rest) (ha : (.ref b :: argsL).toArray = as') (hp : parseMethodDescriptor y.desc = some ⟨ps, r⟩) (hlen : argsL.length = ps.length) (hW : (rest.map fun v => v.category).sum ≤ Wd) (hf : rm.frames + 1 ≤ R.frames) (hl : Wd + (maxL + 11) + rm.locals ≤ R.locals) (h1 : cells + rm.cells = cells') (h2 : slots + rm.slots = slots') (h3 : cells' ≤ R.cells) (h4 : slots' ≤ R.slots) :
    ∃ T' v L', Stand p l e R s m args below meth c T' (locs ++ L') cells' slots' ∧ Q v T'.heap L' ∧ Go p e below m W T' (pc + 3) L (v.toList ++ rest) :=
  Go.virtB (Wd := Wd) k X hx hZ hown hsz w1 w2 hnf w3 w4 hd hy (backOf (W := Wd) hM hZ wc wz hf hl) eT E hs ha hp hlen hW h1 h2 h3 h4
theorem Go.virtUpB {own C owner : String} {index : Nat} {y z : MethodName} {Wd cells' slots' : Nat} {b : Addr} {argsL rest : List Value} {Q : Option Value → Heap → List Loc → Prop} {as' : Array Value} {ps : List FieldType} {r : Option FieldType} {rc rs : Nat}
    (k : Go p e below m W T pc L S) (X : Stand p l e R s m args below meth c T locs cells slots) (hx : p.tables.exec = Jvm.exec) (hZ : Z.Warmed39 s.vm) (hown : s.vm.findClass own = some m.cls) (hsz : L.size = c.maxLocals)
    (w1 : (Cond.methodLink own index y).before a0 Z = true) (w2 : (Cond.sameMethod y.cls owner y.name y.desc).before a0 Z = true) (w5 : (Cond.declares ⟨owner, y.name, y.desc⟩).before a0 Z = true) (w3 : (Cond.selects C y z).before a0 Z = true) (w4 : (Cond.instanceMethod z).before a0 Z = true) (hd : decode c.code pc = .ok (.invokevirtual index, 3)) (hy : owner ≠ "java/lang/invoke/MethodHandle" ∧ owner ≠ "java/lang/invoke/VarHandle")
    (hK : Back l R p e below s args z 3 Wd (fun A a => a = as' ∧ A.U.heap = h ∧ A.cells + rc ≤ R.cells ∧ A.slots + rs ≤ R.slots) (fun A _ v B => ∃ L, Q v B.U.heap L ∧ B.locs = A.locs ++ L ∧ B.cells = A.cells + rc ∧ B.slots = A.slots + rs))
    (eT : T.heap = h) (E : Exa Z h b C) (hs : S = argsL.reverse ++ .ref b :: rest) (ha : (.ref b :: argsL).toArray = as') (hp : parseMethodDescriptor y.desc = some ⟨ps, r⟩) (hlen : argsL.length = ps.length) (hW : (rest.map fun v => v.category).sum ≤ Wd) (h1 : cells + rc = cells') (h2 : slots + rs = slots') (h3 : cells' ≤ R.cells) (h4 : slots' ≤ R.slots) :
    ∃ T' v L', Stand p l e R s m args below meth c T' (locs ++ L') cells' slots' ∧ Q v T'.heap L' ∧ Go p e below m W T' (pc + 3) L (v.toList ++ rest) := by
  subst hs h1 h2
  obtain ⟨cq, kq, qa, qb, qc⟩ := isOf hZ eT E
  obtain ⟨v, _, ⟨T', L', k', n'⟩, -, X', ⟨Lc, hQ, l1, y1, z1⟩, st⟩ := X.virtualBackUp hx (x := y) (y := z) (owner := owner) hown (mvT hZ w1) (mvT hZ w2) (mvT hZ w5) hy (mvT hZ w3) (mvT hZ w4) hK qa qc (g := mkF m pc L (argsL.reverse ++ .ref b :: rest)) rfl hsz (Steps.refl _) (argsL := argsL) (rest := rest) (lenOf hp hlen) rfl (by show 2 * 0 + _ ≤ _; rw [Nat.mul_zero, Nat.zero_add]; exact hW) hd (fun _ _ => ⟨ha, eT, h3, h4⟩)
  dsimp only [Pt.U, Pt.locs, Pt.cells, Pt.slots] at X' l1 y1 z1 st hQ
  subst l1 y1 z1
  exact ⟨T', v, Lc, X', hQ, fun t kt => k t (st.trans kt)⟩
theorem Go.virtUp {own C owner : String} {index : Nat} {y z : MethodName} {Wd cells' slots' : Nat} {b : Addr} {argsL rest : List Value} {Q : Option Value → Heap → List Loc → Prop} {as' : Array Value} {ps : List FieldType} {r : Option FieldType} {bytes : ByteArray} {maxL : Nat} {ret : Option FieldType} {rm : Room}
    (k : Go p e below m W T pc L S) (X : Stand p l e R s m args below meth c T locs cells slots) (hx : p.tables.exec = Jvm.exec) (hZ : Z.Warmed39 s.vm) (hown : s.vm.findClass own = some m.cls) (hsz : L.size = c.maxLocals)
    (w1 : (Cond.methodLink own index y).before a0 Z = true) (w2 : (Cond.sameMethod y.cls owner y.name y.desc).before a0 Z = true) (w5 : (Cond.declares ⟨owner, y.name, y.desc⟩).before a0 Z = true) (w3 : (Cond.selects C y z).before a0 Z = true) (w4 : (Cond.instanceMethod z).before a0 Z = true) (wc : (Cond.code z bytes maxL ret).before a0 Z = true) (wz : (Cond.initialized z.cls).before a0 Z = true) (hd : decode c.code pc = .ok (.invokevirtual index, 3)) (hy : owner ≠ "java/lang/invoke/MethodHandle" ∧ owner ≠ "java/lang/invoke/VarHandle")
    (hM : MetFree l z (head1 [Cond.code z bytes maxL ret] rm) (fun a U => a = as' ∧ Z.Warmed39 U.vm ∧ U.heap = h) (fun _ _ _ _ _ => True) (fun _ U o U' => ∃ v L, o = .returned v ∧ Q v U'.heap L ∧ FrameEnd U o U' L rm.cells rm.slots))
    (eT : T.heap = h) (E : Exa Z h b C) (hs : S = argsL.reverse ++ .ref b :: rest) (ha : (.ref b :: argsL).toArray = as') (hp : parseMethodDescriptor y.desc = some ⟨ps, r⟩) (hlen : argsL.length = ps.length) (hW : (rest.map fun v => v.category).sum ≤ Wd) (hf : rm.frames + 1 ≤ R.frames) (hl : Wd + (maxL + 11) + rm.locals ≤ R.locals) (h1 : cells + rm.cells = cells') (h2 : slots + rm.slots = slots') (h3 : cells' ≤ R.cells) (h4 : slots' ≤ R.slots) :
    ∃ T' v L', Stand p l e R s m args below meth c T' (locs ++ L') cells' slots' ∧ Q v T'.heap L' ∧ Go p e below m W T' (pc + 3) L (v.toList ++ rest) :=
  Go.virtUpB (Wd := Wd) (owner := owner) k X hx hZ hown hsz w1 w2 w5 w3 w4 hd hy (backOf (W := Wd) hM hZ wc wz hf hl) eT E hs ha hp hlen hW h1 h2 h3 h4
theorem Go.ifaceB {own C : String} {index count : Nat} {y z : MethodName} {Wd cells' slots' : Nat} {b : Addr} {argsL rest : List Value} {Q : Option Value → Heap → List Loc → Prop} {as' : Array Value} {ps : List FieldType} {r : Option FieldType} {rc rs : Nat}
    (k : Go p e below m W T pc L S) (X : Stand p l e R s m args below meth c T locs cells slots) (hx : p.tables.exec = Jvm.exec) (hZ : Z.Warmed39 s.vm) (hown : s.vm.findClass own = some m.cls) (hsz : L.size = c.maxLocals)
    (w1 : (Cond.methodLink own index y).before a0 Z = true) (w2 : (Cond.declares y).before a0 Z = true) (w5 : (Cond.interfaceMethod y.cls y.cls y.name y.desc).before args s = true) (w3 : (Cond.selects C y z).before a0 Z = true) (w4 : (Cond.instanceMethod z).before a0 Z = true) (w6 : (Cond.publicMethod z).before a0 Z = true) (w7 : (Cond.unhidden C y.name y.desc).before a0 Z = true) (w8 : (Cond.castable C y.cls).before a0 Z = true) (hd : decode c.code pc = .ok (.invokeinterface index count, 5)) (hy : y.cls ≠ "java/lang/invoke/MethodHandle" ∧ y.cls ≠ "java/lang/invoke/VarHandle")
    (hK : Back l R p e below s args z 5 Wd (fun A a => a = as' ∧ A.U.heap = h ∧ A.cells + rc ≤ R.cells ∧ A.slots + rs ≤ R.slots) (fun A _ v B => ∃ L, Q v B.U.heap L ∧ B.locs = A.locs ++ L ∧ B.cells = A.cells + rc ∧ B.slots = A.slots + rs))
    (eT : T.heap = h) (E : Exa Z h b C) (hs : S = argsL.reverse ++ .ref b :: rest) (ha : (.ref b :: argsL).toArray = as') (hp : parseMethodDescriptor y.desc = some ⟨ps, r⟩) (hlen : argsL.length = ps.length) (hW : (rest.map fun v => v.category).sum ≤ Wd) (h1 : cells + rc = cells') (h2 : slots + rs = slots') (h3 : cells' ≤ R.cells) (h4 : slots' ≤ R.slots) :
    ∃ T' v L', Stand p l e R s m args below meth c T' (locs ++ L') cells' slots' ∧ Q v T'.heap L' ∧ Go p e below m W T' (pc + 5) L (v.toList ++ rest) := by
  subst hs h1 h2
  obtain ⟨cq, kq, qa, qb, qc⟩ := isOf hZ eT E
  obtain ⟨v, _, ⟨T', L', k', n'⟩, -, X', ⟨Lc, hQ, l1, y1, z1⟩, st⟩ := X.interfaceBack hx (xi := y) (y := z) (count := count) hown (mvT hZ w1) (mvT hZ w2) w5 (mvT hZ w3) (mvT hZ w4) (mvT hZ w6) (mvT hZ w7) (mvT hZ w8) hy hK qa qb qc (g := mkF m pc L (argsL.reverse ++ .ref b :: rest)) rfl hsz (Steps.refl _) (argsL := argsL) (rest := rest) (lenOf hp hlen) rfl (by show 2 * 0 + _ ≤ _; rw [Nat.mul_zero, Nat.zero_add]; exact hW) hd (fun _ _ => ⟨ha, eT, h3, h4⟩)
  dsimp only [Pt.U, Pt.locs, Pt.cells, Pt.slots] at X' l1 y1 z1 st hQ
  subst l1 y1 z1
  exact ⟨T', v, Lc, X', hQ, fun t kt => k t (st.trans kt)⟩
theorem Go.iface {own C : String} {index count : Nat} {y z : MethodName} {Wd cells' slots' : Nat} {b : Addr} {argsL rest : List Value} {Q : Option Value → Heap → List Loc → Prop} {as' : Array Value} {ps : List FieldType} {r : Option FieldType} {bytes : ByteArray} {maxL : Nat} {ret : Option FieldType} {rm : Room}
    (k : Go p e below m W T pc L S) (X : Stand p l e R s m args below meth c T locs cells slots) (hx : p.tables.exec = Jvm.exec) (hZ : Z.Warmed39 s.vm) (hown : s.vm.findClass own = some m.cls) (hsz : L.size = c.maxLocals)
    (w1 : (Cond.methodLink own index y).before a0 Z = true) (w2 : (Cond.declares y).before a0 Z = true) (w5 : (Cond.interfaceMethod y.cls y.cls y.name y.desc).before args s = true) (w3 : (Cond.selects C y z).before a0 Z = true) (w4 : (Cond.instanceMethod z).before a0 Z = true) (w6 : (Cond.publicMethod z).before a0 Z = true) (w7 : (Cond.unhidden C y.name y.desc).before a0 Z = true) (w8 : (Cond.castable C y.cls).before a0 Z = true) (wc : (Cond.code z bytes maxL ret).before a0 Z = true) (wz : (Cond.initialized z.cls).before a0 Z = true) (hd : decode c.code pc = .ok (.invokeinterface index count, 5)) (hy : y.cls ≠ "java/lang/invoke/MethodHandle" ∧ y.cls ≠ "java/lang/invoke/VarHandle")
    (hM : MetFree l z (head1 [Cond.code z bytes maxL ret] rm) (fun a U => a = as' ∧ Z.Warmed39 U.vm ∧ U.heap = h) (fun _ _ _ _ _ => True) (fun _ U o U' => ∃ v L, o = .returned v ∧ Q v U'.heap L ∧ FrameEnd U o U' L rm.cells rm.slots))
    (eT : T.heap = h) (E : Exa Z h b C) (hs : S = argsL.reverse ++ .ref b :: rest) (ha : (.ref b :: argsL).toArray = as') (hp : parseMethodDescriptor y.desc = some ⟨ps, r⟩) (hlen : argsL.length = ps.length) (hW : (rest.map fun v => v.category).sum ≤ Wd) (hf : rm.frames + 1 ≤ R.frames) (hl : Wd + (maxL + 11) + rm.locals ≤ R.locals) (h1 : cells + rm.cells = cells') (h2 : slots + rm.slots = slots') (h3 : cells' ≤ R.cells) (h4 : slots' ≤ R.slots) :
    ∃ T' v L', Stand p l e R s m args below meth c T' (locs ++ L') cells' slots' ∧ Q v T'.heap L' ∧ Go p e below m W T' (pc + 5) L (v.toList ++ rest) :=
  Go.ifaceB (Wd := Wd) k X hx hZ hown hsz w1 w2 w5 w3 w4 w6 w7 w8 hd hy (backOf (W := Wd) hM hZ wc wz hf hl) eT E hs ha hp hlen hW h1 h2 h3 h4
theorem Go.specB {own : String} {index : Nat} {y : MethodName} {bytes : ByteArray} {maxL : Nat} {Wd cells' slots' : Nat} {b : Addr} {argsL rest : List Value} {Q : Option Value → Heap → List Loc → Prop} {as' : Array Value} {ps : List FieldType} {r : Option FieldType} {rc rs : Nat}
    (k : Go p e below m W T pc L S) (X : Stand p l e R s m args below meth c T locs cells slots) (hx : p.tables.exec = Jvm.exec) (hZ : Z.Warmed39 s.vm) (hown : s.vm.findClass own = some m.cls) (hsz : L.size = c.maxLocals)
    (hy1 : y.name = "<init>") (w1 : (Cond.methodLink own index y).before a0 Z = true) (w2 : (Cond.instanceMethod y).before a0 Z = true) (wc : (Cond.code y bytes maxL none).before a0 Z = true) (hd : decode c.code pc = .ok (.invokespecial index, 3)) (hy : y.cls ≠ "java/lang/invoke/MethodHandle" ∧ y.cls ≠ "java/lang/invoke/VarHandle")
    (hK : Back l R p e below s args y 3 Wd (fun A a => a = as' ∧ A.U.heap = h ∧ A.cells + rc ≤ R.cells ∧ A.slots + rs ≤ R.slots) (fun A _ v B => ∃ L, Q v B.U.heap L ∧ B.locs = A.locs ++ L ∧ B.cells = A.cells + rc ∧ B.slots = A.slots + rs))
    (eT : T.heap = h) (hs : S = argsL.reverse ++ .ref b :: rest) (ha : (.ref b :: argsL).toArray = as') (hp : parseMethodDescriptor y.desc = some ⟨ps, r⟩) (hlen : argsL.length = ps.length) (hW : (rest.map fun v => v.category).sum ≤ Wd) (h1 : cells + rc = cells') (h2 : slots + rs = slots') (h3 : cells' ≤ R.cells) (h4 : slots' ≤ R.slots) :
    ∃ T' v L', Stand p l e R s m args below meth c T' (locs ++ L') cells' slots' ∧ Q v T'.heap L' ∧ Go p e below m W T' (pc + 3) L (v.toList ++ rest) := by
  subst hs h1 h2
  obtain ⟨v, _, ⟨T', L', k', n'⟩, -, X', ⟨Lc, hQ, l1, y1, z1⟩, st⟩ := X.specialBack hx (y := y) hy1 hown (mvT hZ w1) (mvT hZ w2) (mvT hZ wc) hy hK (g := mkF m pc L (argsL.reverse ++ .ref b :: rest)) rfl hsz (Steps.refl _) (a := b) (argsL := argsL) (rest := rest) (lenOf hp hlen) rfl (by show 2 * 0 + _ ≤ _; rw [Nat.mul_zero, Nat.zero_add]; exact hW) hd (fun _ _ => ⟨ha, eT, h3, h4⟩)
  dsimp only [Pt.U, Pt.locs, Pt.cells, Pt.slots] at X' l1 y1 z1 st hQ
  subst l1 y1 z1
  exact ⟨T', v, Lc, X', hQ, fun t kt => k t (st.trans kt)⟩
theorem Go.spec {own : String} {index : Nat} {y : MethodName} {bytes : ByteArray} {maxL : Nat} {Wd cells' slots' : Nat} {b : Addr} {argsL rest : List Value} {Q : Option Value → Heap → List Loc → Prop} {as' : Array Value} {ps : List FieldType} {r : Option FieldType} {rm : Room}
    (k : Go p e below m W T pc L S) (X : Stand p l e R s m args below meth c T locs cells slots) (hx : p.tables.exec = Jvm.exec) (hZ : Z.Warmed39 s.vm) (hown : s.vm.findClass own = some m.cls) (hsz : L.size = c.maxLocals)
    (hy1 : y.name = "<init>") (w1 : (Cond.methodLink own index y).before a0 Z = true) (w2 : (Cond.instanceMethod y).before a0 Z = true)  (wc : (Cond.code y bytes maxL none).before a0 Z = true) (wz : (Cond.initialized y.cls).before a0 Z = true) (hd : decode c.code pc = .ok (.invokespecial index, 3)) (hy : y.cls ≠ "java/lang/invoke/MethodHandle" ∧ y.cls ≠ "java/lang/invoke/VarHandle")
    (hM : MetFree l y (head1 [Cond.code y bytes maxL none] rm) (fun a U => a = as' ∧ Z.Warmed39 U.vm ∧ U.heap = h) (fun _ _ _ _ _ => True) (fun _ U o U' => ∃ v L, o = .returned v ∧ Q v U'.heap L ∧ FrameEnd U o U' L rm.cells rm.slots))
    (eT : T.heap = h) (hs : S = argsL.reverse ++ .ref b :: rest) (ha : (.ref b :: argsL).toArray = as') (hp : parseMethodDescriptor y.desc = some ⟨ps, r⟩) (hlen : argsL.length = ps.length) (hW : (rest.map fun v => v.category).sum ≤ Wd) (hf : rm.frames + 1 ≤ R.frames) (hl : Wd + (maxL + 11) + rm.locals ≤ R.locals) (h1 : cells + rm.cells = cells') (h2 : slots + rm.slots = slots') (h3 : cells' ≤ R.cells) (h4 : slots' ≤ R.slots) :
    ∃ T' v L', Stand p l e R s m args below meth c T' (locs ++ L') cells' slots' ∧ Q v T'.heap L' ∧ Go p e below m W T' (pc + 3) L (v.toList ++ rest) :=
  Go.specB (Wd := Wd) k X hx hZ hown hsz hy1 w1 w2 wc hd hy (backOf (W := Wd) hM hZ wc wz hf hl) eT hs ha hp hlen hW h1 h2 h3 h4
theorem Go.statB {own : String} {index : Nat} {y : MethodName} {bytes : ByteArray} {maxL : Nat} {ret : Option FieldType} {Wd cells' slots' : Nat} {argsL rest : List Value} {Q : Option Value → Heap → List Loc → Prop} {as' : Array Value} {ps : List FieldType} {r : Option FieldType} {rc rs : Nat}
    (k : Go p e below m W T pc L S) (X : Stand p l e R s m args below meth c T locs cells slots) (hx : p.tables.exec = Jvm.exec) (hZ : Z.Warmed39 s.vm) (hown : s.vm.findClass own = some m.cls) (hsz : L.size = c.maxLocals)
    (w1 : (Cond.methodLink own index y).before a0 Z = true) (w2 : (Cond.static y).before a0 Z = true) (wc : (Cond.code y bytes maxL ret).before a0 Z = true) (wz : (Cond.initialized y.cls).before a0 Z = true) (hd : decode c.code pc = .ok (.invokestatic index, 3)) (hy : y.cls ≠ "java/lang/invoke/MethodHandle" ∧ y.cls ≠ "java/lang/invoke/VarHandle")
    (hK : Back l R p e below s args y 3 Wd (fun A a => a = as' ∧ A.U.heap = h ∧ A.cells + rc ≤ R.cells ∧ A.slots + rs ≤ R.slots) (fun A _ v B => ∃ L, Q v B.U.heap L ∧ B.locs = A.locs ++ L ∧ B.cells = A.cells + rc ∧ B.slots = A.slots + rs))
    (eT : T.heap = h) (hs : S = argsL.reverse ++ rest) (ha : argsL.toArray = as') (hp : parseMethodDescriptor y.desc = some ⟨ps, r⟩) (hlen : argsL.length = ps.length) (hW : (rest.map fun v => v.category).sum ≤ Wd) (h1 : cells + rc = cells') (h2 : slots + rs = slots') (h3 : cells' ≤ R.cells) (h4 : slots' ≤ R.slots) :
    ∃ T' v L', Stand p l e R s m args below meth c T' (locs ++ L') cells' slots' ∧ Q v T'.heap L' ∧ Go p e below m W T' (pc + 3) L (v.toList ++ rest) := by
  subst hs h1 h2
  obtain ⟨v, _, ⟨T', L', k', n'⟩, -, X', ⟨Lc, hQ, l1, y1, z1⟩, st⟩ := Jvm.LawKit.callS X hx (y := y) hown (mvT hZ w1) (mvT hZ w2) (mvT hZ wz) (mvT hZ wc) hy hK (g := mkF m pc L (argsL.reverse ++ rest)) rfl hsz (argsL := argsL) (rest := rest) (lenOf hp hlen) rfl (by show 2 * 0 + _ ≤ _; rw [Nat.mul_zero, Nat.zero_add]; exact hW) hd (fun _ _ => ⟨ha, eT, h3, h4⟩)
  dsimp only [Pt.U, Pt.locs, Pt.cells, Pt.slots] at X' l1 y1 z1 st hQ
  subst l1 y1 z1
  exact ⟨T', v, Lc, X', hQ, fun t kt => k t (st t kt)⟩
theorem Go.stat {own : String} {index : Nat} {y : MethodName} {bytes : ByteArray} {maxL : Nat} {ret : Option FieldType} {Wd cells' slots' : Nat} {argsL rest : List Value} {Q : Option Value → Heap → List Loc → Prop} {as' : Array Value} {ps : List FieldType} {r : Option FieldType} {rm : Room}
    (k : Go p e below m W T pc L S) (X : Stand p l e R s m args below meth c T locs cells slots) (hx : p.tables.exec = Jvm.exec) (hZ : Z.Warmed39 s.vm) (hown : s.vm.findClass own = some m.cls) (hsz : L.size = c.maxLocals)
    (w1 : (Cond.methodLink own index y).before a0 Z = true) (w2 : (Cond.static y).before a0 Z = true)  (wc : (Cond.code y bytes maxL ret).before a0 Z = true) (wz : (Cond.initialized y.cls).before a0 Z = true) (hd : decode c.code pc = .ok (.invokestatic index, 3)) (hy : y.cls ≠ "java/lang/invoke/MethodHandle" ∧ y.cls ≠ "java/lang/invoke/VarHandle")
    (hM : MetFree l y (head1 [Cond.code y bytes maxL ret] rm) (fun a U => a = as' ∧ Z.Warmed39 U.vm ∧ U.heap = h) (fun _ _ _ _ _ => True) (fun _ U o U' => ∃ v L, o = .returned v ∧ Q v U'.heap L ∧ FrameEnd U o U' L rm.cells rm.slots))
    (eT : T.heap = h) (hs : S = argsL.reverse ++ rest) (ha : argsL.toArray = as') (hp : parseMethodDescriptor y.desc = some ⟨ps, r⟩) (hlen : argsL.length = ps.length) (hW : (rest.map fun v => v.category).sum ≤ Wd) (hf : rm.frames + 1 ≤ R.frames) (hl : Wd + (maxL + 11) + rm.locals ≤ R.locals) (h1 : cells + rm.cells = cells') (h2 : slots + rm.slots = slots') (h3 : cells' ≤ R.cells) (h4 : slots' ≤ R.slots) :
    ∃ T' v L', Stand p l e R s m args below meth c T' (locs ++ L') cells' slots' ∧ Q v T'.heap L' ∧ Go p e below m W T' (pc + 3) L (v.toList ++ rest) :=
  Go.statB (Wd := Wd) k X hx hZ hown hsz w1 w2 wc wz hd hy (backOf (W := Wd) hM hZ wc wz hf hl) eT hs ha hp hlen hW h1 h2 h3 h4
theorem Go.privB {own C : String} {index : Nat} {y : MethodName} {bytes : ByteArray} {maxL : Nat} {ret : Option FieldType} {Wd cells' slots' : Nat} {b : Addr} {argsL rest : List Value} {Q : Option Value → Heap → List Loc → Prop} {as' : Array Value} {ps : List FieldType} {r : Option FieldType} {rc rs : Nat}
    (k : Go p e below m W T pc L S) (X : Stand p l e R s m args below meth c T locs cells slots) (hx : p.tables.exec = Jvm.exec) (hZ : Z.Warmed39 s.vm) (hown : s.vm.findClass own = some m.cls) (hsz : L.size = c.maxLocals)
    (w1 : (Cond.methodLink own index y).before a0 Z = true) (w2 : (Cond.instanceMethod y).before a0 Z = true) (w3 : (Cond.selects y.cls y y).before a0 Z = true) (w4 : (Cond.privateMethod y).before a0 Z = true) (wc : (Cond.code y bytes maxL ret).before a0 Z = true)
    (hd : decode c.code pc = .ok (.invokevirtual index, 3)) (hy : y.cls ≠ "java/lang/invoke/MethodHandle" ∧ y.cls ≠ "java/lang/invoke/VarHandle")
    (hK : Back l R p e below s args y 3 Wd (fun A a => a = as' ∧ A.U.heap = h ∧ A.cells + rc ≤ R.cells ∧ A.slots + rs ≤ R.slots) (fun A _ v B => ∃ L, Q v B.U.heap L ∧ B.locs = A.locs ++ L ∧ B.cells = A.cells + rc ∧ B.slots = A.slots + rs))
    (eT : T.heap = h) (E : Exa Z h b C) (hs : S = argsL.reverse ++ .ref b :: rest) (ha : (.ref b :: argsL).toArray = as') (hp : parseMethodDescriptor y.desc = some ⟨ps, r⟩) (hlen : argsL.length = ps.length) (hW : (rest.map fun v => v.category).sum ≤ Wd) (h1 : cells + rc = cells') (h2 : slots + rs = slots') (h3 : cells' ≤ R.cells) (h4 : slots' ≤ R.slots) :
    ∃ T' v L', Stand p l e R s m args below meth c T' (locs ++ L') cells' slots' ∧ Q v T'.heap L' ∧ Go p e below m W T' (pc + 3) L (v.toList ++ rest) := by
  subst hs h1 h2
  obtain ⟨cq, q1, q2⟩ := E.cell
  obtain ⟨v, _, ⟨T', L', k', n'⟩, -, X', ⟨Lc, hQ, l1, y1, z1⟩, st⟩ := X.privateBack hx (y := y) hown (mvT hZ w1) (mvT hZ w2) (mvT hZ w3) (Cond.privateMethod_at (mvP hZ w4 (args := #[]))) (mvT hZ wc) hy hK (g := mkF m pc L (argsL.reverse ++ .ref b :: rest)) rfl hsz (Steps.refl _) (a := b) (by rw [eT]; exact q1) q2 (argsL := argsL) (rest := rest) (lenOf hp hlen) rfl (by show 2 * 0 + _ ≤ _; rw [Nat.mul_zero, Nat.zero_add]; exact hW) hd (fun _ _ => ⟨ha, eT, h3, h4⟩)
  dsimp only [Pt.U, Pt.locs, Pt.cells, Pt.slots] at X' l1 y1 z1 st hQ
  subst l1 y1 z1
  exact ⟨T', v, Lc, X', hQ, fun t kt => k t (st.trans kt)⟩
theorem Go.priv {own C : String} {index : Nat} {y : MethodName} {bytes : ByteArray} {maxL : Nat} {ret : Option FieldType} {Wd cells' slots' : Nat} {b : Addr} {argsL rest : List Value} {Q : Option Value → Heap → List Loc → Prop} {as' : Array Value} {ps : List FieldType} {r : Option FieldType} {rm : Room}
    (k : Go p e below m W T pc L S) (X : Stand p l e R s m args below meth c T locs cells slots) (hx : p.tables.exec = Jvm.exec) (hZ : Z.Warmed39 s.vm) (hown : s.vm.findClass own = some m.cls) (hsz : L.size = c.maxLocals)
    (w1 : (Cond.methodLink own index y).before a0 Z = true) (w2 : (Cond.instanceMethod y).before a0 Z = true) (w3 : (Cond.selects y.cls y y).before a0 Z = true) (w4 : (Cond.privateMethod y).before a0 Z = true) (wc : (Cond.code y bytes maxL ret).before a0 Z = true) (wz : (Cond.initialized y.cls).before a0 Z = true)
    (hd : decode c.code pc = .ok (.invokevirtual index, 3)) (hy : y.cls ≠ "java/lang/invoke/MethodHandle" ∧ y.cls ≠ "java/lang/invoke/VarHandle")
    (hM : MetFree l y (head1 [Cond.code y bytes maxL ret] rm) (fun a U => a = as' ∧ Z.Warmed39 U.vm ∧ U.heap = h) (fun _ _ _ _ _ => True) (fun _ U o U' => ∃ v L, o = .returned v ∧ Q v U'.heap L ∧ FrameEnd U o U' L rm.cells rm.slots))
    (eT : T.heap = h) (E : Exa Z h b C) (hs : S = argsL.reverse ++ .ref b :: rest) (ha : (.ref b :: argsL).toArray = as') (hp : parseMethodDescriptor y.desc = some ⟨ps, r⟩) (hlen : argsL.length = ps.length) (hW : (rest.map fun v => v.category).sum ≤ Wd) (hf : rm.frames + 1 ≤ R.frames) (hl : Wd + (maxL + 11) + rm.locals ≤ R.locals) (h1 : cells + rm.cells = cells') (h2 : slots + rm.slots = slots') (h3 : cells' ≤ R.cells) (h4 : slots' ≤ R.slots) :
    ∃ T' v L', Stand p l e R s m args below meth c T' (locs ++ L') cells' slots' ∧ Q v T'.heap L' ∧ Go p e below m W T' (pc + 3) L (v.toList ++ rest) :=
  Go.privB (Wd := Wd) k X hx hZ hown hsz w1 w2 w3 w4 wc hd hy (backOf (W := Wd) hM hZ wc wz hf hl) eT E hs ha hp hlen hW h1 h2 h3 h4
theorem Go.castY {own K : String} {index : Nat} {a : Addr} (k : Go p e below m W T pc L (.ref a :: S)) (X : Stand p l e R s m args below meth c T locs cells slots) (hx : p.tables.exec = Jvm.exec) (hZ : Z.Warmed39 s.vm) (hown : s.vm.findClass own = some m.cls) (w : (Cond.classLink own index K).before a0 Z = true) (eT : T.heap = h) (F : Ins Z h a K true) (hd : decode c.code pc = .ok (.checkcast index, 3)) :
    ∃ T', Stand p l e R s m args below meth c T' locs cells slots ∧ T'.heap = h ∧ Go p e below m W T' (pc + 3) L (.ref a :: S) := by
  obtain ⟨T', X', e', st⟩ := Jvm.RoadKit.castY X hx hZ hown w eT F (g := mkF m pc L (.ref a :: S)) rfl rfl hd
  exact ⟨T', X', e', fun t kt => k t (st t kt)⟩
theorem Go.instY {own K : String} {index : Nat} {a : Addr} (k : Go p e below m W T pc L (.ref a :: S)) (X : Stand p l e R s m args below meth c T locs cells slots) (hx : p.tables.exec = Jvm.exec) (hZ : Z.Warmed39 s.vm) (hown : s.vm.findClass own = some m.cls) (w : (Cond.classLink own index K).before a0 Z = true) (eT : T.heap = h) (F : Ins Z h a K true) (hd : decode c.code pc = .ok (.instanceof index, 3)) :
    ∃ T', Stand p l e R s m args below meth c T' locs cells slots ∧ T'.heap = h ∧ Go p e below m W T' (pc + 3) L (.int 1 :: S) := by
  obtain ⟨T', X', e', st⟩ := Jvm.RoadKit.instY X hx hZ hown w eT F (g := mkF m pc L (.ref a :: S)) rfl rfl hd
  exact ⟨T', X', e', fun t kt => k t (st t kt)⟩
theorem Go.instNull {index : Nat} (k : Go p e below m W T pc L (.null :: S)) (X : Stand p l e R s m args below meth c T locs cells slots) (hx : p.tables.exec = Jvm.exec) (hd : decode c.code pc = .ok (.instanceof index, 3)) : Go p e below m W T (pc + 3) L (.int 0 :: S) := fun t kt => k t (X.instanceofNull hx (g := mkF m pc L (.null :: S)) rfl rfl hd t kt)
theorem Go.castNull {index : Nat} (k : Go p e below m W T pc L (.null :: S)) (X : Stand p l e R s m args below meth c T locs cells slots) (hx : p.tables.exec = Jvm.exec) (hd : decode c.code pc = .ok (.checkcast index, 3)) : Go p e below m W T (pc + 3) L (.null :: S) := fun t kt => k t (X.checkcastNull hx (g := mkF m pc L (.null :: S)) rfl rfl hd t kt)
theorem Go.cast {x y : Int32} (k : Go p e below m W T pc L (.int x :: S)) (q : x = y) : Go p e below m W T pc L (.int y :: S) := q ▸ k
theorem Go.castJ {x y : Int64} (k : Go p e below m W T pc L (.long x :: S)) (q : x = y) : Go p e below m W T pc L (.long y :: S) := q ▸ k
/-! the ways out of a body -/
abbrev Done (p : Program) (e : Env) (below : List Frame) (s W : State) (Q : Option Value → Heap → List Loc → Prop) (rc rs : Nat) : Prop :=
  ∃ s₂ o, Steps p.tables e below W s₂ ∧ s₂.status = .running ∧ Ended s₂ below o ∧ ∃ v L, o = .returned v ∧ Q v s₂.heap L ∧ FrameEnd s o s₂ L rc rs
theorem Go.ireturnN {t : FieldType} {x : Int32} {Q : Option Value → Heap → List Loc → Prop} {rc rs : Nat} (k : Go p e below m W T pc L (.int x :: S)) (X : Stand p l e R s m args below meth c T locs cells slots) (hx : p.tables.exec = Jvm.exec) (hret : meth.sig.returnType = some t) (ht : t = .boolean ∨ t = .byte ∨ t = .char ∨ t = .short) (hn : nar t x = x) (hd : decode c.code pc = .ok (.ireturn, 1)) (hlk : meth.locks = false) (hq : Q (some (.int x)) T.heap locs) (h1 : cells ≤ rc) (h2 : slots ≤ rs) : Done p e below s W Q rc rs := by
  obtain ⟨fs, hr, hrun, hended, hW, hsame⟩ := X.leave (v := some (.int x)) (fun q => by rw [hret] at q; cases q) hlk
  refine ⟨_, _, k _ (retN X hx hret ht hd (by rw [hn]; exact hr)), hrun, hended, _, _, rfl, hq, ⟨_, rfl⟩, hW, hsame.mono h1 h2⟩
theorem Go.ireturnI {x : Int32} {Q : Option Value → Heap → List Loc → Prop} {rc rs : Nat} (k : Go p e below m W T pc L (.int x :: S)) (X : Stand p l e R s m args below meth c T locs cells slots) (hx : p.tables.exec = Jvm.exec) (hret : meth.sig.returnType = some .int) (hd : decode c.code pc = .ok (.ireturn, 1)) (hlk : meth.locks = false) (hq : Q (some (.int x)) T.heap locs) (h1 : cells ≤ rc) (h2 : slots ≤ rs) : Done p e below s W Q rc rs := by
  obtain ⟨fs, hr, hrun, hended, hW, hsame⟩ := X.leave (v := some (.int x)) (fun q => by rw [hret] at q; cases q) hlk
  refine ⟨_, _, k _ (retI X hx hret hd hr), hrun, hended, _, _, rfl, hq, ⟨_, rfl⟩, hW, hsame.mono h1 h2⟩
theorem Go.return_ {Q : Option Value → Heap → List Loc → Prop} {rc rs : Nat} (k : Go p e below m W T pc L []) (X : Stand p l e R s m args below meth c T locs cells slots) (hx : p.tables.exec = Jvm.exec) (hret : meth.sig.returnType = none) (hd : decode c.code pc = .ok (.return_, 1)) (hlk : meth.locks = false) (hq : Q none T.heap locs) (h1 : cells ≤ rc) (h2 : slots ≤ rs) : Done p e below s W Q rc rs := by
  obtain ⟨fs, hr, hrun, hended, hW, hsame⟩ := X.leave (v := none) (fun _ => rfl) hlk
  refine ⟨_, _, k _ (X.returnOut hx hret hd hr), hrun, hended, _, _, rfl, hq, ⟨_, rfl⟩, hW, hsame.mono h1 h2⟩
theorem Go.areturn {t : FieldType} {v : Value} {Q : Option Value → Heap → List Loc → Prop} {rc rs : Nat} (k : Go p e below m W T pc L (v :: S)) (X : Stand p l e R s m args below meth c T locs cells slots) (hx : p.tables.exec = Jvm.exec) (hret : meth.sig.returnType = some t) (ht : t.isReference = true) (hv : v.isRef = true) (hd : decode c.code pc = .ok (.areturn, 1)) (hlk : meth.locks = false) (hq : Q (some v) T.heap locs) (h1 : cells ≤ rc) (h2 : slots ≤ rs) : Done p e below s W Q rc rs := by
  obtain ⟨fs, hr, hrun, hended, hW, hsame⟩ := X.leave (v := some v) (fun q => by rw [hret] at q; cases q) hlk
  refine ⟨_, _, k _ ?_, hrun, hended, _, _, rfl, hq, ⟨_, rfl⟩, hW, hsame.mono h1 h2⟩
  jvm_step X.here [X.here.top, hx, hd, X.method', hret, hv, ht]
  first | (intro acts; rw [hr _ acts rfl rfl rfl]) | rw [hr _ _ rfl rfl rfl]
  exact Steps.refl _

theorem own_in {cl : Cell} {z j : Int32} {i n : Nat} (S1 : cl.slots.size = z.toNatClampNeg) (hz : z.toNatClampNeg = n) (hj : j.toNatClampNeg = i) (hj0 : ¬ j < 0) (hi : i < n) : ¬ (j < 0 ∨ cl.slots.size ≤ j.toNatClampNeg) := by
  intro q
  rcases q with q | q
  · exact hj0 q
  · rw [S1, hz, hj] at q; omega

theorem Go.iastore {a : Addr} {kc : ClassId} {z j : Int32} {vs : List Value} {d : Value} {i : Nat} {n0 : Nat} {x : Int32} (k : Go p e below m W T pc L (.int x :: .int j :: .ref a :: S)) (X : Stand p l e R s m args below meth c T locs cells slots) (hx : p.tables.exec = Jvm.exec) (hZ : Z.Warmed39 s.vm) (eT : T.heap = h) (Va : Arv Z h a kc .int z vs d) (hz : z.toNatClampNeg = vs.length) (hj : j.toNatClampNeg = i) (hj0 : ¬ j < 0) (hi : i < vs.length) (N : Fr n0 locs) (g0 : n0 ≤ a) (hd : decode c.code pc = .ok (.iastore, 1)) :
    ∃ T' h' locs', Stand p l e R s m args below meth c T' locs' cells slots ∧ T'.heap = h' ∧ Wr h h' a j.toNatClampNeg (.int x) ∧ Arv Z h' a kc .int z (vs.set i (.int x)) d ∧ Fr n0 locs' ∧ Go p e below m W T' (pc + 1) L S := by
  obtain ⟨cl, A, q1, S1, q3, H, G⟩ := Va
  have hin := own_in S1 hz hj hj0 hi
  obtain ⟨T', h', X', e', W', st⟩ := Jvm.RoadKit.stI X hx hZ eT A hin (g := mkF m pc L (.int x :: .int j :: .ref a :: S)) rfl rfl hd
  exact ⟨T', h', _, X', e', W', Arv.set A q1 S1 q3 H G rfl W' i hj hi, Fr.snoc X' N g0, fun t kt => k t (st t kt)⟩

theorem Go.lastore {a : Addr} {kc : ClassId} {z j : Int32} {vs : List Value} {d : Value} {i : Nat} {n0 : Nat} {x : Int64} (k : Go p e below m W T pc L (.long x :: .int j :: .ref a :: S)) (X : Stand p l e R s m args below meth c T locs cells slots) (hx : p.tables.exec = Jvm.exec) (hZ : Z.Warmed39 s.vm) (eT : T.heap = h) (Va : Arv Z h a kc .long z vs d) (hz : z.toNatClampNeg = vs.length) (hj : j.toNatClampNeg = i) (hj0 : ¬ j < 0) (hi : i < vs.length) (N : Fr n0 locs) (g0 : n0 ≤ a) (hd : decode c.code pc = .ok (.lastore, 1)) :
    ∃ T' h' locs', Stand p l e R s m args below meth c T' locs' cells slots ∧ T'.heap = h' ∧ Wr h h' a j.toNatClampNeg (.long x) ∧ Arv Z h' a kc .long z (vs.set i (.long x)) d ∧ Fr n0 locs' ∧ Go p e below m W T' (pc + 1) L S := by
  obtain ⟨cl, A, q1, S1, q3, H, G⟩ := Va
  have hin := own_in S1 hz hj hj0 hi
  obtain ⟨T', h', X', e', W', st⟩ := Jvm.RoadKit.stJ X hx hZ eT A hin (g := mkF m pc L (.long x :: .int j :: .ref a :: S)) rfl rfl hd
  exact ⟨T', h', _, X', e', W', Arv.set A q1 S1 q3 H G rfl W' i hj hi, Fr.snoc X' N g0, fun t kt => k t (st t kt)⟩

theorem Go.castore {a : Addr} {kc : ClassId} {z j : Int32} {vs : List Value} {d : Value} {i : Nat} {n0 : Nat} {x : Int32} (k : Go p e below m W T pc L (.int x :: .int j :: .ref a :: S)) (X : Stand p l e R s m args below meth c T locs cells slots) (hx : p.tables.exec = Jvm.exec) (hZ : Z.Warmed39 s.vm) (eT : T.heap = h) (Va : Arv Z h a kc .char z vs d) (hz : z.toNatClampNeg = vs.length) (hj : j.toNatClampNeg = i) (hj0 : ¬ j < 0) (hi : i < vs.length) (N : Fr n0 locs) (g0 : n0 ≤ a) (hd : decode c.code pc = .ok (.castore, 1)) :
    ∃ T' h' locs', Stand p l e R s m args below meth c T' locs' cells slots ∧ T'.heap = h' ∧ Wr h h' a j.toNatClampNeg (.int (nar .char x)) ∧ Arv Z h' a kc .char z (vs.set i (.int (nar .char x))) d ∧ Fr n0 locs' ∧ Go p e below m W T' (pc + 1) L S := by
  obtain ⟨cl, A, q1, S1, q3, H, G⟩ := Va
  have hin := own_in S1 hz hj hj0 hi
  obtain ⟨T', h', X', e', W', st⟩ := Jvm.RoadKit.stC X hx hZ eT A hin (g := mkF m pc L (.int x :: .int j :: .ref a :: S)) rfl rfl hd
  exact ⟨T', h', _, X', e', W', Arv.set A q1 S1 q3 H G (fits_nar_char x) W' i hj hi, Fr.snoc X' N g0, fun t kt => k t (st t kt)⟩

theorem Go.bastore {a : Addr} {kc : ClassId} {z j : Int32} {vs : List Value} {d : Value} {i : Nat} {n0 : Nat} {x : Int32} (k : Go p e below m W T pc L (.int x :: .int j :: .ref a :: S)) (X : Stand p l e R s m args below meth c T locs cells slots) (hx : p.tables.exec = Jvm.exec) (hZ : Z.Warmed39 s.vm) (eT : T.heap = h) (Va : Arv Z h a kc .byte z vs d) (hz : z.toNatClampNeg = vs.length) (hj : j.toNatClampNeg = i) (hj0 : ¬ j < 0) (hi : i < vs.length) (N : Fr n0 locs) (g0 : n0 ≤ a) (hd : decode c.code pc = .ok (.bastore, 1)) :
    ∃ T' h' locs', Stand p l e R s m args below meth c T' locs' cells slots ∧ T'.heap = h' ∧ Wr h h' a j.toNatClampNeg (.int (nar .byte x)) ∧ Arv Z h' a kc .byte z (vs.set i (.int (nar .byte x))) d ∧ Fr n0 locs' ∧ Go p e below m W T' (pc + 1) L S := by
  obtain ⟨cl, A, q1, S1, q3, H, G⟩ := Va
  have hin := own_in S1 hz hj hj0 hi
  obtain ⟨T', h', X', e', W', st⟩ := Jvm.RoadKit.stB X hx hZ eT A hin (g := mkF m pc L (.int x :: .int j :: .ref a :: S)) rfl rfl hd
  exact ⟨T', h', _, X', e', W', Arv.set A q1 S1 q3 H G (fits_nar_byte x) W' i hj hi, Fr.snoc X' N g0, fun t kt => k t (st t kt)⟩

theorem Go.aastore {a : Addr} {kc : ClassId} {C : String} {z j : Int32} {vs : List Value} {d v : Value} {i : Nat} {n0 : Nat} (k : Go p e below m W T pc L (v :: .int j :: .ref a :: S)) (X : Stand p l e R s m args below meth c T locs cells slots) (hx : p.tables.exec = Jvm.exec) (hZ : Z.Warmed39 s.vm) (eT : T.heap = h) (Va : Arv Z h a kc (.object C) z vs d) (O : Ovr Z kc C) (hv : v = .null ∨ ∃ y, v = .ref y ∧ Ins Z h y C true) (hz : z.toNatClampNeg = vs.length) (hj : j.toNatClampNeg = i) (hj0 : ¬ j < 0) (hi : i < vs.length) (N : Fr n0 locs) (g0 : n0 ≤ a) (hd : decode c.code pc = .ok (.aastore, 1)) :
    ∃ T' h' locs', Stand p l e R s m args below meth c T' locs' cells slots ∧ T'.heap = h' ∧ Wr h h' a j.toNatClampNeg v ∧ Arv Z h' a kc (.object C) z (vs.set i v) d ∧ Fr n0 locs' ∧ Go p e below m W T' (pc + 1) L S := by
  obtain ⟨cl, A, q1, S1, q3, H, G⟩ := Va
  have hin := own_in S1 hz hj hj0 hi
  have F : Sto Z h a v := by
    rcases hv with rfl | ⟨y, rfl, I⟩
    · exact Or.inl rfl
    · exact Sto.of A (q1 ▸ O) I
  have hf : fits (.object C) v = true := by rcases hv with rfl | ⟨y, rfl, I⟩ <;> rfl
  obtain ⟨T', h', X', e', W', st⟩ := Jvm.RoadKit.stR X hx hZ eT A hin rfl F (g := mkF m pc L (v :: .int j :: .ref a :: S)) rfl rfl hd
  exact ⟨T', h', _, X', e', W', Arv.set A q1 S1 q3 H G hf W' i hj hi, Fr.snoc X' N g0, fun t kt => k t (st t kt)⟩
theorem Go.newP {aty : ArrayType} {n : Int32} {cap cells' slots' : Nat} (k : Go p e below m W T pc L (.int n :: S)) (X : Stand p l e R s m args below meth c T locs cells slots) (hx : p.tables.exec = Jvm.exec) (hZ : Z.Warmed39 s.vm) (w : (Cond.arrayClass (newarray.typeOf aty)).before a0 Z = true) (eT : T.heap = h) (hd : decode c.code pc = .ok (.newarray aty, 2)) (hn : ¬ n < 0) (hcap : n.toNatClampNeg ≤ cap) (hb : cap * 8 ≤ 536870912) (h1 : cells + 1 = cells') (h2 : slots + cap = slots') (h3 : cells' ≤ R.cells) (h4 : slots' ≤ R.slots) :
    ∃ T' h' b kc, Stand p l e R s m args below meth c T' locs cells' slots' ∧ T'.heap = h' ∧ b = h.size ∧ Ext h h' ∧ (∀ len, Arv Z h' b kc (newarray.typeOf aty) n (List.replicate len (defaultValue (newarray.typeOf aty))) (defaultValue (newarray.typeOf aty))) ∧ Go p e below m W T' (pc + 2) L (.ref b :: S) := by
  subst h1 h2
  obtain ⟨T', h', kc, X', e', E', A', st⟩ := Jvm.RoadKit.newP X hx hZ w eT (g := mkF m pc L (.int n :: S)) rfl hd rfl hn hcap hb h3 h4
  exact ⟨T', h', _, kc, X', e', rfl, E', fun len => (Arv.new A' hn).pad (pad_rep [] _ len), fun t kt => k t (st t kt)⟩
theorem Go.newR {own C : String} {index : Nat} {n : Int32} {cap cells' slots' : Nat} (k : Go p e below m W T pc L (.int n :: S)) (X : Stand p l e R s m args below meth c T locs cells slots) (hx : p.tables.exec = Jvm.exec) (hZ : Z.Warmed39 s.vm) (hown : s.vm.findClass own = some m.cls) (w1 : (Cond.classLink own index C).before a0 Z = true) (w2 : (Cond.arrayOver (.object C)).before a0 Z = true) (eT : T.heap = h) (hd : decode c.code pc = .ok (.anewarray index, 3)) (hn : ¬ n < 0) (hcap : n.toNatClampNeg ≤ cap) (hb : cap * 8 ≤ 536870912) (h1 : cells + 1 = cells') (h2 : slots + cap = slots') (h3 : cells' ≤ R.cells) (h4 : slots' ≤ R.slots) :
    ∃ T' h' b kc, Stand p l e R s m args below meth c T' locs cells' slots' ∧ T'.heap = h' ∧ b = h.size ∧ Ext h h' ∧ (∀ len, Arv Z h' b kc (.object C) n (List.replicate len .null) .null) ∧ Ovr Z kc C ∧ Go p e below m W T' (pc + 3) L (.ref b :: S) := by
  subst h1 h2
  obtain ⟨T', h', kc, X', e', E', A', O', st⟩ := Jvm.RoadKit.newR X hx hZ hown w1 w2 eT (g := mkF m pc L (.int n :: S)) rfl hd rfl hn hcap hb h3 h4
  exact ⟨T', h', _, kc, X', e', rfl, E', fun len => (Arv.new A' hn).pad (pad_rep [] _ len), O', fun t kt => k t (st t kt)⟩
theorem Go.arraylength {a : Addr} {kc : ClassId} {ty : FieldType} {z : Int32} {vs : List Value} {d : Value} (k : Go p e below m W T pc L (.ref a :: S)) (X : Stand p l e R s m args below meth c T locs cells slots) (hx : p.tables.exec = Jvm.exec) (hZ : Z.Warmed39 s.vm) (eT : T.heap = h) (Va : Arv Z h a kc ty z vs d) (hd : decode c.code pc = .ok (.arraylength, 1)) : Go p e below m W T (pc + 1) L (.int z :: S) := by
  obtain ⟨cl, A, q1, S1, q3, H, G⟩ := Va
  intro t kt
  refine k t (X.arraylength hx (cell := cl) (by rw [eT]; exact A.1) (State.isArrayOf_alike hZ.alike A.2.1) (g := mkF m pc L (.ref a :: S)) rfl (rest := S) rfl hd t ?_)
  rw [len_of S1 q3]
  exact kt

theorem Go.iaload {a : Addr} {kc : ClassId} {z j : Int32} {vs : List Value} {d v : Value} {i n : Nat}  (k : Go p e below m W T pc L (.int j :: .ref a :: S)) (X : Stand p l e R s m args below meth c T locs cells slots) (hx : p.tables.exec = Jvm.exec) (hZ : Z.Warmed39 s.vm) (eT : T.heap = h) (Va : Arv Z h a kc .int z vs d) (hz : z.toNatClampNeg = n) (hj : j.toNatClampNeg = i) (hj0 : ¬ j < 0) (hi : i < n) (hv : vs.getD i d = v) (hd : decode c.code pc = .ok (.iaload, 1)) : Go p e below m W T (pc + 1) L (v :: S) := by
  obtain ⟨cl, A, q1, S1, q3, H, G⟩ := Va
  have hin := own_in S1 hz hj hj0 hi
  subst hj
  exact fun t kt => k t (X.iaload hx (j := j) (v := v) (by rw [eT]; exact A.1) (State.isArrayOf_alike hZ.alike A.2.1) A.2.2 hin (Has.at H hin hv) (g := mkF m pc L (.int j :: .ref a :: S)) rfl rfl hd t kt)

theorem Go.laload {a : Addr} {kc : ClassId} {z j : Int32} {vs : List Value} {d v : Value} {i n : Nat}  (k : Go p e below m W T pc L (.int j :: .ref a :: S)) (X : Stand p l e R s m args below meth c T locs cells slots) (hx : p.tables.exec = Jvm.exec) (hZ : Z.Warmed39 s.vm) (eT : T.heap = h) (Va : Arv Z h a kc .long z vs d) (hz : z.toNatClampNeg = n) (hj : j.toNatClampNeg = i) (hj0 : ¬ j < 0) (hi : i < n) (hv : vs.getD i d = v) (hd : decode c.code pc = .ok (.laload, 1)) : Go p e below m W T (pc + 1) L (v :: S) := by
  obtain ⟨cl, A, q1, S1, q3, H, G⟩ := Va
  have hin := own_in S1 hz hj hj0 hi
  subst hj
  exact fun t kt => k t (X.laload hx (j := j) (v := v) (by rw [eT]; exact A.1) (State.isArrayOf_alike hZ.alike A.2.1) A.2.2 hin (Has.at H hin hv) (g := mkF m pc L (.int j :: .ref a :: S)) rfl rfl hd t kt)

theorem Go.caload {a : Addr} {kc : ClassId} {z j : Int32} {vs : List Value} {d v : Value} {i n : Nat}  (k : Go p e below m W T pc L (.int j :: .ref a :: S)) (X : Stand p l e R s m args below meth c T locs cells slots) (hx : p.tables.exec = Jvm.exec) (hZ : Z.Warmed39 s.vm) (eT : T.heap = h) (Va : Arv Z h a kc .char z vs d) (hz : z.toNatClampNeg = n) (hj : j.toNatClampNeg = i) (hj0 : ¬ j < 0) (hi : i < n) (hv : vs.getD i d = v) (hd : decode c.code pc = .ok (.caload, 1)) : Go p e below m W T (pc + 1) L (v :: S) := by
  obtain ⟨cl, A, q1, S1, q3, H, G⟩ := Va
  have hin := own_in S1 hz hj hj0 hi
  subst hj
  exact fun t kt => k t (X.caload hx (j := j) (v := v) (by rw [eT]; exact A.1) (State.isArrayOf_alike hZ.alike A.2.1) A.2.2 hin (Has.at H hin hv) (g := mkF m pc L (.int j :: .ref a :: S)) rfl rfl hd t kt)

theorem Go.aaload {a : Addr} {kc : ClassId} {z j : Int32} {vs : List Value} {d v : Value} {i n : Nat} {ty : FieldType} (k : Go p e below m W T pc L (.int j :: .ref a :: S)) (X : Stand p l e R s m args below meth c T locs cells slots) (hx : p.tables.exec = Jvm.exec) (hZ : Z.Warmed39 s.vm) (eT : T.heap = h) (Va : Arv Z h a kc ty z vs d) (hz : z.toNatClampNeg = n) (hj : j.toNatClampNeg = i) (hj0 : ¬ j < 0) (hi : i < n) (hv : vs.getD i d = v) (hty : ty.isReference = true) (hd : decode c.code pc = .ok (.aaload, 1)) : Go p e below m W T (pc + 1) L (v :: S) := by
  obtain ⟨cl, A, q1, S1, q3, H, G⟩ := Va
  have hin := own_in S1 hz hj hj0 hi
  subst hj
  exact fun t kt => k t (X.aaload hx (j := j) (v := v) (by rw [eT]; exact A.1) (State.isArrayOf_alike hZ.alike A.2.1) hty A.2.2 hin (Has.at H hin hv) (g := mkF m pc L (.int j :: .ref a :: S)) rfl rfl hd t kt)

theorem Go.baload {a : Addr} {kc : ClassId} {z j : Int32} {vs : List Value} {d v : Value} {i n : Nat}  (k : Go p e below m W T pc L (.int j :: .ref a :: S)) (X : Stand p l e R s m args below meth c T locs cells slots) (hx : p.tables.exec = Jvm.exec) (hZ : Z.Warmed39 s.vm) (eT : T.heap = h) (Va : Arv Z h a kc .byte z vs d) (hz : z.toNatClampNeg = n) (hj : j.toNatClampNeg = i) (hj0 : ¬ j < 0) (hi : i < n) (hv : vs.getD i d = v) (hd : decode c.code pc = .ok (.baload, 1)) : Go p e below m W T (pc + 1) L (v :: S) := by
  obtain ⟨cl, A, q1, S1, q3, H, G⟩ := Va
  have hin := own_in S1 hz hj hj0 hi
  subst hj
  exact fun t kt => k t (X.baloadBytes hx (j := j) (v := v) (by rw [eT]; exact A.1) (State.isArrayOf_alike hZ.alike A.2.1) A.2.2 hin (Has.at H hin hv) (g := mkF m pc L (.int j :: .ref a :: S)) rfl rfl hd t kt)

theorem Go.newPE {aty : ArrayType} {n : Int32} {cap cells' slots' : Nat} {ad : String} (k : Go p e below m W T pc L (.int n :: S)) (X : Stand p l e R s m args below meth c T locs cells slots) (hx : p.tables.exec = Jvm.exec) (hZ : Z.Warmed39 s.vm) (w : (Cond.arrayClass (newarray.typeOf aty)).before a0 Z = true) (eT : T.heap = h) (hd : decode c.code pc = .ok (.newarray aty, 2)) (hn : ¬ n < 0) (hcap : n.toNatClampNeg ≤ cap) (hb : cap * 8 ≤ 536870912) (h1 : cells + 1 = cells') (h2 : slots + cap = slots') (h3 : cells' ≤ R.cells) (h4 : slots' ≤ R.slots) (had : "[" ++ (newarray.typeOf aty).toString = ad) :
    ∃ T' h' b kc, Stand p l e R s m args below meth c T' locs cells' slots' ∧ T'.heap = h' ∧ b = h.size ∧ Ext h h' ∧ (∀ len, Arv Z h' b kc (newarray.typeOf aty) n (List.replicate len (defaultValue (newarray.typeOf aty))) (defaultValue (newarray.typeOf aty))) ∧ Exa Z h' b ad ∧ Go p e below m W T' (pc + 2) L (.ref b :: S) := by
  subst h1 h2
  obtain ⟨T', h', kc, X', e', E', A', Ex, st⟩ := Jvm.RoadKit.newPE X hx hZ w eT (g := mkF m pc L (.int n :: S)) rfl hd rfl hn hcap hb h3 h4 had
  exact ⟨T', h', _, kc, X', e', rfl, E', fun len => (Arv.new A' hn).pad (pad_rep [] _ len), Ex, fun t kt => k t (st t kt)⟩
theorem Go.newRE {own C : String} {index : Nat} {n : Int32} {cap cells' slots' : Nat} {ad : String} (k : Go p e below m W T pc L (.int n :: S)) (X : Stand p l e R s m args below meth c T locs cells slots) (hx : p.tables.exec = Jvm.exec) (hZ : Z.Warmed39 s.vm) (hown : s.vm.findClass own = some m.cls) (w1 : (Cond.classLink own index C).before a0 Z = true) (w2 : (Cond.arrayOver (.object C)).before a0 Z = true) (eT : T.heap = h) (hd : decode c.code pc = .ok (.anewarray index, 3)) (hn : ¬ n < 0) (hcap : n.toNatClampNeg ≤ cap) (hb : cap * 8 ≤ 536870912) (h1 : cells + 1 = cells') (h2 : slots + cap = slots') (h3 : cells' ≤ R.cells) (h4 : slots' ≤ R.slots) (had : "[" ++ (FieldType.object C).toString = ad) :
    ∃ T' h' b kc, Stand p l e R s m args below meth c T' locs cells' slots' ∧ T'.heap = h' ∧ b = h.size ∧ Ext h h' ∧ (∀ len, Arv Z h' b kc (.object C) n (List.replicate len .null) .null) ∧ Ovr Z kc C ∧ Exa Z h' b ad ∧ Go p e below m W T' (pc + 3) L (.ref b :: S) := by
  subst h1 h2
  obtain ⟨T', h', kc, X', e', E', A', Ex, O', st⟩ := Jvm.RoadKit.newRE X hx hZ hown w1 w2 eT (g := mkF m pc L (.int n :: S)) rfl hd rfl hn hcap hb h3 h4 had
  exact ⟨T', h', _, kc, X', e', rfl, E', fun len => (Arv.new A' hn).pad (pad_rep [] _ len), O', Ex, fun t kt => k t (st t kt)⟩
theorem Go.newRA {own C : String} {ty : FieldType} {index : Nat} {n : Int32} {cap cells' slots' : Nat} {ad : String} (k : Go p e below m W T pc L (.int n :: S)) (X : Stand p l e R s m args below meth c T locs cells slots) (hx : p.tables.exec = Jvm.exec) (hZ : Z.Warmed39 s.vm) (hown : s.vm.findClass own = some m.cls) (hC : (FieldType.array ty).toString = C) (w1 : (Cond.classLink own index C).before a0 Z = true) (w2 : (Cond.arrayOver (.array ty)).before a0 Z = true) (eT : T.heap = h) (hd : decode c.code pc = .ok (.anewarray index, 3)) (hn : ¬ n < 0) (hcap : n.toNatClampNeg ≤ cap) (hb : cap * 8 ≤ 536870912) (h1 : cells + 1 = cells') (h2 : slots + cap = slots') (h3 : cells' ≤ R.cells) (h4 : slots' ≤ R.slots) (had : "[" ++ C = ad) :
    ∃ T' h' b kc, Stand p l e R s m args below meth c T' locs cells' slots' ∧ T'.heap = h' ∧ b = h.size ∧ Ext h h' ∧ (∀ len, Arv Z h' b kc (.array ty) n (List.replicate len .null) .null) ∧ OvrA Z kc ty C ∧ Exa Z h' b ad ∧ Go p e below m W T' (pc + 3) L (.ref b :: S) := by
  subst h1 h2
  obtain ⟨T', h', kc, X', e', E', A', Ex, O', st⟩ := Jvm.RoadKit.newRA X hx hZ hown hC w1 w2 eT (g := mkF m pc L (.int n :: S)) rfl hd rfl hn hcap hb h3 h4 had
  exact ⟨T', h', _, kc, X', e', rfl, E', fun len => (Arv.new A' hn).pad (pad_rep [] _ len), O', Ex, fun t kt => k t (st t kt)⟩
theorem Go.aastoreA {a : Addr} {kc : ClassId} {C : String} {ty : FieldType} {z j : Int32} {vs : List Value} {d v : Value} {i : Nat} {n0 : Nat} (k : Go p e below m W T pc L (v :: .int j :: .ref a :: S)) (X : Stand p l e R s m args below meth c T locs cells slots) (hx : p.tables.exec = Jvm.exec) (hZ : Z.Warmed39 s.vm) (eT : T.heap = h) (Va : Arv Z h a kc (.array ty) z vs d) (O : OvrA Z kc ty C) (hv : v = .null ∨ ∃ y, v = .ref y ∧ Ins Z h y C true) (hz : z.toNatClampNeg = vs.length) (hj : j.toNatClampNeg = i) (hj0 : ¬ j < 0) (hi : i < vs.length) (N : Fr n0 locs) (g0 : n0 ≤ a) (hd : decode c.code pc = .ok (.aastore, 1)) :
    ∃ T' h' locs', Stand p l e R s m args below meth c T' locs' cells slots ∧ T'.heap = h' ∧ Wr h h' a j.toNatClampNeg v ∧ Arv Z h' a kc (.array ty) z (vs.set i v) d ∧ Fr n0 locs' ∧ Go p e below m W T' (pc + 1) L S := by
  obtain ⟨cl, A, q1, S1, q3, H, G⟩ := Va
  have hin := own_in S1 hz hj hj0 hi
  have F : Sto Z h a v := by
    rcases hv with rfl | ⟨y, rfl, I⟩
    · exact Or.inl rfl
    · exact Sto.ofVA A q1 O I
  have hf : fits (.array ty) v = true := by rcases hv with rfl | ⟨y, rfl, I⟩ <;> rfl
  obtain ⟨T', h', X', e', W', st⟩ := Jvm.RoadKit.stR X hx hZ eT A hin rfl F (g := mkF m pc L (v :: .int j :: .ref a :: S)) rfl rfl hd
  exact ⟨T', h', _, X', e', W', Arv.set A q1 S1 q3 H G hf W' i hj hi, Fr.snoc X' N g0, fun t kt => k t (st t kt)⟩
end OwnKit

theorem own_eqi {args : Array Value} {first s : State} {o : Option Outcome} {idx : List Nat} {a : Term} {n : Int32} (h : (Cond.eq a (Term.int n)).value args first o s idx = some true) : a.eval args first o idx s = some (.int n) := by
  obtain ⟨x, y, h1, h2, -, -⟩ := cmp_v (Or.inl h)
  have e2 : (Term.int n).eval args first o idx s = some (.int n) := Term.int_eval n
  cases h2.symm.trans e2
  cases x <;> simp [Cond.value, h1, e2] at h
  rw [h1, h]
theorem own_eqr {args : Array Value} {first s : State} {o : Option Outcome} {idx : List Nat} {a b : Term} {y : Addr} (h : (Cond.eq a b).value args first o s idx = some true) (hb : b.eval args first o idx s = some (.ref y)) : a.eval args first o idx s = some (.ref y) := by
  obtain ⟨x, z, h1, h2, -, -⟩ := cmp_v (Or.inl h)
  cases h2.symm.trans hb
  cases x <;> simp [Cond.value, h1, hb] at h
  rw [h1, h]
theorem own_ne {Z : State} {h : Heap} {a b : Addr} {C n d : String} {v w : Value} (F : Fld Z h a C n d v) (G : Fld Z h b C n d w) (q : v ≠ w) : a ≠ b := by
  intro e
  subst e
  obtain ⟨c1, cf1, k1, i1, f1, h1, h2, -, -, -, -, h7⟩ := F
  obtain ⟨c2, cf2, k2, i2, f2, g1, g2, -, -, -, -, g7⟩ := G
  cases h1.symm.trans g1
  cases h2.symm.trans g2
  exact q (Option.some.inj (h7.symm.trans g7))
theorem own_nz {x : Int32} (h : x = 0 ∨ x = 1) : narrow .boolean (.int x) = .int x ∧ fits .boolean (.int x) = true ∧ nar .boolean x = x := by rcases h with rfl | rfl <;> exact ⟨rfl, rfl, rfl⟩
theorem own_nref {v : Value} {C : String} (h : v.isRef = true) : narrow (.object C) v = v := by cases v <;> first | rfl | simp [Value.isRef] at h
theorem own_fref {v : Value} {C : String} (h : v.isRef = true) : fits (.object C) v = true := by cases v <;> first | rfl | simp [Value.isRef] at h
theorem own_01 {x : Int32} {P : Prop} (h : (P ∧ x = (0 : Int32)) ∨ (¬ P ∧ x = (1 : Int32))) : x = 0 ∨ x = 1 := h.imp And.right And.right
theorem own_10 {x : Int32} {P : Prop} (h : (P ∧ x = (1 : Int32)) ∨ (¬ P ∧ x = (0 : Int32))) : x = 0 ∨ x = 1 := h.symm.imp And.right And.right

theorem own_mask (x : Int32) : 0 ≤ (x &&& (2147483647 : Int32)).toInt := (c_andS x 2147483647).2.2 (by decide)
theorem own_rem {x y : Int32} (hx : 0 ≤ x.toInt) (hy : 0 < y.toInt) : 0 ≤ (x % y).toInt ∧ (x % y).toInt < y.toInt := ⟨((c_iremV x y).1 hx hy).1, ((c_iremV x y).1 hx hy).2.1⟩
theorem own_i {x : Int32} {n : Int} (y : Int32) (h : x.toInt = n) (hy : y.toInt = n) : x = y := Int32.toInt_inj.mp (h.trans hy.symm)

theorem d_rmp_0 : decode method_2_code 0 = .ok (.iload_n 0, 1) := by decide +kernel
theorem d_rmp_1 : decode method_2_code 1 = .ok (.iconst 3, 1) := by decide +kernel
theorem d_rmp_2 : decode method_2_code 2 = .ok (.iand, 1) := by decide +kernel
theorem d_rmp_3 : decode method_2_code 3 = .ok (.istore_n 1, 1) := by decide +kernel
theorem d_rmp_4 : decode method_2_code 4 = .ok (.iload_n 1, 1) := by decide +kernel
theorem d_rmp_5 : decode method_2_code 5 = .ok (.ifCond .ne 10, 3) := by decide +kernel
theorem d_rmp_8 : decode method_2_code 8 = .ok (.getstatic 7, 3) := by decide +kernel
theorem d_rmp_11 : decode method_2_code 11 = .ok (.astore_n 2, 1) := by decide +kernel
theorem d_rmp_12 : decode method_2_code 12 = .ok (.goto 31, 3) := by decide +kernel
theorem d_rmp_15 : decode method_2_code 15 = .ok (.iload_n 1, 1) := by decide +kernel
theorem d_rmp_16 : decode method_2_code 16 = .ok (.iconst 1, 1) := by decide +kernel
theorem d_rmp_17 : decode method_2_code 17 = .ok (.if_icmp .ne 10, 3) := by decide +kernel
theorem d_rmp_20 : decode method_2_code 20 = .ok (.getstatic 13, 3) := by decide +kernel
theorem d_rmp_23 : decode method_2_code 23 = .ok (.astore_n 2, 1) := by decide +kernel
theorem d_rmp_24 : decode method_2_code 24 = .ok (.goto 19, 3) := by decide +kernel
theorem d_rmp_27 : decode method_2_code 27 = .ok (.iload_n 1, 1) := by decide +kernel
theorem d_rmp_28 : decode method_2_code 28 = .ok (.iconst 2, 1) := by decide +kernel
theorem d_rmp_29 : decode method_2_code 29 = .ok (.if_icmp .ne 10, 3) := by decide +kernel
theorem d_rmp_32 : decode method_2_code 32 = .ok (.getstatic 16, 3) := by decide +kernel
theorem d_rmp_35 : decode method_2_code 35 = .ok (.astore_n 2, 1) := by decide +kernel
theorem d_rmp_36 : decode method_2_code 36 = .ok (.goto 7, 3) := by decide +kernel
theorem d_rmp_39 : decode method_2_code 39 = .ok (.getstatic 19, 3) := by decide +kernel
theorem d_rmp_42 : decode method_2_code 42 = .ok (.astore_n 2, 1) := by decide +kernel
theorem d_rmp_43 : decode method_2_code 43 = .ok (.aload_n 2, 1) := by decide +kernel
theorem d_rmp_44 : decode method_2_code 44 = .ok (.areturn, 1) := by decide +kernel
theorem pn_rmp : plainName "com/example/dress/dress/layout/DirectionDrawnSizePinLaw" = true := by first | (simp [plainName, overriddenIn]; done) | decide +kernel
theorem ef_rmp (m : MethodId) (p1 : Int32) : entryFrame m #[(.int p1)] 3 = mkF m 0 #[.val (.int p1), .unset, .unset] [] := by first | (simp [entryFrame, mkF, argsToLocals, Value.category]; done) | rfl
def Q_rmp (Z : State) (p1 : Int32) (w0 : Addr) (w1 : Addr) (w2 : Addr) (w3 : Addr) (h0 : Heap) (n0 : Nat) (v : Option Value) (h : Heap) (L : List Loc) : Prop := ∃ (ro : Addr), v = some (.ref ro) ∧ Fr n0 L ∧ h = h0 ∧ (ro = w0 ∨ ro = w1 ∨ ro = w2 ∨ ro = w3)
set_option maxRecDepth 65536 in
set_option maxHeartbeats 40000000 in
theorem rmp (l : Launch) (Z : State) (a0 : Array Value) (hw : ∀ d ∈ tables_1, d.before a0 Z = true) (ws : List Jvm.Cond) (p1 : Int32) (w0 : Addr) (w1 : Addr) (w2 : Addr) (w3 : Addr) (h0 : Heap) (n0 : Nat) (Z0 : n0 ≤ h0.size) (S0 : Sta Z h0 "com/example/dress/dress/layout/Direction" "TOP_TO_BOTTOM" "Lcom/example/dress/dress/layout/Direction;" (.ref w0)) (S1 : Sta Z h0 "com/example/dress/dress/layout/Direction" "LEFT_TO_RIGHT" "Lcom/example/dress/dress/layout/Direction;" (.ref w1)) (S2 : Sta Z h0 "com/example/dress/dress/layout/Direction" "BOTTOM_TO_TOP" "Lcom/example/dress/dress/layout/Direction;" (.ref w2)) (S3 : Sta Z h0 "com/example/dress/dress/layout/Direction" "RIGHT_TO_LEFT" "Lcom/example/dress/dress/layout/Direction;" (.ref w3)) :
    MetFree l (⟨"com/example/dress/dress/layout/DirectionDrawnSizePinLaw", "pick", "(I)Lcom/example/dress/dress/layout/Direction;"⟩ : MethodName) (head1 (Jvm.Cond.code (⟨"com/example/dress/dress/layout/DirectionDrawnSizePinLaw", "pick", "(I)Lcom/example/dress/dress/layout/Direction;"⟩ : MethodName) method_2_code 3 (some (.object "com/example/dress/dress/layout/Direction")) :: ws) ({ frames := 0, cells := 0, slots := 0, locals := 0 } : Room)) (fun a U => a = #[(.int p1)] ∧ Z.Warmed39 U.vm ∧ U.heap = h0) (fun _ _ _ _ _ => True) (fun _ U o U' => ∃ v L, o = .returned v ∧ Q_rmp Z p1 w0 w1 w2 w3 h0 n0 v U'.heap L ∧ FrameEnd U o U' L ({ frames := 0, cells := 0, slots := 0, locals := 0 } : Room).cells ({ frames := 0, cells := 0, slots := 0, locals := 0 } : Room).slots) := by
  refine MetFree.of_bodySF (plainFor_of_name pn_rmp) hisR ?_
  intro p e s m args_ below meth c s₁ Bd hml0 hP hK
  obtain ⟨hargs, hZ, hh⟩ := hP
  have hx := Bd.exec
  have hby := Bd.bytes
  have hml : c.maxLocals = 3 := hml0
  have hown : s.vm.findClass "com/example/dress/dress/layout/DirectionDrawnSizePinLaw" = some m.cls := findClass_of_methodNamed Bd.named
  have hnm := (name_of_methodNamed Bd.named Bd.method).1
  have X0 : Stand p l e ({ frames := 0, cells := 0, slots := 0, locals := 0 } : Room) s m args_ below meth c s₁ [] 0 0 := Stand.of_body Bd
  have e0 : s₁.heap = h0 := by rw [← hh, Bd.state]; rfl
  have N0 := Fr.nil n0
  have hv : ∀ (i : Nat) {d : Jvm.Cond}, tables_1[i]? = some d → d.before a0 Z = true := fun i d q => hw d (List.mem_of_getElem? q)
  have k0 : Go p e below m (s₁.setTop (entryFrame m args_ 3)) s₁ 0 #[.val (.int p1), .unset, .unset] [] := by rw [hargs]; exact fun t kt => castTop (ef_rmp m p1) kt
  obtain ⟨W, hWW⟩ : ∃ W, W = s₁.setTop (entryFrame m args_ 3) := ⟨_, rfl⟩
  rw [← hWW] at k0 ⊢
  show Done p e below s W (Q_rmp Z p1 w0 w1 w2 w3 h0 n0) ({ frames := 0, cells := 0, slots := 0, locals := 0 } : Room).cells ({ frames := 0, cells := 0, slots := 0, locals := 0 } : Room).slots
  have k1 : Go p e below m W s₁ 4 #[.val (.int p1), .val (.int (p1 &&& (3 : Int32))), .unset] [] := (((k0.iloadN X0 hx (hb hby d_rmp_0) rfl).iconst X0 hx (hb hby d_rmp_1) (v := (3 : Int32)) rfl).iand X0 hx (hb hby d_rmp_2)).istoreN X0 hx (hb hby d_rmp_3) rfl
  have k2 : Go p e below m W s₁ 5 #[.val (.int p1), .val (.int (p1 &&& (3 : Int32))), .unset] [(.int (p1 &&& (3 : Int32)))] := k1.iloadN X0 hx (hb hby d_rmp_4) rfl
  by_cases hc5_3 : (p1 &&& (3 : Int32)) = (0 : Int32)
  ·
    have k4 : Go p e below m W s₁ 8 #[.val (.int p1), .val (.int (p1 &&& (3 : Int32))), .unset] [] := k2.ifNo X0 hx (hb hby d_rmp_5) (XT.i0_ne_f hc5_3)
    obtain ⟨T5, X5, e5, k5⟩ := k4.getS X0 hx hZ hown (host := "") (Or.inl (hv 4 rfl)) Via.refl e0 S0 (hb hby d_rmp_8)
    have k5 : Go p e below m W T5 11 #[.val (.int p1), .val (.int (p1 &&& (3 : Int32))), .unset] [(.ref w0)] := k5
    have k6 : Go p e below m W T5 12 #[.val (.int p1), .val (.int (p1 &&& (3 : Int32))), .val (.ref w0)] [] := k5.astoreN X5 hx (hb hby d_rmp_11) rfl rfl
    have k7 : Go p e below m W T5 44 #[.val (.int p1), .val (.int (p1 &&& (3 : Int32))), .val (.ref w0)] [(.ref w0)] := (k6.goto X5 hx (hb hby d_rmp_12) (by decide) (by decide)).aloadN X5 hx (hb hby d_rmp_43) rfl rfl
    exact k7.areturn X5 hx Bd.returns rfl rfl (hb hby d_rmp_44) (BodyLoose.notSynchronized Bd) (by rw [e5]; exact ⟨w0, rfl, N0, rfl, (Or.inl rfl)⟩) (by decide) (by decide)
  ·
    have k8 : Go p e below m W s₁ 17 #[.val (.int p1), .val (.int (p1 &&& (3 : Int32))), .unset] [(.int (1 : Int32)), (.int (p1 &&& (3 : Int32)))] := ((k2.ifYes X0 hx (hb hby d_rmp_5) (XT.i0_ne_t hc5_3) (by decide) (by decide)).iloadN X0 hx (hb hby d_rmp_15) rfl).iconst X0 hx (hb hby d_rmp_16) (v := (1 : Int32)) rfl
    by_cases hc17_9 : (p1 &&& (3 : Int32)) = (1 : Int32)
    ·
      have k10 : Go p e below m W s₁ 20 #[.val (.int p1), .val (.int (p1 &&& (3 : Int32))), .unset] [] := k8.icmpNo X0 hx (hb hby d_rmp_17) (XT.ii_ne_f hc17_9)
      obtain ⟨T11, X11, e11, k11⟩ := k10.getS X0 hx hZ hown (host := "") (Or.inl (hv 7 rfl)) Via.refl e0 S1 (hb hby d_rmp_20)
      have k11 : Go p e below m W T11 23 #[.val (.int p1), .val (.int (p1 &&& (3 : Int32))), .unset] [(.ref w1)] := k11
      have k12 : Go p e below m W T11 24 #[.val (.int p1), .val (.int (p1 &&& (3 : Int32))), .val (.ref w1)] [] := k11.astoreN X11 hx (hb hby d_rmp_23) rfl rfl
      have k13 : Go p e below m W T11 44 #[.val (.int p1), .val (.int (p1 &&& (3 : Int32))), .val (.ref w1)] [(.ref w1)] := (k12.goto X11 hx (hb hby d_rmp_24) (by decide) (by decide)).aloadN X11 hx (hb hby d_rmp_43) rfl rfl
      exact k13.areturn X11 hx Bd.returns rfl rfl (hb hby d_rmp_44) (BodyLoose.notSynchronized Bd) (by rw [e11]; exact ⟨w1, rfl, N0, rfl, (Or.inr (Or.inl rfl))⟩) (by decide) (by decide)
    ·
      have k14 : Go p e below m W s₁ 29 #[.val (.int p1), .val (.int (p1 &&& (3 : Int32))), .unset] [(.int (2 : Int32)), (.int (p1 &&& (3 : Int32)))] := ((k8.icmpYes X0 hx (hb hby d_rmp_17) (XT.ii_ne_t hc17_9) (by decide) (by decide)).iloadN X0 hx (hb hby d_rmp_27) rfl).iconst X0 hx (hb hby d_rmp_28) (v := (2 : Int32)) rfl
      by_cases hc29_15 : (p1 &&& (3 : Int32)) = (2 : Int32)
      ·
        have k16 : Go p e below m W s₁ 32 #[.val (.int p1), .val (.int (p1 &&& (3 : Int32))), .unset] [] := k14.icmpNo X0 hx (hb hby d_rmp_29) (XT.ii_ne_f hc29_15)
        obtain ⟨T17, X17, e17, k17⟩ := k16.getS X0 hx hZ hown (host := "") (Or.inl (hv 29 rfl)) Via.refl e0 S2 (hb hby d_rmp_32)
        have k17 : Go p e below m W T17 35 #[.val (.int p1), .val (.int (p1 &&& (3 : Int32))), .unset] [(.ref w2)] := k17
        have k18 : Go p e below m W T17 36 #[.val (.int p1), .val (.int (p1 &&& (3 : Int32))), .val (.ref w2)] [] := k17.astoreN X17 hx (hb hby d_rmp_35) rfl rfl
        have k19 : Go p e below m W T17 44 #[.val (.int p1), .val (.int (p1 &&& (3 : Int32))), .val (.ref w2)] [(.ref w2)] := (k18.goto X17 hx (hb hby d_rmp_36) (by decide) (by decide)).aloadN X17 hx (hb hby d_rmp_43) rfl rfl
        exact k19.areturn X17 hx Bd.returns rfl rfl (hb hby d_rmp_44) (BodyLoose.notSynchronized Bd) (by rw [e17]; exact ⟨w2, rfl, N0, rfl, (Or.inr (Or.inr (Or.inl rfl)))⟩) (by decide) (by decide)
      ·
        have k20 : Go p e below m W s₁ 39 #[.val (.int p1), .val (.int (p1 &&& (3 : Int32))), .unset] [] := k14.icmpYes X0 hx (hb hby d_rmp_29) (XT.ii_ne_t hc29_15) (by decide) (by decide)
        obtain ⟨T21, X21, e21, k21⟩ := k20.getS X0 hx hZ hown (host := "") (Or.inl (hv 9 rfl)) Via.refl e0 S3 (hb hby d_rmp_39)
        have k21 : Go p e below m W T21 42 #[.val (.int p1), .val (.int (p1 &&& (3 : Int32))), .unset] [(.ref w3)] := k21
        have k22 : Go p e below m W T21 43 #[.val (.int p1), .val (.int (p1 &&& (3 : Int32))), .val (.ref w3)] [] := k21.astoreN X21 hx (hb hby d_rmp_42) rfl rfl
        have k23 : Go p e below m W T21 44 #[.val (.int p1), .val (.int (p1 &&& (3 : Int32))), .val (.ref w3)] [(.ref w3)] := k22.aloadN X21 hx (hb hby d_rmp_43) rfl rfl
        exact k23.areturn X21 hx Bd.returns rfl rfl (hb hby d_rmp_44) (BodyLoose.notSynchronized Bd) (by rw [e21]; exact ⟨w3, rfl, N0, rfl, (Or.inr (Or.inr (Or.inr rfl)))⟩) (by decide) (by decide)

theorem d_rmd0_0 : decode prog_89_method_9_code 0 = .ok (.aload_n 0, 1) := by decide +kernel
theorem d_rmd0_1 : decode prog_89_method_9_code 1 = .ok (.getfield 39, 3) := by decide +kernel
theorem d_rmd0_4 : decode prog_89_method_9_code 4 = .ok (.ifCond .eq 17, 3) := by decide +kernel
theorem d_rmd0_21 : decode prog_89_method_9_code 21 = .ok (.iconst 2, 1) := by decide +kernel
theorem d_rmd0_22 : decode prog_89_method_9_code 22 = .ok (.newarray .int, 2) := by decide +kernel
theorem d_rmd0_24 : decode prog_89_method_9_code 24 = .ok (.dup, 1) := by decide +kernel
theorem d_rmd0_25 : decode prog_89_method_9_code 25 = .ok (.iconst 0, 1) := by decide +kernel
theorem d_rmd0_26 : decode prog_89_method_9_code 26 = .ok (.iload_n 1, 1) := by decide +kernel
theorem d_rmd0_27 : decode prog_89_method_9_code 27 = .ok (.iastore, 1) := by decide +kernel
theorem d_rmd0_28 : decode prog_89_method_9_code 28 = .ok (.dup, 1) := by decide +kernel
theorem d_rmd0_29 : decode prog_89_method_9_code 29 = .ok (.iconst 1, 1) := by decide +kernel
theorem d_rmd0_30 : decode prog_89_method_9_code 30 = .ok (.iload_n 2, 1) := by decide +kernel
theorem d_rmd0_31 : decode prog_89_method_9_code 31 = .ok (.iastore, 1) := by decide +kernel
theorem d_rmd0_32 : decode prog_89_method_9_code 32 = .ok (.areturn, 1) := by decide +kernel
theorem pn_rmd0 : plainName "com/example/dress/dress/layout/Direction" = true := by first | (simp [plainName, overriddenIn]; done) | decide +kernel
theorem ef_rmd0 (m : MethodId) (a1 : Addr) (p2 : Int32) (p3 : Int32) : entryFrame m #[(.ref a1), (.int p2), (.int p3)] 3 = mkF m 0 #[.val (.ref a1), .val (.int p2), .val (.int p3)] [] := by first | (simp [entryFrame, mkF, argsToLocals, Value.category]; done) | rfl
def Q_rmd0 (Z : State) (a1 : Addr) (p2 : Int32) (p3 : Int32) (h0 : Heap) (n0 : Nat) (v : Option Value) (h : Heap) (L : List Loc) : Prop := ∃ (ob : Addr) (ok : ClassId), v = some (.ref ob) ∧ Fr n0 L ∧ Keep h0 h [] ∧ Arv Z h ob ok .int (2 : Int32) [(.int p2), (.int p3)] (.int (0 : Int32)) ∧ n0 ≤ ob ∧ h0.size ≤ ob
set_option maxRecDepth 65536 in
set_option maxHeartbeats 40000000 in
theorem rmd0 (l : Launch) (Z : State) (a0 : Array Value) (hw : ∀ d ∈ tables_1, d.before a0 Z = true) (ws : List Jvm.Cond) (a1 : Addr) (p2 : Int32) (p3 : Int32) (h0 : Heap) (n0 : Nat) (Z0 : n0 ≤ h0.size) (F1 : Fld Z h0 a1 "com/example/dress/dress/layout/Direction" "turned" "Z" (.int (0 : Int32))) :
    MetFree l (⟨"com/example/dress/dress/layout/Direction", "drawnSize", "(II)[I"⟩ : MethodName) (head1 (Jvm.Cond.code (⟨"com/example/dress/dress/layout/Direction", "drawnSize", "(II)[I"⟩ : MethodName) prog_89_method_9_code 3 (some (.array .int)) :: ws) ({ frames := 0, cells := 1, slots := 2, locals := 0 } : Room)) (fun a U => a = #[(.ref a1), (.int p2), (.int p3)] ∧ Z.Warmed39 U.vm ∧ U.heap = h0) (fun _ _ _ _ _ => True) (fun _ U o U' => ∃ v L, o = .returned v ∧ Q_rmd0 Z a1 p2 p3 h0 n0 v U'.heap L ∧ FrameEnd U o U' L ({ frames := 0, cells := 1, slots := 2, locals := 0 } : Room).cells ({ frames := 0, cells := 1, slots := 2, locals := 0 } : Room).slots) := by
  refine MetFree.of_bodySF (plainFor_of_name pn_rmd0) hisR ?_
  intro p e s m args_ below meth c s₁ Bd hml0 hP hK
  obtain ⟨hargs, hZ, hh⟩ := hP
  have hx := Bd.exec
  have hby := Bd.bytes
  have hml : c.maxLocals = 3 := hml0
  have hown : s.vm.findClass "com/example/dress/dress/layout/Direction" = some m.cls := findClass_of_methodNamed Bd.named
  have hnm := (name_of_methodNamed Bd.named Bd.method).1
  have X0 : Stand p l e ({ frames := 0, cells := 1, slots := 2, locals := 0 } : Room) s m args_ below meth c s₁ [] 0 0 := Stand.of_body Bd
  have e0 : s₁.heap = h0 := by rw [← hh, Bd.state]; rfl
  have N0 := Fr.nil n0
  have hv : ∀ (i : Nat) {d : Jvm.Cond}, tables_1[i]? = some d → d.before a0 Z = true := fun i d q => hw d (List.mem_of_getElem? q)
  have K0 : Keep h0 h0 [] := Keep.refl _ _
  have k0 : Go p e below m (s₁.setTop (entryFrame m args_ 3)) s₁ 0 #[.val (.ref a1), .val (.int p2), .val (.int p3)] [] := by rw [hargs]; exact fun t kt => castTop (ef_rmd0 m a1 p2 p3) kt
  obtain ⟨W, hWW⟩ : ∃ W, W = s₁.setTop (entryFrame m args_ 3) := ⟨_, rfl⟩
  rw [← hWW] at k0 ⊢
  show Done p e below s W (Q_rmd0 Z a1 p2 p3 h0 n0) ({ frames := 0, cells := 1, slots := 2, locals := 0 } : Room).cells ({ frames := 0, cells := 1, slots := 2, locals := 0 } : Room).slots
  have k1 : Go p e below m W s₁ 1 #[.val (.ref a1), .val (.int p2), .val (.int p3)] [(.ref a1)] := k0.aloadN X0 hx (hb hby d_rmd0_0) rfl rfl
  obtain ⟨T2, X2, e2, k2⟩ := k1.getF X0 hx hZ hown (host := "") (Or.inl (hv 16 rfl)) Via.refl e0 F1 (hb hby d_rmd0_1)
  have k2 : Go p e below m W T2 4 #[.val (.ref a1), .val (.int p2), .val (.int p3)] [(.int (0 : Int32))] := k2
  have k3 : Go p e below m W T2 22 #[.val (.ref a1), .val (.int p2), .val (.int p3)] [(.int (2 : Int32))] := (k2.ifYes X2 hx (hb hby d_rmd0_4) (XT.i0_eq_t (by decide)) (by decide) (by decide)).iconst X2 hx (hb hby d_rmd0_21) (v := (2 : Int32)) rfl
  obtain ⟨T4, h4, b4, c4, X4, e4, g4, E4, A4, k4⟩ := k3.newP (cap := 2) (cells' := 1) (slots' := 2) X2 hx hZ (hv 18 rfl) e2 (hb hby d_rmd0_22) (by decide) (by decide) (by decide) rfl rfl (by decide) (by decide)
  have k4 : Go p e below m W T4 24 #[.val (.ref a1), .val (.int p2), .val (.int p3)] [(.ref b4)] := k4
  have Z4 : n0 ≤ h4.size := Nat.le_trans Z0 E4.1
  have ne4_a1 : a1 ≠ b4 := Nat.ne_of_lt (g4 ▸ F1.lt)
  have f5 := F1.ext E4
  have G4 : n0 ≤ b4 := g4 ▸ Z0
  have H4 : h0.size ≤ b4 := g4 ▸ K0.1
  have K4 : Keep h0 h4 [] := K0.ext E4
  have V4 : Arv Z h4 b4 c4 .int (2 : Int32) [(.int (0 : Int32)), (.int (0 : Int32))] (.int (0 : Int32)) := A4 2
  have k6 : Go p e below m W T4 27 #[.val (.ref a1), .val (.int p2), .val (.int p3)] [(.int p2), (.int (0 : Int32)), (.ref b4), (.ref b4)] := ((k4.dup X4 hx (hb hby d_rmd0_24) rfl).iconst X4 hx (hb hby d_rmd0_25) (v := (0 : Int32)) rfl).iloadN X4 hx (hb hby d_rmd0_26) rfl
  obtain ⟨T7, h7, l7, X7, e7, W7, V7, N7, k7⟩ := k6.iastore (i := 0) X4 hx hZ e4 V4 rfl rfl (by decide) (Nat.le_of_ble_eq_true rfl) N0 G4 (hb hby d_rmd0_27)
  have k7 : Go p e below m W T7 28 #[.val (.ref a1), .val (.int p2), .val (.int p3)] [(.ref b4)] := k7
  have Z7 : n0 ≤ h7.size := (Wr.size W7).symm ▸ Z4
  have f8 := f5.other W7 (Or.inl ne4_a1)
  have V7 : Arv Z h7 b4 c4 .int (2 : Int32) [(.int p2), (.int (0 : Int32))] (.int (0 : Int32)) := V7
  have K7 : Keep h0 h7 [] := K4.wr W7 (Or.inr H4)
  have k9 : Go p e below m W T7 31 #[.val (.ref a1), .val (.int p2), .val (.int p3)] [(.int p3), (.int (1 : Int32)), (.ref b4), (.ref b4)] := ((k7.dup X7 hx (hb hby d_rmd0_28) rfl).iconst X7 hx (hb hby d_rmd0_29) (v := (1 : Int32)) rfl).iloadN X7 hx (hb hby d_rmd0_30) rfl
  obtain ⟨T10, h10, l10, X10, e10, W10, V10, N10, k10⟩ := k9.iastore (i := 1) X7 hx hZ e7 V7 rfl rfl (by decide) (Nat.le_of_ble_eq_true rfl) N7 G4 (hb hby d_rmd0_31)
  have k10 : Go p e below m W T10 32 #[.val (.ref a1), .val (.int p2), .val (.int p3)] [(.ref b4)] := k10
  have Z10 : n0 ≤ h10.size := (Wr.size W10).symm ▸ Z7
  have f11 := f8.other W10 (Or.inl ne4_a1)
  have V10 : Arv Z h10 b4 c4 .int (2 : Int32) [(.int p2), (.int p3)] (.int (0 : Int32)) := V10
  have K10 : Keep h0 h10 [] := K7.wr W10 (Or.inr H4)
  exact k10.areturn X10 hx Bd.returns rfl rfl (hb hby d_rmd0_32) (BodyLoose.notSynchronized Bd) (by rw [e10]; exact ⟨b4, c4, rfl, N10, K10, V10, G4, H4⟩) (by decide) (by decide)

theorem d_rmal0_0 : decode prog_89_method_5_code 0 = .ok (.aload_n 0, 1) := by decide +kernel
theorem d_rmal0_1 : decode prog_89_method_5_code 1 = .ok (.getfield 39, 3) := by decide +kernel
theorem d_rmal0_4 : decode prog_89_method_5_code 4 = .ok (.ifCond .eq 7, 3) := by decide +kernel
theorem d_rmal0_11 : decode prog_89_method_5_code 11 = .ok (.iload_n 1, 1) := by decide +kernel
theorem d_rmal0_12 : decode prog_89_method_5_code 12 = .ok (.ireturn, 1) := by decide +kernel
theorem pn_rmal0 : plainName "com/example/dress/dress/layout/Direction" = true := by first | (simp [plainName, overriddenIn]; done) | decide +kernel
theorem ef_rmal0 (m : MethodId) (a1 : Addr) (p2 : Int32) (p3 : Int32) : entryFrame m #[(.ref a1), (.int p2), (.int p3)] 3 = mkF m 0 #[.val (.ref a1), .val (.int p2), .val (.int p3)] [] := by first | (simp [entryFrame, mkF, argsToLocals, Value.category]; done) | rfl
def Q_rmal0 (Z : State) (a1 : Addr) (p2 : Int32) (p3 : Int32) (h0 : Heap) (n0 : Nat) (v : Option Value) (h : Heap) (L : List Loc) : Prop := v = some (.int p2) ∧ Fr n0 L ∧ h = h0
set_option maxRecDepth 65536 in
set_option maxHeartbeats 40000000 in
theorem rmal0 (l : Launch) (Z : State) (a0 : Array Value) (hw : ∀ d ∈ tables_1, d.before a0 Z = true) (ws : List Jvm.Cond) (a1 : Addr) (p2 : Int32) (p3 : Int32) (h0 : Heap) (n0 : Nat) (Z0 : n0 ≤ h0.size) (F1 : Fld Z h0 a1 "com/example/dress/dress/layout/Direction" "turned" "Z" (.int (0 : Int32))) :
    MetFree l (⟨"com/example/dress/dress/layout/Direction", "along", "(II)I"⟩ : MethodName) (head1 (Jvm.Cond.code (⟨"com/example/dress/dress/layout/Direction", "along", "(II)I"⟩ : MethodName) prog_89_method_5_code 3 (some .int) :: ws) ({ frames := 0, cells := 0, slots := 0, locals := 0 } : Room)) (fun a U => a = #[(.ref a1), (.int p2), (.int p3)] ∧ Z.Warmed39 U.vm ∧ U.heap = h0) (fun _ _ _ _ _ => True) (fun _ U o U' => ∃ v L, o = .returned v ∧ Q_rmal0 Z a1 p2 p3 h0 n0 v U'.heap L ∧ FrameEnd U o U' L ({ frames := 0, cells := 0, slots := 0, locals := 0 } : Room).cells ({ frames := 0, cells := 0, slots := 0, locals := 0 } : Room).slots) := by
  refine MetFree.of_bodySF (plainFor_of_name pn_rmal0) hisR ?_
  intro p e s m args_ below meth c s₁ Bd hml0 hP hK
  obtain ⟨hargs, hZ, hh⟩ := hP
  have hx := Bd.exec
  have hby := Bd.bytes
  have hml : c.maxLocals = 3 := hml0
  have hown : s.vm.findClass "com/example/dress/dress/layout/Direction" = some m.cls := findClass_of_methodNamed Bd.named
  have hnm := (name_of_methodNamed Bd.named Bd.method).1
  have X0 : Stand p l e ({ frames := 0, cells := 0, slots := 0, locals := 0 } : Room) s m args_ below meth c s₁ [] 0 0 := Stand.of_body Bd
  have e0 : s₁.heap = h0 := by rw [← hh, Bd.state]; rfl
  have N0 := Fr.nil n0
  have hv : ∀ (i : Nat) {d : Jvm.Cond}, tables_1[i]? = some d → d.before a0 Z = true := fun i d q => hw d (List.mem_of_getElem? q)
  have k0 : Go p e below m (s₁.setTop (entryFrame m args_ 3)) s₁ 0 #[.val (.ref a1), .val (.int p2), .val (.int p3)] [] := by rw [hargs]; exact fun t kt => castTop (ef_rmal0 m a1 p2 p3) kt
  obtain ⟨W, hWW⟩ : ∃ W, W = s₁.setTop (entryFrame m args_ 3) := ⟨_, rfl⟩
  rw [← hWW] at k0 ⊢
  show Done p e below s W (Q_rmal0 Z a1 p2 p3 h0 n0) ({ frames := 0, cells := 0, slots := 0, locals := 0 } : Room).cells ({ frames := 0, cells := 0, slots := 0, locals := 0 } : Room).slots
  have k1 : Go p e below m W s₁ 1 #[.val (.ref a1), .val (.int p2), .val (.int p3)] [(.ref a1)] := k0.aloadN X0 hx (hb hby d_rmal0_0) rfl rfl
  obtain ⟨T2, X2, e2, k2⟩ := k1.getF X0 hx hZ hown (host := "") (Or.inl (hv 16 rfl)) Via.refl e0 F1 (hb hby d_rmal0_1)
  have k2 : Go p e below m W T2 4 #[.val (.ref a1), .val (.int p2), .val (.int p3)] [(.int (0 : Int32))] := k2
  have k3 : Go p e below m W T2 12 #[.val (.ref a1), .val (.int p2), .val (.int p3)] [(.int p2)] := (k2.ifYes X2 hx (hb hby d_rmal0_4) (XT.i0_eq_t (by decide)) (by decide) (by decide)).iloadN X2 hx (hb hby d_rmal0_11) rfl
  exact k3.ireturnI X2 hx Bd.returns (hb hby d_rmal0_12) (BodyLoose.notSynchronized Bd) (by rw [e2]; exact ⟨rfl, N0, rfl⟩) (by decide) (by decide)

theorem d_rmac0_0 : decode prog_89_method_6_code 0 = .ok (.aload_n 0, 1) := by decide +kernel
theorem d_rmac0_1 : decode prog_89_method_6_code 1 = .ok (.getfield 39, 3) := by decide +kernel
theorem d_rmac0_4 : decode prog_89_method_6_code 4 = .ok (.ifCond .eq 7, 3) := by decide +kernel
theorem d_rmac0_11 : decode prog_89_method_6_code 11 = .ok (.iload_n 2, 1) := by decide +kernel
theorem d_rmac0_12 : decode prog_89_method_6_code 12 = .ok (.ireturn, 1) := by decide +kernel
theorem pn_rmac0 : plainName "com/example/dress/dress/layout/Direction" = true := by first | (simp [plainName, overriddenIn]; done) | decide +kernel
theorem ef_rmac0 (m : MethodId) (a1 : Addr) (p2 : Int32) (p3 : Int32) : entryFrame m #[(.ref a1), (.int p2), (.int p3)] 3 = mkF m 0 #[.val (.ref a1), .val (.int p2), .val (.int p3)] [] := by first | (simp [entryFrame, mkF, argsToLocals, Value.category]; done) | rfl
def Q_rmac0 (Z : State) (a1 : Addr) (p2 : Int32) (p3 : Int32) (h0 : Heap) (n0 : Nat) (v : Option Value) (h : Heap) (L : List Loc) : Prop := v = some (.int p3) ∧ Fr n0 L ∧ h = h0
set_option maxRecDepth 65536 in
set_option maxHeartbeats 40000000 in
theorem rmac0 (l : Launch) (Z : State) (a0 : Array Value) (hw : ∀ d ∈ tables_1, d.before a0 Z = true) (ws : List Jvm.Cond) (a1 : Addr) (p2 : Int32) (p3 : Int32) (h0 : Heap) (n0 : Nat) (Z0 : n0 ≤ h0.size) (F1 : Fld Z h0 a1 "com/example/dress/dress/layout/Direction" "turned" "Z" (.int (0 : Int32))) :
    MetFree l (⟨"com/example/dress/dress/layout/Direction", "across", "(II)I"⟩ : MethodName) (head1 (Jvm.Cond.code (⟨"com/example/dress/dress/layout/Direction", "across", "(II)I"⟩ : MethodName) prog_89_method_6_code 3 (some .int) :: ws) ({ frames := 0, cells := 0, slots := 0, locals := 0 } : Room)) (fun a U => a = #[(.ref a1), (.int p2), (.int p3)] ∧ Z.Warmed39 U.vm ∧ U.heap = h0) (fun _ _ _ _ _ => True) (fun _ U o U' => ∃ v L, o = .returned v ∧ Q_rmac0 Z a1 p2 p3 h0 n0 v U'.heap L ∧ FrameEnd U o U' L ({ frames := 0, cells := 0, slots := 0, locals := 0 } : Room).cells ({ frames := 0, cells := 0, slots := 0, locals := 0 } : Room).slots) := by
  refine MetFree.of_bodySF (plainFor_of_name pn_rmac0) hisR ?_
  intro p e s m args_ below meth c s₁ Bd hml0 hP hK
  obtain ⟨hargs, hZ, hh⟩ := hP
  have hx := Bd.exec
  have hby := Bd.bytes
  have hml : c.maxLocals = 3 := hml0
  have hown : s.vm.findClass "com/example/dress/dress/layout/Direction" = some m.cls := findClass_of_methodNamed Bd.named
  have hnm := (name_of_methodNamed Bd.named Bd.method).1
  have X0 : Stand p l e ({ frames := 0, cells := 0, slots := 0, locals := 0 } : Room) s m args_ below meth c s₁ [] 0 0 := Stand.of_body Bd
  have e0 : s₁.heap = h0 := by rw [← hh, Bd.state]; rfl
  have N0 := Fr.nil n0
  have hv : ∀ (i : Nat) {d : Jvm.Cond}, tables_1[i]? = some d → d.before a0 Z = true := fun i d q => hw d (List.mem_of_getElem? q)
  have k0 : Go p e below m (s₁.setTop (entryFrame m args_ 3)) s₁ 0 #[.val (.ref a1), .val (.int p2), .val (.int p3)] [] := by rw [hargs]; exact fun t kt => castTop (ef_rmac0 m a1 p2 p3) kt
  obtain ⟨W, hWW⟩ : ∃ W, W = s₁.setTop (entryFrame m args_ 3) := ⟨_, rfl⟩
  rw [← hWW] at k0 ⊢
  show Done p e below s W (Q_rmac0 Z a1 p2 p3 h0 n0) ({ frames := 0, cells := 0, slots := 0, locals := 0 } : Room).cells ({ frames := 0, cells := 0, slots := 0, locals := 0 } : Room).slots
  have k1 : Go p e below m W s₁ 1 #[.val (.ref a1), .val (.int p2), .val (.int p3)] [(.ref a1)] := k0.aloadN X0 hx (hb hby d_rmac0_0) rfl rfl
  obtain ⟨T2, X2, e2, k2⟩ := k1.getF X0 hx hZ hown (host := "") (Or.inl (hv 16 rfl)) Via.refl e0 F1 (hb hby d_rmac0_1)
  have k2 : Go p e below m W T2 4 #[.val (.ref a1), .val (.int p2), .val (.int p3)] [(.int (0 : Int32))] := k2
  have k3 : Go p e below m W T2 12 #[.val (.ref a1), .val (.int p2), .val (.int p3)] [(.int p3)] := (k2.ifYes X2 hx (hb hby d_rmac0_4) (XT.i0_eq_t (by decide)) (by decide) (by decide)).iloadN X2 hx (hb hby d_rmac0_11) rfl
  exact k3.ireturnI X2 hx Bd.returns (hb hby d_rmac0_12) (BodyLoose.notSynchronized Bd) (by rw [e2]; exact ⟨rfl, N0, rfl⟩) (by decide) (by decide)

theorem d_rmd1_0 : decode prog_89_method_9_code 0 = .ok (.aload_n 0, 1) := by decide +kernel
theorem d_rmd1_1 : decode prog_89_method_9_code 1 = .ok (.getfield 39, 3) := by decide +kernel
theorem d_rmd1_4 : decode prog_89_method_9_code 4 = .ok (.ifCond .eq 17, 3) := by decide +kernel
theorem d_rmd1_7 : decode prog_89_method_9_code 7 = .ok (.iconst 2, 1) := by decide +kernel
theorem d_rmd1_8 : decode prog_89_method_9_code 8 = .ok (.newarray .int, 2) := by decide +kernel
theorem d_rmd1_10 : decode prog_89_method_9_code 10 = .ok (.dup, 1) := by decide +kernel
theorem d_rmd1_11 : decode prog_89_method_9_code 11 = .ok (.iconst 0, 1) := by decide +kernel
theorem d_rmd1_12 : decode prog_89_method_9_code 12 = .ok (.iload_n 2, 1) := by decide +kernel
theorem d_rmd1_13 : decode prog_89_method_9_code 13 = .ok (.iastore, 1) := by decide +kernel
theorem d_rmd1_14 : decode prog_89_method_9_code 14 = .ok (.dup, 1) := by decide +kernel
theorem d_rmd1_15 : decode prog_89_method_9_code 15 = .ok (.iconst 1, 1) := by decide +kernel
theorem d_rmd1_16 : decode prog_89_method_9_code 16 = .ok (.iload_n 1, 1) := by decide +kernel
theorem d_rmd1_17 : decode prog_89_method_9_code 17 = .ok (.iastore, 1) := by decide +kernel
theorem d_rmd1_18 : decode prog_89_method_9_code 18 = .ok (.goto 14, 3) := by decide +kernel
theorem d_rmd1_32 : decode prog_89_method_9_code 32 = .ok (.areturn, 1) := by decide +kernel
theorem pn_rmd1 : plainName "com/example/dress/dress/layout/Direction" = true := by first | (simp [plainName, overriddenIn]; done) | decide +kernel
theorem ef_rmd1 (m : MethodId) (a1 : Addr) (p2 : Int32) (p3 : Int32) : entryFrame m #[(.ref a1), (.int p2), (.int p3)] 3 = mkF m 0 #[.val (.ref a1), .val (.int p2), .val (.int p3)] [] := by first | (simp [entryFrame, mkF, argsToLocals, Value.category]; done) | rfl
def Q_rmd1 (Z : State) (a1 : Addr) (p2 : Int32) (p3 : Int32) (h0 : Heap) (n0 : Nat) (v : Option Value) (h : Heap) (L : List Loc) : Prop := ∃ (ob : Addr) (ok : ClassId), v = some (.ref ob) ∧ Fr n0 L ∧ Keep h0 h [] ∧ Arv Z h ob ok .int (2 : Int32) [(.int p3), (.int p2)] (.int (0 : Int32)) ∧ n0 ≤ ob ∧ h0.size ≤ ob
set_option maxRecDepth 65536 in
set_option maxHeartbeats 40000000 in
theorem rmd1 (l : Launch) (Z : State) (a0 : Array Value) (hw : ∀ d ∈ tables_1, d.before a0 Z = true) (ws : List Jvm.Cond) (a1 : Addr) (p2 : Int32) (p3 : Int32) (h0 : Heap) (n0 : Nat) (Z0 : n0 ≤ h0.size) (F1 : Fld Z h0 a1 "com/example/dress/dress/layout/Direction" "turned" "Z" (.int (1 : Int32))) :
    MetFree l (⟨"com/example/dress/dress/layout/Direction", "drawnSize", "(II)[I"⟩ : MethodName) (head1 (Jvm.Cond.code (⟨"com/example/dress/dress/layout/Direction", "drawnSize", "(II)[I"⟩ : MethodName) prog_89_method_9_code 3 (some (.array .int)) :: ws) ({ frames := 0, cells := 1, slots := 2, locals := 0 } : Room)) (fun a U => a = #[(.ref a1), (.int p2), (.int p3)] ∧ Z.Warmed39 U.vm ∧ U.heap = h0) (fun _ _ _ _ _ => True) (fun _ U o U' => ∃ v L, o = .returned v ∧ Q_rmd1 Z a1 p2 p3 h0 n0 v U'.heap L ∧ FrameEnd U o U' L ({ frames := 0, cells := 1, slots := 2, locals := 0 } : Room).cells ({ frames := 0, cells := 1, slots := 2, locals := 0 } : Room).slots) := by
  refine MetFree.of_bodySF (plainFor_of_name pn_rmd1) hisR ?_
  intro p e s m args_ below meth c s₁ Bd hml0 hP hK
  obtain ⟨hargs, hZ, hh⟩ := hP
  have hx := Bd.exec
  have hby := Bd.bytes
  have hml : c.maxLocals = 3 := hml0
  have hown : s.vm.findClass "com/example/dress/dress/layout/Direction" = some m.cls := findClass_of_methodNamed Bd.named
  have hnm := (name_of_methodNamed Bd.named Bd.method).1
  have X0 : Stand p l e ({ frames := 0, cells := 1, slots := 2, locals := 0 } : Room) s m args_ below meth c s₁ [] 0 0 := Stand.of_body Bd
  have e0 : s₁.heap = h0 := by rw [← hh, Bd.state]; rfl
  have N0 := Fr.nil n0
  have hv : ∀ (i : Nat) {d : Jvm.Cond}, tables_1[i]? = some d → d.before a0 Z = true := fun i d q => hw d (List.mem_of_getElem? q)
  have K0 : Keep h0 h0 [] := Keep.refl _ _
  have k0 : Go p e below m (s₁.setTop (entryFrame m args_ 3)) s₁ 0 #[.val (.ref a1), .val (.int p2), .val (.int p3)] [] := by rw [hargs]; exact fun t kt => castTop (ef_rmd1 m a1 p2 p3) kt
  obtain ⟨W, hWW⟩ : ∃ W, W = s₁.setTop (entryFrame m args_ 3) := ⟨_, rfl⟩
  rw [← hWW] at k0 ⊢
  show Done p e below s W (Q_rmd1 Z a1 p2 p3 h0 n0) ({ frames := 0, cells := 1, slots := 2, locals := 0 } : Room).cells ({ frames := 0, cells := 1, slots := 2, locals := 0 } : Room).slots
  have k1 : Go p e below m W s₁ 1 #[.val (.ref a1), .val (.int p2), .val (.int p3)] [(.ref a1)] := k0.aloadN X0 hx (hb hby d_rmd1_0) rfl rfl
  obtain ⟨T2, X2, e2, k2⟩ := k1.getF X0 hx hZ hown (host := "") (Or.inl (hv 16 rfl)) Via.refl e0 F1 (hb hby d_rmd1_1)
  have k2 : Go p e below m W T2 4 #[.val (.ref a1), .val (.int p2), .val (.int p3)] [(.int (1 : Int32))] := k2
  have k3 : Go p e below m W T2 8 #[.val (.ref a1), .val (.int p2), .val (.int p3)] [(.int (2 : Int32))] := (k2.ifNo X2 hx (hb hby d_rmd1_4) (XT.i0_eq_f (by decide))).iconst X2 hx (hb hby d_rmd1_7) (v := (2 : Int32)) rfl
  obtain ⟨T4, h4, b4, c4, X4, e4, g4, E4, A4, k4⟩ := k3.newP (cap := 2) (cells' := 1) (slots' := 2) X2 hx hZ (hv 18 rfl) e2 (hb hby d_rmd1_8) (by decide) (by decide) (by decide) rfl rfl (by decide) (by decide)
  have k4 : Go p e below m W T4 10 #[.val (.ref a1), .val (.int p2), .val (.int p3)] [(.ref b4)] := k4
  have Z4 : n0 ≤ h4.size := Nat.le_trans Z0 E4.1
  have ne4_a1 : a1 ≠ b4 := Nat.ne_of_lt (g4 ▸ F1.lt)
  have f5 := F1.ext E4
  have G4 : n0 ≤ b4 := g4 ▸ Z0
  have H4 : h0.size ≤ b4 := g4 ▸ K0.1
  have K4 : Keep h0 h4 [] := K0.ext E4
  have V4 : Arv Z h4 b4 c4 .int (2 : Int32) [(.int (0 : Int32)), (.int (0 : Int32))] (.int (0 : Int32)) := A4 2
  have k6 : Go p e below m W T4 13 #[.val (.ref a1), .val (.int p2), .val (.int p3)] [(.int p3), (.int (0 : Int32)), (.ref b4), (.ref b4)] := ((k4.dup X4 hx (hb hby d_rmd1_10) rfl).iconst X4 hx (hb hby d_rmd1_11) (v := (0 : Int32)) rfl).iloadN X4 hx (hb hby d_rmd1_12) rfl
  obtain ⟨T7, h7, l7, X7, e7, W7, V7, N7, k7⟩ := k6.iastore (i := 0) X4 hx hZ e4 V4 rfl rfl (by decide) (Nat.le_of_ble_eq_true rfl) N0 G4 (hb hby d_rmd1_13)
  have k7 : Go p e below m W T7 14 #[.val (.ref a1), .val (.int p2), .val (.int p3)] [(.ref b4)] := k7
  have Z7 : n0 ≤ h7.size := (Wr.size W7).symm ▸ Z4
  have f8 := f5.other W7 (Or.inl ne4_a1)
  have V7 : Arv Z h7 b4 c4 .int (2 : Int32) [(.int p3), (.int (0 : Int32))] (.int (0 : Int32)) := V7
  have K7 : Keep h0 h7 [] := K4.wr W7 (Or.inr H4)
  have k9 : Go p e below m W T7 17 #[.val (.ref a1), .val (.int p2), .val (.int p3)] [(.int p2), (.int (1 : Int32)), (.ref b4), (.ref b4)] := ((k7.dup X7 hx (hb hby d_rmd1_14) rfl).iconst X7 hx (hb hby d_rmd1_15) (v := (1 : Int32)) rfl).iloadN X7 hx (hb hby d_rmd1_16) rfl
  obtain ⟨T10, h10, l10, X10, e10, W10, V10, N10, k10⟩ := k9.iastore (i := 1) X7 hx hZ e7 V7 rfl rfl (by decide) (Nat.le_of_ble_eq_true rfl) N7 G4 (hb hby d_rmd1_17)
  have k10 : Go p e below m W T10 18 #[.val (.ref a1), .val (.int p2), .val (.int p3)] [(.ref b4)] := k10
  have Z10 : n0 ≤ h10.size := (Wr.size W10).symm ▸ Z7
  have f11 := f8.other W10 (Or.inl ne4_a1)
  have V10 : Arv Z h10 b4 c4 .int (2 : Int32) [(.int p3), (.int p2)] (.int (0 : Int32)) := V10
  have K10 : Keep h0 h10 [] := K7.wr W10 (Or.inr H4)
  have k12 : Go p e below m W T10 32 #[.val (.ref a1), .val (.int p2), .val (.int p3)] [(.ref b4)] := k10.goto X10 hx (hb hby d_rmd1_18) (by decide) (by decide)
  exact k12.areturn X10 hx Bd.returns rfl rfl (hb hby d_rmd1_32) (BodyLoose.notSynchronized Bd) (by rw [e10]; exact ⟨b4, c4, rfl, N10, K10, V10, G4, H4⟩) (by decide) (by decide)

theorem d_rmal1_0 : decode prog_89_method_5_code 0 = .ok (.aload_n 0, 1) := by decide +kernel
theorem d_rmal1_1 : decode prog_89_method_5_code 1 = .ok (.getfield 39, 3) := by decide +kernel
theorem d_rmal1_4 : decode prog_89_method_5_code 4 = .ok (.ifCond .eq 7, 3) := by decide +kernel
theorem d_rmal1_7 : decode prog_89_method_5_code 7 = .ok (.iload_n 2, 1) := by decide +kernel
theorem d_rmal1_8 : decode prog_89_method_5_code 8 = .ok (.goto 4, 3) := by decide +kernel
theorem d_rmal1_12 : decode prog_89_method_5_code 12 = .ok (.ireturn, 1) := by decide +kernel
theorem pn_rmal1 : plainName "com/example/dress/dress/layout/Direction" = true := by first | (simp [plainName, overriddenIn]; done) | decide +kernel
theorem ef_rmal1 (m : MethodId) (a1 : Addr) (p2 : Int32) (p3 : Int32) : entryFrame m #[(.ref a1), (.int p2), (.int p3)] 3 = mkF m 0 #[.val (.ref a1), .val (.int p2), .val (.int p3)] [] := by first | (simp [entryFrame, mkF, argsToLocals, Value.category]; done) | rfl
def Q_rmal1 (Z : State) (a1 : Addr) (p2 : Int32) (p3 : Int32) (h0 : Heap) (n0 : Nat) (v : Option Value) (h : Heap) (L : List Loc) : Prop := v = some (.int p3) ∧ Fr n0 L ∧ h = h0
set_option maxRecDepth 65536 in
set_option maxHeartbeats 40000000 in
theorem rmal1 (l : Launch) (Z : State) (a0 : Array Value) (hw : ∀ d ∈ tables_1, d.before a0 Z = true) (ws : List Jvm.Cond) (a1 : Addr) (p2 : Int32) (p3 : Int32) (h0 : Heap) (n0 : Nat) (Z0 : n0 ≤ h0.size) (F1 : Fld Z h0 a1 "com/example/dress/dress/layout/Direction" "turned" "Z" (.int (1 : Int32))) :
    MetFree l (⟨"com/example/dress/dress/layout/Direction", "along", "(II)I"⟩ : MethodName) (head1 (Jvm.Cond.code (⟨"com/example/dress/dress/layout/Direction", "along", "(II)I"⟩ : MethodName) prog_89_method_5_code 3 (some .int) :: ws) ({ frames := 0, cells := 0, slots := 0, locals := 0 } : Room)) (fun a U => a = #[(.ref a1), (.int p2), (.int p3)] ∧ Z.Warmed39 U.vm ∧ U.heap = h0) (fun _ _ _ _ _ => True) (fun _ U o U' => ∃ v L, o = .returned v ∧ Q_rmal1 Z a1 p2 p3 h0 n0 v U'.heap L ∧ FrameEnd U o U' L ({ frames := 0, cells := 0, slots := 0, locals := 0 } : Room).cells ({ frames := 0, cells := 0, slots := 0, locals := 0 } : Room).slots) := by
  refine MetFree.of_bodySF (plainFor_of_name pn_rmal1) hisR ?_
  intro p e s m args_ below meth c s₁ Bd hml0 hP hK
  obtain ⟨hargs, hZ, hh⟩ := hP
  have hx := Bd.exec
  have hby := Bd.bytes
  have hml : c.maxLocals = 3 := hml0
  have hown : s.vm.findClass "com/example/dress/dress/layout/Direction" = some m.cls := findClass_of_methodNamed Bd.named
  have hnm := (name_of_methodNamed Bd.named Bd.method).1
  have X0 : Stand p l e ({ frames := 0, cells := 0, slots := 0, locals := 0 } : Room) s m args_ below meth c s₁ [] 0 0 := Stand.of_body Bd
  have e0 : s₁.heap = h0 := by rw [← hh, Bd.state]; rfl
  have N0 := Fr.nil n0
  have hv : ∀ (i : Nat) {d : Jvm.Cond}, tables_1[i]? = some d → d.before a0 Z = true := fun i d q => hw d (List.mem_of_getElem? q)
  have k0 : Go p e below m (s₁.setTop (entryFrame m args_ 3)) s₁ 0 #[.val (.ref a1), .val (.int p2), .val (.int p3)] [] := by rw [hargs]; exact fun t kt => castTop (ef_rmal1 m a1 p2 p3) kt
  obtain ⟨W, hWW⟩ : ∃ W, W = s₁.setTop (entryFrame m args_ 3) := ⟨_, rfl⟩
  rw [← hWW] at k0 ⊢
  show Done p e below s W (Q_rmal1 Z a1 p2 p3 h0 n0) ({ frames := 0, cells := 0, slots := 0, locals := 0 } : Room).cells ({ frames := 0, cells := 0, slots := 0, locals := 0 } : Room).slots
  have k1 : Go p e below m W s₁ 1 #[.val (.ref a1), .val (.int p2), .val (.int p3)] [(.ref a1)] := k0.aloadN X0 hx (hb hby d_rmal1_0) rfl rfl
  obtain ⟨T2, X2, e2, k2⟩ := k1.getF X0 hx hZ hown (host := "") (Or.inl (hv 16 rfl)) Via.refl e0 F1 (hb hby d_rmal1_1)
  have k2 : Go p e below m W T2 4 #[.val (.ref a1), .val (.int p2), .val (.int p3)] [(.int (1 : Int32))] := k2
  have k3 : Go p e below m W T2 12 #[.val (.ref a1), .val (.int p2), .val (.int p3)] [(.int p3)] := ((k2.ifNo X2 hx (hb hby d_rmal1_4) (XT.i0_eq_f (by decide))).iloadN X2 hx (hb hby d_rmal1_7) rfl).goto X2 hx (hb hby d_rmal1_8) (by decide) (by decide)
  exact k3.ireturnI X2 hx Bd.returns (hb hby d_rmal1_12) (BodyLoose.notSynchronized Bd) (by rw [e2]; exact ⟨rfl, N0, rfl⟩) (by decide) (by decide)

theorem d_rmac1_0 : decode prog_89_method_6_code 0 = .ok (.aload_n 0, 1) := by decide +kernel
theorem d_rmac1_1 : decode prog_89_method_6_code 1 = .ok (.getfield 39, 3) := by decide +kernel
theorem d_rmac1_4 : decode prog_89_method_6_code 4 = .ok (.ifCond .eq 7, 3) := by decide +kernel
theorem d_rmac1_7 : decode prog_89_method_6_code 7 = .ok (.iload_n 1, 1) := by decide +kernel
theorem d_rmac1_8 : decode prog_89_method_6_code 8 = .ok (.goto 4, 3) := by decide +kernel
theorem d_rmac1_12 : decode prog_89_method_6_code 12 = .ok (.ireturn, 1) := by decide +kernel
theorem pn_rmac1 : plainName "com/example/dress/dress/layout/Direction" = true := by first | (simp [plainName, overriddenIn]; done) | decide +kernel
theorem ef_rmac1 (m : MethodId) (a1 : Addr) (p2 : Int32) (p3 : Int32) : entryFrame m #[(.ref a1), (.int p2), (.int p3)] 3 = mkF m 0 #[.val (.ref a1), .val (.int p2), .val (.int p3)] [] := by first | (simp [entryFrame, mkF, argsToLocals, Value.category]; done) | rfl
def Q_rmac1 (Z : State) (a1 : Addr) (p2 : Int32) (p3 : Int32) (h0 : Heap) (n0 : Nat) (v : Option Value) (h : Heap) (L : List Loc) : Prop := v = some (.int p2) ∧ Fr n0 L ∧ h = h0
set_option maxRecDepth 65536 in
set_option maxHeartbeats 40000000 in
theorem rmac1 (l : Launch) (Z : State) (a0 : Array Value) (hw : ∀ d ∈ tables_1, d.before a0 Z = true) (ws : List Jvm.Cond) (a1 : Addr) (p2 : Int32) (p3 : Int32) (h0 : Heap) (n0 : Nat) (Z0 : n0 ≤ h0.size) (F1 : Fld Z h0 a1 "com/example/dress/dress/layout/Direction" "turned" "Z" (.int (1 : Int32))) :
    MetFree l (⟨"com/example/dress/dress/layout/Direction", "across", "(II)I"⟩ : MethodName) (head1 (Jvm.Cond.code (⟨"com/example/dress/dress/layout/Direction", "across", "(II)I"⟩ : MethodName) prog_89_method_6_code 3 (some .int) :: ws) ({ frames := 0, cells := 0, slots := 0, locals := 0 } : Room)) (fun a U => a = #[(.ref a1), (.int p2), (.int p3)] ∧ Z.Warmed39 U.vm ∧ U.heap = h0) (fun _ _ _ _ _ => True) (fun _ U o U' => ∃ v L, o = .returned v ∧ Q_rmac1 Z a1 p2 p3 h0 n0 v U'.heap L ∧ FrameEnd U o U' L ({ frames := 0, cells := 0, slots := 0, locals := 0 } : Room).cells ({ frames := 0, cells := 0, slots := 0, locals := 0 } : Room).slots) := by
  refine MetFree.of_bodySF (plainFor_of_name pn_rmac1) hisR ?_
  intro p e s m args_ below meth c s₁ Bd hml0 hP hK
  obtain ⟨hargs, hZ, hh⟩ := hP
  have hx := Bd.exec
  have hby := Bd.bytes
  have hml : c.maxLocals = 3 := hml0
  have hown : s.vm.findClass "com/example/dress/dress/layout/Direction" = some m.cls := findClass_of_methodNamed Bd.named
  have hnm := (name_of_methodNamed Bd.named Bd.method).1
  have X0 : Stand p l e ({ frames := 0, cells := 0, slots := 0, locals := 0 } : Room) s m args_ below meth c s₁ [] 0 0 := Stand.of_body Bd
  have e0 : s₁.heap = h0 := by rw [← hh, Bd.state]; rfl
  have N0 := Fr.nil n0
  have hv : ∀ (i : Nat) {d : Jvm.Cond}, tables_1[i]? = some d → d.before a0 Z = true := fun i d q => hw d (List.mem_of_getElem? q)
  have k0 : Go p e below m (s₁.setTop (entryFrame m args_ 3)) s₁ 0 #[.val (.ref a1), .val (.int p2), .val (.int p3)] [] := by rw [hargs]; exact fun t kt => castTop (ef_rmac1 m a1 p2 p3) kt
  obtain ⟨W, hWW⟩ : ∃ W, W = s₁.setTop (entryFrame m args_ 3) := ⟨_, rfl⟩
  rw [← hWW] at k0 ⊢
  show Done p e below s W (Q_rmac1 Z a1 p2 p3 h0 n0) ({ frames := 0, cells := 0, slots := 0, locals := 0 } : Room).cells ({ frames := 0, cells := 0, slots := 0, locals := 0 } : Room).slots
  have k1 : Go p e below m W s₁ 1 #[.val (.ref a1), .val (.int p2), .val (.int p3)] [(.ref a1)] := k0.aloadN X0 hx (hb hby d_rmac1_0) rfl rfl
  obtain ⟨T2, X2, e2, k2⟩ := k1.getF X0 hx hZ hown (host := "") (Or.inl (hv 16 rfl)) Via.refl e0 F1 (hb hby d_rmac1_1)
  have k2 : Go p e below m W T2 4 #[.val (.ref a1), .val (.int p2), .val (.int p3)] [(.int (1 : Int32))] := k2
  have k3 : Go p e below m W T2 12 #[.val (.ref a1), .val (.int p2), .val (.int p3)] [(.int p2)] := ((k2.ifNo X2 hx (hb hby d_rmac1_4) (XT.i0_eq_f (by decide))).iloadN X2 hx (hb hby d_rmac1_7) rfl).goto X2 hx (hb hby d_rmac1_8) (by decide) (by decide)
  exact k3.ireturnI X2 hx Bd.returns (hb hby d_rmac1_12) (BodyLoose.notSynchronized Bd) (by rw [e2]; exact ⟨rfl, N0, rfl⟩) (by decide) (by decide)

theorem pn_rm0 : plainName "com/example/dress/dress/layout/DirectionDrawnSizePinLaw" = true := by first | (simp [plainName, overriddenIn]; done) | decide +kernel
theorem pd_rm0_0 : parseMethodDescriptor "(I)Lcom/example/dress/dress/layout/Direction;" = some ⟨[.int], (some (.object "com/example/dress/dress/layout/Direction"))⟩ := by decide +kernel
theorem pd_rm0_1 : parseMethodDescriptor "(II)[I" = some ⟨[.int, .int], (some (.array .int))⟩ := by decide +kernel
theorem pd_rm0_2 : parseMethodDescriptor "(II)I" = some ⟨[.int, .int], (some .int)⟩ := by decide +kernel
theorem ef_rm0 (m : MethodId) (p1 : Int32) (p2 : Int32) (p3 : Int32) : entryFrame m #[(.int p1), (.int p2), (.int p3)] maxLocals = mkF m 0 #[.val (.int p1), .val (.int p2), .val (.int p3), .unset, .unset, .unset, .unset, .unset, .unset, .unset, .unset] [] := by first | (simp [entryFrame, mkF, argsToLocals, Value.category, maxLocals]; done) | rfl
def Q_rm0 (Z : State) (p1 : Int32) (p2 : Int32) (p3 : Int32) (s_TOP_TO_BOTTOM : Addr) (s_LEFT_TO_RIGHT : Addr) (s_RIGHT_TO_LEFT : Addr) (s_BOTTOM_TO_TOP : Addr) (h0 : Heap) (n0 : Nat) (v : Option Value) (h : Heap) (L : List Loc) : Prop := v = some (.int (1 : Int32)) ∧ Fr n0 L
set_option maxRecDepth 65536 in
set_option maxHeartbeats 40000000 in
theorem rm0 (l : Launch) (Z : State) (a0 : Array Value) (hw : ∀ d ∈ tables_1, d.before a0 Z = true) (ws : List Jvm.Cond) (p1 : Int32) (p2 : Int32) (p3 : Int32) (s_TOP_TO_BOTTOM : Addr) (s_LEFT_TO_RIGHT : Addr) (s_RIGHT_TO_LEFT : Addr) (s_BOTTOM_TO_TOP : Addr) (h0 : Heap) (n0 : Nat) (Z0 : n0 ≤ h0.size) (O0 : Old Z n0 h0) (S_s_TOP_TO_BOTTOM : Sta Z Z.heap "com/example/dress/dress/layout/Direction" "TOP_TO_BOTTOM" "Lcom/example/dress/dress/layout/Direction;" (.ref s_TOP_TO_BOTTOM)) (E_s_TOP_TO_BOTTOM : Exa Z Z.heap s_TOP_TO_BOTTOM "com/example/dress/dress/layout/Direction") (S_s_LEFT_TO_RIGHT : Sta Z Z.heap "com/example/dress/dress/layout/Direction" "LEFT_TO_RIGHT" "Lcom/example/dress/dress/layout/Direction;" (.ref s_LEFT_TO_RIGHT)) (E_s_LEFT_TO_RIGHT : Exa Z Z.heap s_LEFT_TO_RIGHT "com/example/dress/dress/layout/Direction") (F5_ordinal : Fld Z Z.heap s_TOP_TO_BOTTOM "java/lang/Enum" "ordinal" "I" (.int (0 : Int32))) (F6_ordinal : Fld Z Z.heap s_LEFT_TO_RIGHT "java/lang/Enum" "ordinal" "I" (.int (1 : Int32))) (S_s_RIGHT_TO_LEFT : Sta Z Z.heap "com/example/dress/dress/layout/Direction" "RIGHT_TO_LEFT" "Lcom/example/dress/dress/layout/Direction;" (.ref s_RIGHT_TO_LEFT)) (E_s_RIGHT_TO_LEFT : Exa Z Z.heap s_RIGHT_TO_LEFT "com/example/dress/dress/layout/Direction") (F9_ordinal : Fld Z Z.heap s_RIGHT_TO_LEFT "java/lang/Enum" "ordinal" "I" (.int (3 : Int32))) (F10_turned : Fld Z Z.heap s_TOP_TO_BOTTOM "com/example/dress/dress/layout/Direction" "turned" "Z" (.int (0 : Int32))) (F11_turned : Fld Z Z.heap s_LEFT_TO_RIGHT "com/example/dress/dress/layout/Direction" "turned" "Z" (.int (1 : Int32))) (F12_turned : Fld Z Z.heap s_RIGHT_TO_LEFT "com/example/dress/dress/layout/Direction" "turned" "Z" (.int (1 : Int32))) (S_s_BOTTOM_TO_TOP : Sta Z Z.heap "com/example/dress/dress/layout/Direction" "BOTTOM_TO_TOP" "Lcom/example/dress/dress/layout/Direction;" (.ref s_BOTTOM_TO_TOP)) (E_s_BOTTOM_TO_TOP : Exa Z Z.heap s_BOTTOM_TO_TOP "com/example/dress/dress/layout/Direction") (F15_ordinal : Fld Z Z.heap s_BOTTOM_TO_TOP "java/lang/Enum" "ordinal" "I" (.int (2 : Int32))) (F16_turned : Fld Z Z.heap s_BOTTOM_TO_TOP "com/example/dress/dress/layout/Direction" "turned" "Z" (.int (0 : Int32))) :
    MetFree l x (head1 (Jvm.Cond.code x code maxLocals ret :: ws) room_1) (fun a U => a = #[(.int p1), (.int p2), (.int p3)] ∧ Z.Warmed39 U.vm ∧ U.heap = h0) (fun _ _ _ _ _ => True) (fun _ U o U' => ∃ v L, o = .returned v ∧ Q_rm0 Z p1 p2 p3 s_TOP_TO_BOTTOM s_LEFT_TO_RIGHT s_RIGHT_TO_LEFT s_BOTTOM_TO_TOP h0 n0 v U'.heap L ∧ FrameEnd U o U' L room_1.cells room_1.slots) := by
  refine MetFree.of_bodySF (plainFor_of_name pn_rm0) hisR ?_
  intro p e s m args_ below meth c s₁ Bd hml0 hP hK
  obtain ⟨hargs, hZ, hh⟩ := hP
  have hx := Bd.exec
  have hby := Bd.bytes
  have hml : c.maxLocals = 11 := hml0
  have hown : s.vm.findClass "com/example/dress/dress/layout/DirectionDrawnSizePinLaw" = some m.cls := findClass_of_methodNamed Bd.named
  have hnm := (name_of_methodNamed Bd.named Bd.method).1
  have X0 : Stand p l e room_1 s m args_ below meth c s₁ [] 0 0 := Stand.of_body Bd
  have e0 : s₁.heap = h0 := by rw [← hh, Bd.state]; rfl
  have N0 := Fr.nil n0
  have hv : ∀ (i : Nat) {d : Jvm.Cond}, tables_1[i]? = some d → d.before a0 Z = true := fun i d q => hw d (List.mem_of_getElem? q)
  have k0 : Go p e below m (s₁.setTop (entryFrame m args_ maxLocals)) s₁ 0 #[.val (.int p1), .val (.int p2), .val (.int p3), .unset, .unset, .unset, .unset, .unset, .unset, .unset, .unset] [] := by rw [hargs]; exact fun t kt => castTop (ef_rm0 m p1 p2 p3) kt
  obtain ⟨W, hWW⟩ : ∃ W, W = s₁.setTop (entryFrame m args_ maxLocals) := ⟨_, rfl⟩
  rw [← hWW] at k0 ⊢
  show Done p e below s W (Q_rm0 Z p1 p2 p3 s_TOP_TO_BOTTOM s_LEFT_TO_RIGHT s_RIGHT_TO_LEFT s_BOTTOM_TO_TOP h0 n0) room_1.cells room_1.slots
  have k1 : Go p e below m W s₁ 1 #[.val (.int p1), .val (.int p2), .val (.int p3), .unset, .unset, .unset, .unset, .unset, .unset, .unset, .unset] [(.int p1)] := k0.iloadN X0 hx (hb hby at_0) rfl
  obtain ⟨T2, v2, L2, X2, Q2, k2⟩ := k1.stat (y := (⟨"com/example/dress/dress/layout/DirectionDrawnSizePinLaw", "pick", "(I)Lcom/example/dress/dress/layout/Direction;"⟩ : MethodName)) (Wd := 0) (cells' := 0) (slots' := 0) (argsL := [(.int p1)]) (rest := []) X0 hx hZ hown (by rw [hml]; rfl) (hv 0 rfl) (hv 1 rfl) (hv 3 rfl) (hv 2 rfl) (hb hby at_1) (by decide) (rmp l Z a0 hw [] p1 s_TOP_TO_BOTTOM s_LEFT_TO_RIGHT s_BOTTOM_TO_TOP s_RIGHT_TO_LEFT h0 n0 Z0 (S_s_TOP_TO_BOTTOM.ext O0.2) (S_s_LEFT_TO_RIGHT.ext O0.2) (S_s_BOTTOM_TO_TOP.ext O0.2) (S_s_RIGHT_TO_LEFT.ext O0.2)) e0 rfl rfl pd_rm0_0 rfl (Nat.le_of_eq rfl) (by decide) (by decide) rfl rfl (by decide) (by decide)
  obtain ⟨ro_2, rfl, Nq2, e2q, p2_0⟩ := Q2
  have N2 := Fr.app N0 Nq2
  have e2 : T2.heap = h0 := e2q
  have k2 : Go p e below m W T2 4 #[.val (.int p1), .val (.int p2), .val (.int p3), .unset, .unset, .unset, .unset, .unset, .unset, .unset, .unset] [(.ref ro_2)] := k2
  rcases p2_0 with q3 | q4 | q5 | q6
  ·
    subst ro_2
    have k7 : Go p e below m W T2 5 #[.val (.int p1), .val (.int p2), .val (.int p3), .val (.ref s_TOP_TO_BOTTOM), .unset, .unset, .unset, .unset, .unset, .unset, .unset] [] := k2.astoreN X2 hx (hb hby at_4) rfl rfl
    have k8 : Go p e below m W T2 6 #[.val (.int p1), .val (.int p2), .val (.int p3), .val (.ref s_TOP_TO_BOTTOM), .unset, .unset, .unset, .unset, .unset, .unset, .unset] [(.ref s_TOP_TO_BOTTOM)] := k7.aloadN X2 hx (hb hby at_5) rfl rfl
    obtain ⟨T9, X9, e9, k9⟩ := k8.getS X2 hx hZ hown (host := "") (Or.inl (hv 7 rfl)) Via.refl e2 (S_s_LEFT_TO_RIGHT.ext O0.2) (hb hby at_6)
    have k9 : Go p e below m W T9 9 #[.val (.int p1), .val (.int p2), .val (.int p3), .val (.ref s_TOP_TO_BOTTOM), .unset, .unset, .unset, .unset, .unset, .unset, .unset] [(.ref s_LEFT_TO_RIGHT), (.ref s_TOP_TO_BOTTOM)] := k9
    have k10 : Go p e below m W T9 13 #[.val (.int p1), .val (.int p2), .val (.int p3), .val (.ref s_TOP_TO_BOTTOM), .unset, .unset, .unset, .unset, .unset, .unset, .unset] [(.ref s_TOP_TO_BOTTOM)] := (k9.acmpNo X9 hx (hb hby at_9) rfl rfl (XT.aa_eq_f (fun q => (own_ne F5_ordinal F6_ordinal (by decide)) (Value.ref.inj q)))).aloadN X9 hx (hb hby at_12) rfl rfl
    obtain ⟨T11, X11, e11, k11⟩ := k10.getS X9 hx hZ hown (host := "") (Or.inl (hv 9 rfl)) Via.refl e9 (S_s_RIGHT_TO_LEFT.ext O0.2) (hb hby at_13)
    have k11 : Go p e below m W T11 16 #[.val (.int p1), .val (.int p2), .val (.int p3), .val (.ref s_TOP_TO_BOTTOM), .unset, .unset, .unset, .unset, .unset, .unset, .unset] [(.ref s_RIGHT_TO_LEFT), (.ref s_TOP_TO_BOTTOM)] := k11
    have k12 : Go p e below m W T11 26 #[.val (.int p1), .val (.int p2), .val (.int p3), .val (.ref s_TOP_TO_BOTTOM), .val (.int (0 : Int32)), .unset, .unset, .unset, .unset, .unset, .unset] [] := ((k11.acmpYes X11 hx (hb hby at_16) rfl rfl (XT.aa_ne_t (fun q => (own_ne F5_ordinal F9_ordinal (by decide)) (Value.ref.inj q))) (by decide) (by decide)).iconst X11 hx (hb hby at_23) (v := (0 : Int32)) rfl).istore X11 hx (hb hby at_24) rfl
    have k13 : Go p e below m W T11 38 #[.val (.int p1), .val (.int p2), .val (.int p3), .val (.ref s_TOP_TO_BOTTOM), .val (.int (0 : Int32)), .val (.int p2), .unset, .unset, .unset, .unset, .unset] [] := (((k12.iload X11 hx (hb hby at_26) rfl).ifYes X11 hx (hb hby at_28) (XT.i0_eq_t (by decide)) (by decide) (by decide)).iloadN X11 hx (hb hby at_35) rfl).istore X11 hx (hb hby at_36) rfl
    have k14 : Go p e below m W T11 50 #[.val (.int p1), .val (.int p2), .val (.int p3), .val (.ref s_TOP_TO_BOTTOM), .val (.int (0 : Int32)), .val (.int p2), .val (.int p3), .unset, .unset, .unset, .unset] [] := (((k13.iload X11 hx (hb hby at_38) rfl).ifYes X11 hx (hb hby at_40) (XT.i0_eq_t (by decide)) (by decide) (by decide)).iloadN X11 hx (hb hby at_47) rfl).istore X11 hx (hb hby at_48) rfl
    have k15 : Go p e below m W T11 53 #[.val (.int p1), .val (.int p2), .val (.int p3), .val (.ref s_TOP_TO_BOTTOM), .val (.int (0 : Int32)), .val (.int p2), .val (.int p3), .unset, .unset, .unset, .unset] [(.int p3), (.int p2), (.ref s_TOP_TO_BOTTOM)] := ((k14.aloadN X11 hx (hb hby at_50) rfl rfl).iloadN X11 hx (hb hby at_51) rfl).iloadN X11 hx (hb hby at_52) rfl
    obtain ⟨T16, v16, L16, X16, Q16, k16⟩ := k15.virt (y := (⟨"com/example/dress/dress/layout/Direction", "drawnSize", "(II)[I"⟩ : MethodName)) (z := (⟨"com/example/dress/dress/layout/Direction", "drawnSize", "(II)[I"⟩ : MethodName)) (Wd := 0) (cells' := 1) (slots' := 2) (argsL := [(.int p2), (.int p3)]) (rest := []) X11 hx hZ hown (by rw [hml]; rfl) (hv 11 rfl) (hv 12 rfl) (notFace_of_selects (args := #[]) (mvT hZ (hv 14 rfl))) (hv 14 rfl) (hv 13 rfl) (hv 15 rfl) (hv 5 rfl) (hb hby at_53) (by decide) (rmd0 l Z a0 hw [] s_TOP_TO_BOTTOM p2 p3 h0 n0 Z0 (F10_turned.ext O0.2)) e11 (E_s_TOP_TO_BOTTOM.ext O0.2) rfl rfl pd_rm0_1 rfl (Nat.le_of_eq rfl) (by decide) (by decide) rfl rfl (by decide) (by decide)
    obtain ⟨ob_16, ok_16, rfl, Nq16, Kq16, q16_0, q16_1, q16_2⟩ := Q16
    have N16 := Fr.app N2 Nq16
    obtain ⟨h16, e16⟩ : ∃ h, T16.heap = h := ⟨_, rfl⟩
    rw [e16] at Kq16 q16_0
    have Z16 : n0 ≤ h16.size := Nat.le_trans Z0 Kq16.1
    have f17 := O0.keep Kq16 (fun x q => absurd q List.not_mem_nil)
    have k16 : Go p e below m W T16 56 #[.val (.int p1), .val (.int p2), .val (.int p3), .val (.ref s_TOP_TO_BOTTOM), .val (.int (0 : Int32)), .val (.int p2), .val (.int p3), .unset, .unset, .unset, .unset] [(.ref ob_16)] := k16
    have k18 : Go p e below m W T16 58 #[.val (.int p1), .val (.int p2), .val (.int p3), .val (.ref s_TOP_TO_BOTTOM), .val (.int (0 : Int32)), .val (.int p2), .val (.int p3), .val (.ref ob_16), .unset, .unset, .unset] [] := k16.astore X16 hx (hb hby at_56) rfl rfl
    have k19 : Go p e below m W T16 65 #[.val (.int p1), .val (.int p2), .val (.int p3), .val (.ref s_TOP_TO_BOTTOM), .val (.int (0 : Int32)), .val (.int p2), .val (.int p3), .val (.ref ob_16), .unset, .unset, .unset] [(.ref ob_16)] := ((k18.aload X16 hx (hb hby at_58) rfl rfl).nullNo X16 hx (hb hby at_60) rfl (fun q => by cases q)).aload X16 hx (hb hby at_63) rfl rfl
    have k20 : Go p e below m W T16 75 #[.val (.int p1), .val (.int p2), .val (.int p3), .val (.ref s_TOP_TO_BOTTOM), .val (.int (0 : Int32)), .val (.int p2), .val (.int p3), .val (.ref ob_16), .unset, .unset, .unset] [(.int (0 : Int32)), (.ref ob_16)] := ((((k19.arraylength X16 hx hZ e16 q16_0 (hb hby at_65)).iconst X16 hx (hb hby at_66) (v := (2 : Int32)) rfl).icmpYes X16 hx (hb hby at_67) (XT.ii_eq_t (by decide)) (by decide) (by decide)).aload X16 hx (hb hby at_72) rfl rfl).iconst X16 hx (hb hby at_74) (v := (0 : Int32)) rfl
    have k21 : Go p e below m W T16 84 #[.val (.int p1), .val (.int p2), .val (.int p3), .val (.ref s_TOP_TO_BOTTOM), .val (.int (0 : Int32)), .val (.int p2), .val (.int p3), .val (.ref ob_16), .unset, .unset, .unset] [(.int (1 : Int32)), (.ref ob_16)] := ((((k20.iaload (i := 0) (n := 2) X16 hx hZ e16 q16_0 rfl rfl (by decide) (by decide) rfl (hb hby at_75)).iload X16 hx (hb hby at_76) rfl).icmpNo X16 hx (hb hby at_78) (XT.ii_ne_f rfl)).aload X16 hx (hb hby at_81) rfl rfl).iconst X16 hx (hb hby at_83) (v := (1 : Int32)) rfl
    have k22 : Go p e below m W T16 97 #[.val (.int p1), .val (.int p2), .val (.int p3), .val (.ref s_TOP_TO_BOTTOM), .val (.int (0 : Int32)), .val (.int p2), .val (.int p3), .val (.ref ob_16), .val (.int (1 : Int32)), .unset, .unset] [] := (((((k21.iaload (i := 1) (n := 2) X16 hx hZ e16 q16_0 rfl rfl (by decide) (by decide) rfl (hb hby at_84)).iload X16 hx (hb hby at_85) rfl).icmpNo X16 hx (hb hby at_87) (XT.ii_ne_f rfl)).iconst X16 hx (hb hby at_90) (v := (1 : Int32)) rfl).goto X16 hx (hb hby at_91) (by decide) (by decide)).istore X16 hx (hb hby at_95) rfl
    have k23 : Go p e below m W T16 101 #[.val (.int p1), .val (.int p2), .val (.int p3), .val (.ref s_TOP_TO_BOTTOM), .val (.int (0 : Int32)), .val (.int p2), .val (.int p3), .val (.ref ob_16), .val (.int (1 : Int32)), .unset, .unset] [(.int p3), (.int p2), (.ref s_TOP_TO_BOTTOM), (.ref s_TOP_TO_BOTTOM)] := (((k22.aloadN X16 hx (hb hby at_97) rfl rfl).aloadN X16 hx (hb hby at_98) rfl rfl).iloadN X16 hx (hb hby at_99) rfl).iloadN X16 hx (hb hby at_100) rfl
    obtain ⟨T24, v24, L24, X24, Q24, k24⟩ := k23.virt (y := (⟨"com/example/dress/dress/layout/Direction", "along", "(II)I"⟩ : MethodName)) (z := (⟨"com/example/dress/dress/layout/Direction", "along", "(II)I"⟩ : MethodName)) (Wd := 1) (cells' := 1) (slots' := 2) (argsL := [(.int p2), (.int p3)]) (rest := [(.ref s_TOP_TO_BOTTOM)]) X16 hx hZ hown (by rw [hml]; rfl) (hv 19 rfl) (hv 20 rfl) (notFace_of_selects (args := #[]) (mvT hZ (hv 22 rfl))) (hv 22 rfl) (hv 21 rfl) (hv 23 rfl) (hv 5 rfl) (hb hby at_101) (by decide) (rmal0 l Z a0 hw [] s_TOP_TO_BOTTOM p2 p3 h16 n0 Z16 (F10_turned.ext f17.2)) e16 (E_s_TOP_TO_BOTTOM.ext f17.2) rfl rfl pd_rm0_2 rfl (Nat.le_of_eq rfl) (by decide) (by decide) rfl rfl (by decide) (by decide)
    obtain ⟨rfl, Nq24, e24q⟩ := Q24
    have N24 := Fr.app N16 Nq24
    have e24 : T24.heap = h16 := e24q
    have k24 : Go p e below m W T24 104 #[.val (.int p1), .val (.int p2), .val (.int p3), .val (.ref s_TOP_TO_BOTTOM), .val (.int (0 : Int32)), .val (.int p2), .val (.int p3), .val (.ref ob_16), .val (.int (1 : Int32)), .unset, .unset] [(.int p2), (.ref s_TOP_TO_BOTTOM)] := k24
    have k25 : Go p e below m W T24 107 #[.val (.int p1), .val (.int p2), .val (.int p3), .val (.ref s_TOP_TO_BOTTOM), .val (.int (0 : Int32)), .val (.int p2), .val (.int p3), .val (.ref ob_16), .val (.int (1 : Int32)), .unset, .unset] [(.int p3), (.int p2), (.ref s_TOP_TO_BOTTOM), (.int p2), (.ref s_TOP_TO_BOTTOM)] := ((k24.aloadN X24 hx (hb hby at_104) rfl rfl).iloadN X24 hx (hb hby at_105) rfl).iloadN X24 hx (hb hby at_106) rfl
    obtain ⟨T26, v26, L26, X26, Q26, k26⟩ := k25.virt (y := (⟨"com/example/dress/dress/layout/Direction", "across", "(II)I"⟩ : MethodName)) (z := (⟨"com/example/dress/dress/layout/Direction", "across", "(II)I"⟩ : MethodName)) (Wd := 2) (cells' := 1) (slots' := 2) (argsL := [(.int p2), (.int p3)]) (rest := [(.int p2), (.ref s_TOP_TO_BOTTOM)]) X24 hx hZ hown (by rw [hml]; rfl) (hv 24 rfl) (hv 25 rfl) (notFace_of_selects (args := #[]) (mvT hZ (hv 27 rfl))) (hv 27 rfl) (hv 26 rfl) (hv 28 rfl) (hv 5 rfl) (hb hby at_107) (by decide) (rmac0 l Z a0 hw [] s_TOP_TO_BOTTOM p2 p3 h16 n0 Z16 (F10_turned.ext f17.2)) e24 (E_s_TOP_TO_BOTTOM.ext f17.2) rfl rfl pd_rm0_2 rfl (Nat.le_of_eq rfl) (by decide) (by decide) rfl rfl (by decide) (by decide)
    obtain ⟨rfl, Nq26, e26q⟩ := Q26
    have N26 := Fr.app N24 Nq26
    have e26 : T26.heap = h16 := e26q
    have k26 : Go p e below m W T26 110 #[.val (.int p1), .val (.int p2), .val (.int p3), .val (.ref s_TOP_TO_BOTTOM), .val (.int (0 : Int32)), .val (.int p2), .val (.int p3), .val (.ref ob_16), .val (.int (1 : Int32)), .unset, .unset] [(.int p3), (.int p2), (.ref s_TOP_TO_BOTTOM)] := k26
    obtain ⟨T27, v27, L27, X27, Q27, k27⟩ := k26.virt (y := (⟨"com/example/dress/dress/layout/Direction", "drawnSize", "(II)[I"⟩ : MethodName)) (z := (⟨"com/example/dress/dress/layout/Direction", "drawnSize", "(II)[I"⟩ : MethodName)) (Wd := 0) (cells' := 2) (slots' := 4) (argsL := [(.int p2), (.int p3)]) (rest := []) X26 hx hZ hown (by rw [hml]; rfl) (hv 11 rfl) (hv 12 rfl) (notFace_of_selects (args := #[]) (mvT hZ (hv 14 rfl))) (hv 14 rfl) (hv 13 rfl) (hv 15 rfl) (hv 5 rfl) (hb hby at_110) (by decide) (rmd0 l Z a0 hw [] s_TOP_TO_BOTTOM p2 p3 h16 n0 Z16 (F10_turned.ext f17.2)) e26 (E_s_TOP_TO_BOTTOM.ext f17.2) rfl rfl pd_rm0_1 rfl (Nat.le_of_eq rfl) (by decide) (by decide) rfl rfl (by decide) (by decide)
    obtain ⟨ob_27, ok_27, rfl, Nq27, Kq27, q27_0, q27_1, q27_2⟩ := Q27
    have N27 := Fr.app N26 Nq27
    obtain ⟨h27, e27⟩ : ∃ h, T27.heap = h := ⟨_, rfl⟩
    rw [e27] at Kq27 q27_0
    have Z27 : n0 ≤ h27.size := Nat.le_trans Z16 Kq27.1
    have f28 := f17.keep Kq27 (fun x q => absurd q List.not_mem_nil)
    have f29 := q16_0.keep Kq27 (List.not_mem_nil)
    have ne30_ob_16 : ob_16 ≠ ob_27 := Nat.ne_of_lt (Nat.lt_of_lt_of_le q16_0.lt q27_2)
    have k27 : Go p e below m W T27 113 #[.val (.int p1), .val (.int p2), .val (.int p3), .val (.ref s_TOP_TO_BOTTOM), .val (.int (0 : Int32)), .val (.int p2), .val (.int p3), .val (.ref ob_16), .val (.int (1 : Int32)), .unset, .unset] [(.ref ob_27)] := k27
    have k31 : Go p e below m W T27 115 #[.val (.int p1), .val (.int p2), .val (.int p3), .val (.ref s_TOP_TO_BOTTOM), .val (.int (0 : Int32)), .val (.int p2), .val (.int p3), .val (.ref ob_16), .val (.int (1 : Int32)), .val (.ref ob_27), .unset] [] := k27.astore X27 hx (hb hby at_113) rfl rfl
    have k32 : Go p e below m W T27 122 #[.val (.int p1), .val (.int p2), .val (.int p3), .val (.ref s_TOP_TO_BOTTOM), .val (.int (0 : Int32)), .val (.int p2), .val (.int p3), .val (.ref ob_16), .val (.int (1 : Int32)), .val (.ref ob_27), .unset] [(.ref ob_27)] := ((k31.aload X27 hx (hb hby at_115) rfl rfl).nullNo X27 hx (hb hby at_117) rfl (fun q => by cases q)).aload X27 hx (hb hby at_120) rfl rfl
    have k33 : Go p e below m W T27 132 #[.val (.int p1), .val (.int p2), .val (.int p3), .val (.ref s_TOP_TO_BOTTOM), .val (.int (0 : Int32)), .val (.int p2), .val (.int p3), .val (.ref ob_16), .val (.int (1 : Int32)), .val (.ref ob_27), .unset] [(.int (0 : Int32)), (.ref ob_27)] := ((((k32.arraylength X27 hx hZ e27 q27_0 (hb hby at_122)).iconst X27 hx (hb hby at_123) (v := (2 : Int32)) rfl).icmpYes X27 hx (hb hby at_124) (XT.ii_eq_t (by decide)) (by decide) (by decide)).aload X27 hx (hb hby at_129) rfl rfl).iconst X27 hx (hb hby at_131) (v := (0 : Int32)) rfl
    have k34 : Go p e below m W T27 140 #[.val (.int p1), .val (.int p2), .val (.int p3), .val (.ref s_TOP_TO_BOTTOM), .val (.int (0 : Int32)), .val (.int p2), .val (.int p3), .val (.ref ob_16), .val (.int (1 : Int32)), .val (.ref ob_27), .unset] [(.int (1 : Int32)), (.ref ob_27)] := ((((k33.iaload (i := 0) (n := 2) X27 hx hZ e27 q27_0 rfl rfl (by decide) (by decide) rfl (hb hby at_132)).iloadN X27 hx (hb hby at_133) rfl).icmpNo X27 hx (hb hby at_134) (XT.ii_ne_f rfl)).aload X27 hx (hb hby at_137) rfl rfl).iconst X27 hx (hb hby at_139) (v := (1 : Int32)) rfl
    have k35 : Go p e below m W T27 152 #[.val (.int p1), .val (.int p2), .val (.int p3), .val (.ref s_TOP_TO_BOTTOM), .val (.int (0 : Int32)), .val (.int p2), .val (.int p3), .val (.ref ob_16), .val (.int (1 : Int32)), .val (.ref ob_27), .val (.int (1 : Int32))] [] := (((((k34.iaload (i := 1) (n := 2) X27 hx hZ e27 q27_0 rfl rfl (by decide) (by decide) rfl (hb hby at_140)).iloadN X27 hx (hb hby at_141) rfl).icmpNo X27 hx (hb hby at_142) (XT.ii_ne_f rfl)).iconst X27 hx (hb hby at_145) (v := (1 : Int32)) rfl).goto X27 hx (hb hby at_146) (by decide) (by decide)).istore X27 hx (hb hby at_150) rfl
    have k36 : Go p e below m W T27 167 #[.val (.int p1), .val (.int p2), .val (.int p3), .val (.ref s_TOP_TO_BOTTOM), .val (.int (0 : Int32)), .val (.int p2), .val (.int p3), .val (.ref ob_16), .val (.int (1 : Int32)), .val (.ref ob_27), .val (.int (1 : Int32))] [(.int (1 : Int32))] := (((((k35.iload X27 hx (hb hby at_152) rfl).ifNo X27 hx (hb hby at_154) (XT.i0_eq_f (by decide))).iload X27 hx (hb hby at_157) rfl).ifNo X27 hx (hb hby at_159) (XT.i0_eq_f (by decide))).iconst X27 hx (hb hby at_162) (v := (1 : Int32)) rfl).goto X27 hx (hb hby at_163) (by decide) (by decide)
    exact k36.ireturnN X27 hx (t := .boolean) Bd.returns (by simp) rfl (hb hby at_167) (BodyLoose.notSynchronized Bd) (by rw [e27]; exact ⟨rfl, N27⟩) (by decide) (by decide)
  ·
    subst ro_2
    have k37 : Go p e below m W T2 5 #[.val (.int p1), .val (.int p2), .val (.int p3), .val (.ref s_LEFT_TO_RIGHT), .unset, .unset, .unset, .unset, .unset, .unset, .unset] [] := k2.astoreN X2 hx (hb hby at_4) rfl rfl
    have k38 : Go p e below m W T2 6 #[.val (.int p1), .val (.int p2), .val (.int p3), .val (.ref s_LEFT_TO_RIGHT), .unset, .unset, .unset, .unset, .unset, .unset, .unset] [(.ref s_LEFT_TO_RIGHT)] := k37.aloadN X2 hx (hb hby at_5) rfl rfl
    obtain ⟨T39, X39, e39, k39⟩ := k38.getS X2 hx hZ hown (host := "") (Or.inl (hv 7 rfl)) Via.refl e2 (S_s_LEFT_TO_RIGHT.ext O0.2) (hb hby at_6)
    have k39 : Go p e below m W T39 9 #[.val (.int p1), .val (.int p2), .val (.int p3), .val (.ref s_LEFT_TO_RIGHT), .unset, .unset, .unset, .unset, .unset, .unset, .unset] [(.ref s_LEFT_TO_RIGHT), (.ref s_LEFT_TO_RIGHT)] := k39
    have k40 : Go p e below m W T39 26 #[.val (.int p1), .val (.int p2), .val (.int p3), .val (.ref s_LEFT_TO_RIGHT), .val (.int (1 : Int32)), .unset, .unset, .unset, .unset, .unset, .unset] [] := (((k39.acmpYes X39 hx (hb hby at_9) rfl rfl (XT.aa_eq_t rfl) (by decide) (by decide)).iconst X39 hx (hb hby at_19) (v := (1 : Int32)) rfl).goto X39 hx (hb hby at_20) (by decide) (by decide)).istore X39 hx (hb hby at_24) rfl
    have k41 : Go p e below m W T39 38 #[.val (.int p1), .val (.int p2), .val (.int p3), .val (.ref s_LEFT_TO_RIGHT), .val (.int (1 : Int32)), .val (.int p3), .unset, .unset, .unset, .unset, .unset] [] := ((((k40.iload X39 hx (hb hby at_26) rfl).ifNo X39 hx (hb hby at_28) (XT.i0_eq_f (by decide))).iloadN X39 hx (hb hby at_31) rfl).goto X39 hx (hb hby at_32) (by decide) (by decide)).istore X39 hx (hb hby at_36) rfl
    have k42 : Go p e below m W T39 50 #[.val (.int p1), .val (.int p2), .val (.int p3), .val (.ref s_LEFT_TO_RIGHT), .val (.int (1 : Int32)), .val (.int p3), .val (.int p2), .unset, .unset, .unset, .unset] [] := ((((k41.iload X39 hx (hb hby at_38) rfl).ifNo X39 hx (hb hby at_40) (XT.i0_eq_f (by decide))).iloadN X39 hx (hb hby at_43) rfl).goto X39 hx (hb hby at_44) (by decide) (by decide)).istore X39 hx (hb hby at_48) rfl
    have k43 : Go p e below m W T39 53 #[.val (.int p1), .val (.int p2), .val (.int p3), .val (.ref s_LEFT_TO_RIGHT), .val (.int (1 : Int32)), .val (.int p3), .val (.int p2), .unset, .unset, .unset, .unset] [(.int p3), (.int p2), (.ref s_LEFT_TO_RIGHT)] := ((k42.aloadN X39 hx (hb hby at_50) rfl rfl).iloadN X39 hx (hb hby at_51) rfl).iloadN X39 hx (hb hby at_52) rfl
    obtain ⟨T44, v44, L44, X44, Q44, k44⟩ := k43.virt (y := (⟨"com/example/dress/dress/layout/Direction", "drawnSize", "(II)[I"⟩ : MethodName)) (z := (⟨"com/example/dress/dress/layout/Direction", "drawnSize", "(II)[I"⟩ : MethodName)) (Wd := 0) (cells' := 1) (slots' := 2) (argsL := [(.int p2), (.int p3)]) (rest := []) X39 hx hZ hown (by rw [hml]; rfl) (hv 11 rfl) (hv 12 rfl) (notFace_of_selects (args := #[]) (mvT hZ (hv 14 rfl))) (hv 14 rfl) (hv 13 rfl) (hv 15 rfl) (hv 5 rfl) (hb hby at_53) (by decide) (rmd1 l Z a0 hw [] s_LEFT_TO_RIGHT p2 p3 h0 n0 Z0 (F11_turned.ext O0.2)) e39 (E_s_LEFT_TO_RIGHT.ext O0.2) rfl rfl pd_rm0_1 rfl (Nat.le_of_eq rfl) (by decide) (by decide) rfl rfl (by decide) (by decide)
    obtain ⟨ob_44, ok_44, rfl, Nq44, Kq44, q44_0, q44_1, q44_2⟩ := Q44
    have N44 := Fr.app N2 Nq44
    obtain ⟨h44, e44⟩ : ∃ h, T44.heap = h := ⟨_, rfl⟩
    rw [e44] at Kq44 q44_0
    have Z44 : n0 ≤ h44.size := Nat.le_trans Z0 Kq44.1
    have f45 := O0.keep Kq44 (fun x q => absurd q List.not_mem_nil)
    have k44 : Go p e below m W T44 56 #[.val (.int p1), .val (.int p2), .val (.int p3), .val (.ref s_LEFT_TO_RIGHT), .val (.int (1 : Int32)), .val (.int p3), .val (.int p2), .unset, .unset, .unset, .unset] [(.ref ob_44)] := k44
    have k46 : Go p e below m W T44 58 #[.val (.int p1), .val (.int p2), .val (.int p3), .val (.ref s_LEFT_TO_RIGHT), .val (.int (1 : Int32)), .val (.int p3), .val (.int p2), .val (.ref ob_44), .unset, .unset, .unset] [] := k44.astore X44 hx (hb hby at_56) rfl rfl
    have k47 : Go p e below m W T44 65 #[.val (.int p1), .val (.int p2), .val (.int p3), .val (.ref s_LEFT_TO_RIGHT), .val (.int (1 : Int32)), .val (.int p3), .val (.int p2), .val (.ref ob_44), .unset, .unset, .unset] [(.ref ob_44)] := ((k46.aload X44 hx (hb hby at_58) rfl rfl).nullNo X44 hx (hb hby at_60) rfl (fun q => by cases q)).aload X44 hx (hb hby at_63) rfl rfl
    have k48 : Go p e below m W T44 75 #[.val (.int p1), .val (.int p2), .val (.int p3), .val (.ref s_LEFT_TO_RIGHT), .val (.int (1 : Int32)), .val (.int p3), .val (.int p2), .val (.ref ob_44), .unset, .unset, .unset] [(.int (0 : Int32)), (.ref ob_44)] := ((((k47.arraylength X44 hx hZ e44 q44_0 (hb hby at_65)).iconst X44 hx (hb hby at_66) (v := (2 : Int32)) rfl).icmpYes X44 hx (hb hby at_67) (XT.ii_eq_t (by decide)) (by decide) (by decide)).aload X44 hx (hb hby at_72) rfl rfl).iconst X44 hx (hb hby at_74) (v := (0 : Int32)) rfl
    have k49 : Go p e below m W T44 84 #[.val (.int p1), .val (.int p2), .val (.int p3), .val (.ref s_LEFT_TO_RIGHT), .val (.int (1 : Int32)), .val (.int p3), .val (.int p2), .val (.ref ob_44), .unset, .unset, .unset] [(.int (1 : Int32)), (.ref ob_44)] := ((((k48.iaload (i := 0) (n := 2) X44 hx hZ e44 q44_0 rfl rfl (by decide) (by decide) rfl (hb hby at_75)).iload X44 hx (hb hby at_76) rfl).icmpNo X44 hx (hb hby at_78) (XT.ii_ne_f rfl)).aload X44 hx (hb hby at_81) rfl rfl).iconst X44 hx (hb hby at_83) (v := (1 : Int32)) rfl
    have k50 : Go p e below m W T44 97 #[.val (.int p1), .val (.int p2), .val (.int p3), .val (.ref s_LEFT_TO_RIGHT), .val (.int (1 : Int32)), .val (.int p3), .val (.int p2), .val (.ref ob_44), .val (.int (1 : Int32)), .unset, .unset] [] := (((((k49.iaload (i := 1) (n := 2) X44 hx hZ e44 q44_0 rfl rfl (by decide) (by decide) rfl (hb hby at_84)).iload X44 hx (hb hby at_85) rfl).icmpNo X44 hx (hb hby at_87) (XT.ii_ne_f rfl)).iconst X44 hx (hb hby at_90) (v := (1 : Int32)) rfl).goto X44 hx (hb hby at_91) (by decide) (by decide)).istore X44 hx (hb hby at_95) rfl
    have k51 : Go p e below m W T44 101 #[.val (.int p1), .val (.int p2), .val (.int p3), .val (.ref s_LEFT_TO_RIGHT), .val (.int (1 : Int32)), .val (.int p3), .val (.int p2), .val (.ref ob_44), .val (.int (1 : Int32)), .unset, .unset] [(.int p3), (.int p2), (.ref s_LEFT_TO_RIGHT), (.ref s_LEFT_TO_RIGHT)] := (((k50.aloadN X44 hx (hb hby at_97) rfl rfl).aloadN X44 hx (hb hby at_98) rfl rfl).iloadN X44 hx (hb hby at_99) rfl).iloadN X44 hx (hb hby at_100) rfl
    obtain ⟨T52, v52, L52, X52, Q52, k52⟩ := k51.virt (y := (⟨"com/example/dress/dress/layout/Direction", "along", "(II)I"⟩ : MethodName)) (z := (⟨"com/example/dress/dress/layout/Direction", "along", "(II)I"⟩ : MethodName)) (Wd := 1) (cells' := 1) (slots' := 2) (argsL := [(.int p2), (.int p3)]) (rest := [(.ref s_LEFT_TO_RIGHT)]) X44 hx hZ hown (by rw [hml]; rfl) (hv 19 rfl) (hv 20 rfl) (notFace_of_selects (args := #[]) (mvT hZ (hv 22 rfl))) (hv 22 rfl) (hv 21 rfl) (hv 23 rfl) (hv 5 rfl) (hb hby at_101) (by decide) (rmal1 l Z a0 hw [] s_LEFT_TO_RIGHT p2 p3 h44 n0 Z44 (F11_turned.ext f45.2)) e44 (E_s_LEFT_TO_RIGHT.ext f45.2) rfl rfl pd_rm0_2 rfl (Nat.le_of_eq rfl) (by decide) (by decide) rfl rfl (by decide) (by decide)
    obtain ⟨rfl, Nq52, e52q⟩ := Q52
    have N52 := Fr.app N44 Nq52
    have e52 : T52.heap = h44 := e52q
    have k52 : Go p e below m W T52 104 #[.val (.int p1), .val (.int p2), .val (.int p3), .val (.ref s_LEFT_TO_RIGHT), .val (.int (1 : Int32)), .val (.int p3), .val (.int p2), .val (.ref ob_44), .val (.int (1 : Int32)), .unset, .unset] [(.int p3), (.ref s_LEFT_TO_RIGHT)] := k52
    have k53 : Go p e below m W T52 107 #[.val (.int p1), .val (.int p2), .val (.int p3), .val (.ref s_LEFT_TO_RIGHT), .val (.int (1 : Int32)), .val (.int p3), .val (.int p2), .val (.ref ob_44), .val (.int (1 : Int32)), .unset, .unset] [(.int p3), (.int p2), (.ref s_LEFT_TO_RIGHT), (.int p3), (.ref s_LEFT_TO_RIGHT)] := ((k52.aloadN X52 hx (hb hby at_104) rfl rfl).iloadN X52 hx (hb hby at_105) rfl).iloadN X52 hx (hb hby at_106) rfl
    obtain ⟨T54, v54, L54, X54, Q54, k54⟩ := k53.virt (y := (⟨"com/example/dress/dress/layout/Direction", "across", "(II)I"⟩ : MethodName)) (z := (⟨"com/example/dress/dress/layout/Direction", "across", "(II)I"⟩ : MethodName)) (Wd := 2) (cells' := 1) (slots' := 2) (argsL := [(.int p2), (.int p3)]) (rest := [(.int p3), (.ref s_LEFT_TO_RIGHT)]) X52 hx hZ hown (by rw [hml]; rfl) (hv 24 rfl) (hv 25 rfl) (notFace_of_selects (args := #[]) (mvT hZ (hv 27 rfl))) (hv 27 rfl) (hv 26 rfl) (hv 28 rfl) (hv 5 rfl) (hb hby at_107) (by decide) (rmac1 l Z a0 hw [] s_LEFT_TO_RIGHT p2 p3 h44 n0 Z44 (F11_turned.ext f45.2)) e52 (E_s_LEFT_TO_RIGHT.ext f45.2) rfl rfl pd_rm0_2 rfl (Nat.le_of_eq rfl) (by decide) (by decide) rfl rfl (by decide) (by decide)
    obtain ⟨rfl, Nq54, e54q⟩ := Q54
    have N54 := Fr.app N52 Nq54
    have e54 : T54.heap = h44 := e54q
    have k54 : Go p e below m W T54 110 #[.val (.int p1), .val (.int p2), .val (.int p3), .val (.ref s_LEFT_TO_RIGHT), .val (.int (1 : Int32)), .val (.int p3), .val (.int p2), .val (.ref ob_44), .val (.int (1 : Int32)), .unset, .unset] [(.int p2), (.int p3), (.ref s_LEFT_TO_RIGHT)] := k54
    obtain ⟨T55, v55, L55, X55, Q55, k55⟩ := k54.virt (y := (⟨"com/example/dress/dress/layout/Direction", "drawnSize", "(II)[I"⟩ : MethodName)) (z := (⟨"com/example/dress/dress/layout/Direction", "drawnSize", "(II)[I"⟩ : MethodName)) (Wd := 0) (cells' := 2) (slots' := 4) (argsL := [(.int p3), (.int p2)]) (rest := []) X54 hx hZ hown (by rw [hml]; rfl) (hv 11 rfl) (hv 12 rfl) (notFace_of_selects (args := #[]) (mvT hZ (hv 14 rfl))) (hv 14 rfl) (hv 13 rfl) (hv 15 rfl) (hv 5 rfl) (hb hby at_110) (by decide) (rmd1 l Z a0 hw [] s_LEFT_TO_RIGHT p3 p2 h44 n0 Z44 (F11_turned.ext f45.2)) e54 (E_s_LEFT_TO_RIGHT.ext f45.2) rfl rfl pd_rm0_1 rfl (Nat.le_of_eq rfl) (by decide) (by decide) rfl rfl (by decide) (by decide)
    obtain ⟨ob_55, ok_55, rfl, Nq55, Kq55, q55_0, q55_1, q55_2⟩ := Q55
    have N55 := Fr.app N54 Nq55
    obtain ⟨h55, e55⟩ : ∃ h, T55.heap = h := ⟨_, rfl⟩
    rw [e55] at Kq55 q55_0
    have Z55 : n0 ≤ h55.size := Nat.le_trans Z44 Kq55.1
    have f56 := f45.keep Kq55 (fun x q => absurd q List.not_mem_nil)
    have f57 := q44_0.keep Kq55 (List.not_mem_nil)
    have ne58_ob_44 : ob_44 ≠ ob_55 := Nat.ne_of_lt (Nat.lt_of_lt_of_le q44_0.lt q55_2)
    have k55 : Go p e below m W T55 113 #[.val (.int p1), .val (.int p2), .val (.int p3), .val (.ref s_LEFT_TO_RIGHT), .val (.int (1 : Int32)), .val (.int p3), .val (.int p2), .val (.ref ob_44), .val (.int (1 : Int32)), .unset, .unset] [(.ref ob_55)] := k55
    have k59 : Go p e below m W T55 115 #[.val (.int p1), .val (.int p2), .val (.int p3), .val (.ref s_LEFT_TO_RIGHT), .val (.int (1 : Int32)), .val (.int p3), .val (.int p2), .val (.ref ob_44), .val (.int (1 : Int32)), .val (.ref ob_55), .unset] [] := k55.astore X55 hx (hb hby at_113) rfl rfl
    have k60 : Go p e below m W T55 122 #[.val (.int p1), .val (.int p2), .val (.int p3), .val (.ref s_LEFT_TO_RIGHT), .val (.int (1 : Int32)), .val (.int p3), .val (.int p2), .val (.ref ob_44), .val (.int (1 : Int32)), .val (.ref ob_55), .unset] [(.ref ob_55)] := ((k59.aload X55 hx (hb hby at_115) rfl rfl).nullNo X55 hx (hb hby at_117) rfl (fun q => by cases q)).aload X55 hx (hb hby at_120) rfl rfl
    have k61 : Go p e below m W T55 132 #[.val (.int p1), .val (.int p2), .val (.int p3), .val (.ref s_LEFT_TO_RIGHT), .val (.int (1 : Int32)), .val (.int p3), .val (.int p2), .val (.ref ob_44), .val (.int (1 : Int32)), .val (.ref ob_55), .unset] [(.int (0 : Int32)), (.ref ob_55)] := ((((k60.arraylength X55 hx hZ e55 q55_0 (hb hby at_122)).iconst X55 hx (hb hby at_123) (v := (2 : Int32)) rfl).icmpYes X55 hx (hb hby at_124) (XT.ii_eq_t (by decide)) (by decide) (by decide)).aload X55 hx (hb hby at_129) rfl rfl).iconst X55 hx (hb hby at_131) (v := (0 : Int32)) rfl
    have k62 : Go p e below m W T55 140 #[.val (.int p1), .val (.int p2), .val (.int p3), .val (.ref s_LEFT_TO_RIGHT), .val (.int (1 : Int32)), .val (.int p3), .val (.int p2), .val (.ref ob_44), .val (.int (1 : Int32)), .val (.ref ob_55), .unset] [(.int (1 : Int32)), (.ref ob_55)] := ((((k61.iaload (i := 0) (n := 2) X55 hx hZ e55 q55_0 rfl rfl (by decide) (by decide) rfl (hb hby at_132)).iloadN X55 hx (hb hby at_133) rfl).icmpNo X55 hx (hb hby at_134) (XT.ii_ne_f rfl)).aload X55 hx (hb hby at_137) rfl rfl).iconst X55 hx (hb hby at_139) (v := (1 : Int32)) rfl
    have k63 : Go p e below m W T55 152 #[.val (.int p1), .val (.int p2), .val (.int p3), .val (.ref s_LEFT_TO_RIGHT), .val (.int (1 : Int32)), .val (.int p3), .val (.int p2), .val (.ref ob_44), .val (.int (1 : Int32)), .val (.ref ob_55), .val (.int (1 : Int32))] [] := (((((k62.iaload (i := 1) (n := 2) X55 hx hZ e55 q55_0 rfl rfl (by decide) (by decide) rfl (hb hby at_140)).iloadN X55 hx (hb hby at_141) rfl).icmpNo X55 hx (hb hby at_142) (XT.ii_ne_f rfl)).iconst X55 hx (hb hby at_145) (v := (1 : Int32)) rfl).goto X55 hx (hb hby at_146) (by decide) (by decide)).istore X55 hx (hb hby at_150) rfl
    have k64 : Go p e below m W T55 167 #[.val (.int p1), .val (.int p2), .val (.int p3), .val (.ref s_LEFT_TO_RIGHT), .val (.int (1 : Int32)), .val (.int p3), .val (.int p2), .val (.ref ob_44), .val (.int (1 : Int32)), .val (.ref ob_55), .val (.int (1 : Int32))] [(.int (1 : Int32))] := (((((k63.iload X55 hx (hb hby at_152) rfl).ifNo X55 hx (hb hby at_154) (XT.i0_eq_f (by decide))).iload X55 hx (hb hby at_157) rfl).ifNo X55 hx (hb hby at_159) (XT.i0_eq_f (by decide))).iconst X55 hx (hb hby at_162) (v := (1 : Int32)) rfl).goto X55 hx (hb hby at_163) (by decide) (by decide)
    exact k64.ireturnN X55 hx (t := .boolean) Bd.returns (by simp) rfl (hb hby at_167) (BodyLoose.notSynchronized Bd) (by rw [e55]; exact ⟨rfl, N55⟩) (by decide) (by decide)
  ·
    subst ro_2
    have k65 : Go p e below m W T2 5 #[.val (.int p1), .val (.int p2), .val (.int p3), .val (.ref s_BOTTOM_TO_TOP), .unset, .unset, .unset, .unset, .unset, .unset, .unset] [] := k2.astoreN X2 hx (hb hby at_4) rfl rfl
    have k66 : Go p e below m W T2 6 #[.val (.int p1), .val (.int p2), .val (.int p3), .val (.ref s_BOTTOM_TO_TOP), .unset, .unset, .unset, .unset, .unset, .unset, .unset] [(.ref s_BOTTOM_TO_TOP)] := k65.aloadN X2 hx (hb hby at_5) rfl rfl
    obtain ⟨T67, X67, e67, k67⟩ := k66.getS X2 hx hZ hown (host := "") (Or.inl (hv 7 rfl)) Via.refl e2 (S_s_LEFT_TO_RIGHT.ext O0.2) (hb hby at_6)
    have k67 : Go p e below m W T67 9 #[.val (.int p1), .val (.int p2), .val (.int p3), .val (.ref s_BOTTOM_TO_TOP), .unset, .unset, .unset, .unset, .unset, .unset, .unset] [(.ref s_LEFT_TO_RIGHT), (.ref s_BOTTOM_TO_TOP)] := k67
    have k68 : Go p e below m W T67 13 #[.val (.int p1), .val (.int p2), .val (.int p3), .val (.ref s_BOTTOM_TO_TOP), .unset, .unset, .unset, .unset, .unset, .unset, .unset] [(.ref s_BOTTOM_TO_TOP)] := (k67.acmpNo X67 hx (hb hby at_9) rfl rfl (XT.aa_eq_f (fun q => (own_ne F15_ordinal F6_ordinal (by decide)) (Value.ref.inj q)))).aloadN X67 hx (hb hby at_12) rfl rfl
    obtain ⟨T69, X69, e69, k69⟩ := k68.getS X67 hx hZ hown (host := "") (Or.inl (hv 9 rfl)) Via.refl e67 (S_s_RIGHT_TO_LEFT.ext O0.2) (hb hby at_13)
    have k69 : Go p e below m W T69 16 #[.val (.int p1), .val (.int p2), .val (.int p3), .val (.ref s_BOTTOM_TO_TOP), .unset, .unset, .unset, .unset, .unset, .unset, .unset] [(.ref s_RIGHT_TO_LEFT), (.ref s_BOTTOM_TO_TOP)] := k69
    have k70 : Go p e below m W T69 26 #[.val (.int p1), .val (.int p2), .val (.int p3), .val (.ref s_BOTTOM_TO_TOP), .val (.int (0 : Int32)), .unset, .unset, .unset, .unset, .unset, .unset] [] := ((k69.acmpYes X69 hx (hb hby at_16) rfl rfl (XT.aa_ne_t (fun q => (own_ne F15_ordinal F9_ordinal (by decide)) (Value.ref.inj q))) (by decide) (by decide)).iconst X69 hx (hb hby at_23) (v := (0 : Int32)) rfl).istore X69 hx (hb hby at_24) rfl
    have k71 : Go p e below m W T69 38 #[.val (.int p1), .val (.int p2), .val (.int p3), .val (.ref s_BOTTOM_TO_TOP), .val (.int (0 : Int32)), .val (.int p2), .unset, .unset, .unset, .unset, .unset] [] := (((k70.iload X69 hx (hb hby at_26) rfl).ifYes X69 hx (hb hby at_28) (XT.i0_eq_t (by decide)) (by decide) (by decide)).iloadN X69 hx (hb hby at_35) rfl).istore X69 hx (hb hby at_36) rfl
    have k72 : Go p e below m W T69 50 #[.val (.int p1), .val (.int p2), .val (.int p3), .val (.ref s_BOTTOM_TO_TOP), .val (.int (0 : Int32)), .val (.int p2), .val (.int p3), .unset, .unset, .unset, .unset] [] := (((k71.iload X69 hx (hb hby at_38) rfl).ifYes X69 hx (hb hby at_40) (XT.i0_eq_t (by decide)) (by decide) (by decide)).iloadN X69 hx (hb hby at_47) rfl).istore X69 hx (hb hby at_48) rfl
    have k73 : Go p e below m W T69 53 #[.val (.int p1), .val (.int p2), .val (.int p3), .val (.ref s_BOTTOM_TO_TOP), .val (.int (0 : Int32)), .val (.int p2), .val (.int p3), .unset, .unset, .unset, .unset] [(.int p3), (.int p2), (.ref s_BOTTOM_TO_TOP)] := ((k72.aloadN X69 hx (hb hby at_50) rfl rfl).iloadN X69 hx (hb hby at_51) rfl).iloadN X69 hx (hb hby at_52) rfl
    obtain ⟨T74, v74, L74, X74, Q74, k74⟩ := k73.virt (y := (⟨"com/example/dress/dress/layout/Direction", "drawnSize", "(II)[I"⟩ : MethodName)) (z := (⟨"com/example/dress/dress/layout/Direction", "drawnSize", "(II)[I"⟩ : MethodName)) (Wd := 0) (cells' := 1) (slots' := 2) (argsL := [(.int p2), (.int p3)]) (rest := []) X69 hx hZ hown (by rw [hml]; rfl) (hv 11 rfl) (hv 12 rfl) (notFace_of_selects (args := #[]) (mvT hZ (hv 14 rfl))) (hv 14 rfl) (hv 13 rfl) (hv 15 rfl) (hv 5 rfl) (hb hby at_53) (by decide) (rmd0 l Z a0 hw [] s_BOTTOM_TO_TOP p2 p3 h0 n0 Z0 (F16_turned.ext O0.2)) e69 (E_s_BOTTOM_TO_TOP.ext O0.2) rfl rfl pd_rm0_1 rfl (Nat.le_of_eq rfl) (by decide) (by decide) rfl rfl (by decide) (by decide)
    obtain ⟨ob_74, ok_74, rfl, Nq74, Kq74, q74_0, q74_1, q74_2⟩ := Q74
    have N74 := Fr.app N2 Nq74
    obtain ⟨h74, e74⟩ : ∃ h, T74.heap = h := ⟨_, rfl⟩
    rw [e74] at Kq74 q74_0
    have Z74 : n0 ≤ h74.size := Nat.le_trans Z0 Kq74.1
    have f75 := O0.keep Kq74 (fun x q => absurd q List.not_mem_nil)
    have k74 : Go p e below m W T74 56 #[.val (.int p1), .val (.int p2), .val (.int p3), .val (.ref s_BOTTOM_TO_TOP), .val (.int (0 : Int32)), .val (.int p2), .val (.int p3), .unset, .unset, .unset, .unset] [(.ref ob_74)] := k74
    have k76 : Go p e below m W T74 58 #[.val (.int p1), .val (.int p2), .val (.int p3), .val (.ref s_BOTTOM_TO_TOP), .val (.int (0 : Int32)), .val (.int p2), .val (.int p3), .val (.ref ob_74), .unset, .unset, .unset] [] := k74.astore X74 hx (hb hby at_56) rfl rfl
    have k77 : Go p e below m W T74 65 #[.val (.int p1), .val (.int p2), .val (.int p3), .val (.ref s_BOTTOM_TO_TOP), .val (.int (0 : Int32)), .val (.int p2), .val (.int p3), .val (.ref ob_74), .unset, .unset, .unset] [(.ref ob_74)] := ((k76.aload X74 hx (hb hby at_58) rfl rfl).nullNo X74 hx (hb hby at_60) rfl (fun q => by cases q)).aload X74 hx (hb hby at_63) rfl rfl
    have k78 : Go p e below m W T74 75 #[.val (.int p1), .val (.int p2), .val (.int p3), .val (.ref s_BOTTOM_TO_TOP), .val (.int (0 : Int32)), .val (.int p2), .val (.int p3), .val (.ref ob_74), .unset, .unset, .unset] [(.int (0 : Int32)), (.ref ob_74)] := ((((k77.arraylength X74 hx hZ e74 q74_0 (hb hby at_65)).iconst X74 hx (hb hby at_66) (v := (2 : Int32)) rfl).icmpYes X74 hx (hb hby at_67) (XT.ii_eq_t (by decide)) (by decide) (by decide)).aload X74 hx (hb hby at_72) rfl rfl).iconst X74 hx (hb hby at_74) (v := (0 : Int32)) rfl
    have k79 : Go p e below m W T74 84 #[.val (.int p1), .val (.int p2), .val (.int p3), .val (.ref s_BOTTOM_TO_TOP), .val (.int (0 : Int32)), .val (.int p2), .val (.int p3), .val (.ref ob_74), .unset, .unset, .unset] [(.int (1 : Int32)), (.ref ob_74)] := ((((k78.iaload (i := 0) (n := 2) X74 hx hZ e74 q74_0 rfl rfl (by decide) (by decide) rfl (hb hby at_75)).iload X74 hx (hb hby at_76) rfl).icmpNo X74 hx (hb hby at_78) (XT.ii_ne_f rfl)).aload X74 hx (hb hby at_81) rfl rfl).iconst X74 hx (hb hby at_83) (v := (1 : Int32)) rfl
    have k80 : Go p e below m W T74 97 #[.val (.int p1), .val (.int p2), .val (.int p3), .val (.ref s_BOTTOM_TO_TOP), .val (.int (0 : Int32)), .val (.int p2), .val (.int p3), .val (.ref ob_74), .val (.int (1 : Int32)), .unset, .unset] [] := (((((k79.iaload (i := 1) (n := 2) X74 hx hZ e74 q74_0 rfl rfl (by decide) (by decide) rfl (hb hby at_84)).iload X74 hx (hb hby at_85) rfl).icmpNo X74 hx (hb hby at_87) (XT.ii_ne_f rfl)).iconst X74 hx (hb hby at_90) (v := (1 : Int32)) rfl).goto X74 hx (hb hby at_91) (by decide) (by decide)).istore X74 hx (hb hby at_95) rfl
    have k81 : Go p e below m W T74 101 #[.val (.int p1), .val (.int p2), .val (.int p3), .val (.ref s_BOTTOM_TO_TOP), .val (.int (0 : Int32)), .val (.int p2), .val (.int p3), .val (.ref ob_74), .val (.int (1 : Int32)), .unset, .unset] [(.int p3), (.int p2), (.ref s_BOTTOM_TO_TOP), (.ref s_BOTTOM_TO_TOP)] := (((k80.aloadN X74 hx (hb hby at_97) rfl rfl).aloadN X74 hx (hb hby at_98) rfl rfl).iloadN X74 hx (hb hby at_99) rfl).iloadN X74 hx (hb hby at_100) rfl
    obtain ⟨T82, v82, L82, X82, Q82, k82⟩ := k81.virt (y := (⟨"com/example/dress/dress/layout/Direction", "along", "(II)I"⟩ : MethodName)) (z := (⟨"com/example/dress/dress/layout/Direction", "along", "(II)I"⟩ : MethodName)) (Wd := 1) (cells' := 1) (slots' := 2) (argsL := [(.int p2), (.int p3)]) (rest := [(.ref s_BOTTOM_TO_TOP)]) X74 hx hZ hown (by rw [hml]; rfl) (hv 19 rfl) (hv 20 rfl) (notFace_of_selects (args := #[]) (mvT hZ (hv 22 rfl))) (hv 22 rfl) (hv 21 rfl) (hv 23 rfl) (hv 5 rfl) (hb hby at_101) (by decide) (rmal0 l Z a0 hw [] s_BOTTOM_TO_TOP p2 p3 h74 n0 Z74 (F16_turned.ext f75.2)) e74 (E_s_BOTTOM_TO_TOP.ext f75.2) rfl rfl pd_rm0_2 rfl (Nat.le_of_eq rfl) (by decide) (by decide) rfl rfl (by decide) (by decide)
    obtain ⟨rfl, Nq82, e82q⟩ := Q82
    have N82 := Fr.app N74 Nq82
    have e82 : T82.heap = h74 := e82q
    have k82 : Go p e below m W T82 104 #[.val (.int p1), .val (.int p2), .val (.int p3), .val (.ref s_BOTTOM_TO_TOP), .val (.int (0 : Int32)), .val (.int p2), .val (.int p3), .val (.ref ob_74), .val (.int (1 : Int32)), .unset, .unset] [(.int p2), (.ref s_BOTTOM_TO_TOP)] := k82
    have k83 : Go p e below m W T82 107 #[.val (.int p1), .val (.int p2), .val (.int p3), .val (.ref s_BOTTOM_TO_TOP), .val (.int (0 : Int32)), .val (.int p2), .val (.int p3), .val (.ref ob_74), .val (.int (1 : Int32)), .unset, .unset] [(.int p3), (.int p2), (.ref s_BOTTOM_TO_TOP), (.int p2), (.ref s_BOTTOM_TO_TOP)] := ((k82.aloadN X82 hx (hb hby at_104) rfl rfl).iloadN X82 hx (hb hby at_105) rfl).iloadN X82 hx (hb hby at_106) rfl
    obtain ⟨T84, v84, L84, X84, Q84, k84⟩ := k83.virt (y := (⟨"com/example/dress/dress/layout/Direction", "across", "(II)I"⟩ : MethodName)) (z := (⟨"com/example/dress/dress/layout/Direction", "across", "(II)I"⟩ : MethodName)) (Wd := 2) (cells' := 1) (slots' := 2) (argsL := [(.int p2), (.int p3)]) (rest := [(.int p2), (.ref s_BOTTOM_TO_TOP)]) X82 hx hZ hown (by rw [hml]; rfl) (hv 24 rfl) (hv 25 rfl) (notFace_of_selects (args := #[]) (mvT hZ (hv 27 rfl))) (hv 27 rfl) (hv 26 rfl) (hv 28 rfl) (hv 5 rfl) (hb hby at_107) (by decide) (rmac0 l Z a0 hw [] s_BOTTOM_TO_TOP p2 p3 h74 n0 Z74 (F16_turned.ext f75.2)) e82 (E_s_BOTTOM_TO_TOP.ext f75.2) rfl rfl pd_rm0_2 rfl (Nat.le_of_eq rfl) (by decide) (by decide) rfl rfl (by decide) (by decide)
    obtain ⟨rfl, Nq84, e84q⟩ := Q84
    have N84 := Fr.app N82 Nq84
    have e84 : T84.heap = h74 := e84q
    have k84 : Go p e below m W T84 110 #[.val (.int p1), .val (.int p2), .val (.int p3), .val (.ref s_BOTTOM_TO_TOP), .val (.int (0 : Int32)), .val (.int p2), .val (.int p3), .val (.ref ob_74), .val (.int (1 : Int32)), .unset, .unset] [(.int p3), (.int p2), (.ref s_BOTTOM_TO_TOP)] := k84
    obtain ⟨T85, v85, L85, X85, Q85, k85⟩ := k84.virt (y := (⟨"com/example/dress/dress/layout/Direction", "drawnSize", "(II)[I"⟩ : MethodName)) (z := (⟨"com/example/dress/dress/layout/Direction", "drawnSize", "(II)[I"⟩ : MethodName)) (Wd := 0) (cells' := 2) (slots' := 4) (argsL := [(.int p2), (.int p3)]) (rest := []) X84 hx hZ hown (by rw [hml]; rfl) (hv 11 rfl) (hv 12 rfl) (notFace_of_selects (args := #[]) (mvT hZ (hv 14 rfl))) (hv 14 rfl) (hv 13 rfl) (hv 15 rfl) (hv 5 rfl) (hb hby at_110) (by decide) (rmd0 l Z a0 hw [] s_BOTTOM_TO_TOP p2 p3 h74 n0 Z74 (F16_turned.ext f75.2)) e84 (E_s_BOTTOM_TO_TOP.ext f75.2) rfl rfl pd_rm0_1 rfl (Nat.le_of_eq rfl) (by decide) (by decide) rfl rfl (by decide) (by decide)
    obtain ⟨ob_85, ok_85, rfl, Nq85, Kq85, q85_0, q85_1, q85_2⟩ := Q85
    have N85 := Fr.app N84 Nq85
    obtain ⟨h85, e85⟩ : ∃ h, T85.heap = h := ⟨_, rfl⟩
    rw [e85] at Kq85 q85_0
    have Z85 : n0 ≤ h85.size := Nat.le_trans Z74 Kq85.1
    have f86 := f75.keep Kq85 (fun x q => absurd q List.not_mem_nil)
    have f87 := q74_0.keep Kq85 (List.not_mem_nil)
    have ne88_ob_74 : ob_74 ≠ ob_85 := Nat.ne_of_lt (Nat.lt_of_lt_of_le q74_0.lt q85_2)
    have k85 : Go p e below m W T85 113 #[.val (.int p1), .val (.int p2), .val (.int p3), .val (.ref s_BOTTOM_TO_TOP), .val (.int (0 : Int32)), .val (.int p2), .val (.int p3), .val (.ref ob_74), .val (.int (1 : Int32)), .unset, .unset] [(.ref ob_85)] := k85
    have k89 : Go p e below m W T85 115 #[.val (.int p1), .val (.int p2), .val (.int p3), .val (.ref s_BOTTOM_TO_TOP), .val (.int (0 : Int32)), .val (.int p2), .val (.int p3), .val (.ref ob_74), .val (.int (1 : Int32)), .val (.ref ob_85), .unset] [] := k85.astore X85 hx (hb hby at_113) rfl rfl
    have k90 : Go p e below m W T85 122 #[.val (.int p1), .val (.int p2), .val (.int p3), .val (.ref s_BOTTOM_TO_TOP), .val (.int (0 : Int32)), .val (.int p2), .val (.int p3), .val (.ref ob_74), .val (.int (1 : Int32)), .val (.ref ob_85), .unset] [(.ref ob_85)] := ((k89.aload X85 hx (hb hby at_115) rfl rfl).nullNo X85 hx (hb hby at_117) rfl (fun q => by cases q)).aload X85 hx (hb hby at_120) rfl rfl
    have k91 : Go p e below m W T85 132 #[.val (.int p1), .val (.int p2), .val (.int p3), .val (.ref s_BOTTOM_TO_TOP), .val (.int (0 : Int32)), .val (.int p2), .val (.int p3), .val (.ref ob_74), .val (.int (1 : Int32)), .val (.ref ob_85), .unset] [(.int (0 : Int32)), (.ref ob_85)] := ((((k90.arraylength X85 hx hZ e85 q85_0 (hb hby at_122)).iconst X85 hx (hb hby at_123) (v := (2 : Int32)) rfl).icmpYes X85 hx (hb hby at_124) (XT.ii_eq_t (by decide)) (by decide) (by decide)).aload X85 hx (hb hby at_129) rfl rfl).iconst X85 hx (hb hby at_131) (v := (0 : Int32)) rfl
    have k92 : Go p e below m W T85 140 #[.val (.int p1), .val (.int p2), .val (.int p3), .val (.ref s_BOTTOM_TO_TOP), .val (.int (0 : Int32)), .val (.int p2), .val (.int p3), .val (.ref ob_74), .val (.int (1 : Int32)), .val (.ref ob_85), .unset] [(.int (1 : Int32)), (.ref ob_85)] := ((((k91.iaload (i := 0) (n := 2) X85 hx hZ e85 q85_0 rfl rfl (by decide) (by decide) rfl (hb hby at_132)).iloadN X85 hx (hb hby at_133) rfl).icmpNo X85 hx (hb hby at_134) (XT.ii_ne_f rfl)).aload X85 hx (hb hby at_137) rfl rfl).iconst X85 hx (hb hby at_139) (v := (1 : Int32)) rfl
    have k93 : Go p e below m W T85 152 #[.val (.int p1), .val (.int p2), .val (.int p3), .val (.ref s_BOTTOM_TO_TOP), .val (.int (0 : Int32)), .val (.int p2), .val (.int p3), .val (.ref ob_74), .val (.int (1 : Int32)), .val (.ref ob_85), .val (.int (1 : Int32))] [] := (((((k92.iaload (i := 1) (n := 2) X85 hx hZ e85 q85_0 rfl rfl (by decide) (by decide) rfl (hb hby at_140)).iloadN X85 hx (hb hby at_141) rfl).icmpNo X85 hx (hb hby at_142) (XT.ii_ne_f rfl)).iconst X85 hx (hb hby at_145) (v := (1 : Int32)) rfl).goto X85 hx (hb hby at_146) (by decide) (by decide)).istore X85 hx (hb hby at_150) rfl
    have k94 : Go p e below m W T85 167 #[.val (.int p1), .val (.int p2), .val (.int p3), .val (.ref s_BOTTOM_TO_TOP), .val (.int (0 : Int32)), .val (.int p2), .val (.int p3), .val (.ref ob_74), .val (.int (1 : Int32)), .val (.ref ob_85), .val (.int (1 : Int32))] [(.int (1 : Int32))] := (((((k93.iload X85 hx (hb hby at_152) rfl).ifNo X85 hx (hb hby at_154) (XT.i0_eq_f (by decide))).iload X85 hx (hb hby at_157) rfl).ifNo X85 hx (hb hby at_159) (XT.i0_eq_f (by decide))).iconst X85 hx (hb hby at_162) (v := (1 : Int32)) rfl).goto X85 hx (hb hby at_163) (by decide) (by decide)
    exact k94.ireturnN X85 hx (t := .boolean) Bd.returns (by simp) rfl (hb hby at_167) (BodyLoose.notSynchronized Bd) (by rw [e85]; exact ⟨rfl, N85⟩) (by decide) (by decide)
  ·
    subst ro_2
    have k95 : Go p e below m W T2 5 #[.val (.int p1), .val (.int p2), .val (.int p3), .val (.ref s_RIGHT_TO_LEFT), .unset, .unset, .unset, .unset, .unset, .unset, .unset] [] := k2.astoreN X2 hx (hb hby at_4) rfl rfl
    have k96 : Go p e below m W T2 6 #[.val (.int p1), .val (.int p2), .val (.int p3), .val (.ref s_RIGHT_TO_LEFT), .unset, .unset, .unset, .unset, .unset, .unset, .unset] [(.ref s_RIGHT_TO_LEFT)] := k95.aloadN X2 hx (hb hby at_5) rfl rfl
    obtain ⟨T97, X97, e97, k97⟩ := k96.getS X2 hx hZ hown (host := "") (Or.inl (hv 7 rfl)) Via.refl e2 (S_s_LEFT_TO_RIGHT.ext O0.2) (hb hby at_6)
    have k97 : Go p e below m W T97 9 #[.val (.int p1), .val (.int p2), .val (.int p3), .val (.ref s_RIGHT_TO_LEFT), .unset, .unset, .unset, .unset, .unset, .unset, .unset] [(.ref s_LEFT_TO_RIGHT), (.ref s_RIGHT_TO_LEFT)] := k97
    have k98 : Go p e below m W T97 13 #[.val (.int p1), .val (.int p2), .val (.int p3), .val (.ref s_RIGHT_TO_LEFT), .unset, .unset, .unset, .unset, .unset, .unset, .unset] [(.ref s_RIGHT_TO_LEFT)] := (k97.acmpNo X97 hx (hb hby at_9) rfl rfl (XT.aa_eq_f (fun q => (own_ne F9_ordinal F6_ordinal (by decide)) (Value.ref.inj q)))).aloadN X97 hx (hb hby at_12) rfl rfl
    obtain ⟨T99, X99, e99, k99⟩ := k98.getS X97 hx hZ hown (host := "") (Or.inl (hv 9 rfl)) Via.refl e97 (S_s_RIGHT_TO_LEFT.ext O0.2) (hb hby at_13)
    have k99 : Go p e below m W T99 16 #[.val (.int p1), .val (.int p2), .val (.int p3), .val (.ref s_RIGHT_TO_LEFT), .unset, .unset, .unset, .unset, .unset, .unset, .unset] [(.ref s_RIGHT_TO_LEFT), (.ref s_RIGHT_TO_LEFT)] := k99
    have k100 : Go p e below m W T99 26 #[.val (.int p1), .val (.int p2), .val (.int p3), .val (.ref s_RIGHT_TO_LEFT), .val (.int (1 : Int32)), .unset, .unset, .unset, .unset, .unset, .unset] [] := (((k99.acmpNo X99 hx (hb hby at_16) rfl rfl (XT.aa_ne_f rfl)).iconst X99 hx (hb hby at_19) (v := (1 : Int32)) rfl).goto X99 hx (hb hby at_20) (by decide) (by decide)).istore X99 hx (hb hby at_24) rfl
    have k101 : Go p e below m W T99 38 #[.val (.int p1), .val (.int p2), .val (.int p3), .val (.ref s_RIGHT_TO_LEFT), .val (.int (1 : Int32)), .val (.int p3), .unset, .unset, .unset, .unset, .unset] [] := ((((k100.iload X99 hx (hb hby at_26) rfl).ifNo X99 hx (hb hby at_28) (XT.i0_eq_f (by decide))).iloadN X99 hx (hb hby at_31) rfl).goto X99 hx (hb hby at_32) (by decide) (by decide)).istore X99 hx (hb hby at_36) rfl
    have k102 : Go p e below m W T99 50 #[.val (.int p1), .val (.int p2), .val (.int p3), .val (.ref s_RIGHT_TO_LEFT), .val (.int (1 : Int32)), .val (.int p3), .val (.int p2), .unset, .unset, .unset, .unset] [] := ((((k101.iload X99 hx (hb hby at_38) rfl).ifNo X99 hx (hb hby at_40) (XT.i0_eq_f (by decide))).iloadN X99 hx (hb hby at_43) rfl).goto X99 hx (hb hby at_44) (by decide) (by decide)).istore X99 hx (hb hby at_48) rfl
    have k103 : Go p e below m W T99 53 #[.val (.int p1), .val (.int p2), .val (.int p3), .val (.ref s_RIGHT_TO_LEFT), .val (.int (1 : Int32)), .val (.int p3), .val (.int p2), .unset, .unset, .unset, .unset] [(.int p3), (.int p2), (.ref s_RIGHT_TO_LEFT)] := ((k102.aloadN X99 hx (hb hby at_50) rfl rfl).iloadN X99 hx (hb hby at_51) rfl).iloadN X99 hx (hb hby at_52) rfl
    obtain ⟨T104, v104, L104, X104, Q104, k104⟩ := k103.virt (y := (⟨"com/example/dress/dress/layout/Direction", "drawnSize", "(II)[I"⟩ : MethodName)) (z := (⟨"com/example/dress/dress/layout/Direction", "drawnSize", "(II)[I"⟩ : MethodName)) (Wd := 0) (cells' := 1) (slots' := 2) (argsL := [(.int p2), (.int p3)]) (rest := []) X99 hx hZ hown (by rw [hml]; rfl) (hv 11 rfl) (hv 12 rfl) (notFace_of_selects (args := #[]) (mvT hZ (hv 14 rfl))) (hv 14 rfl) (hv 13 rfl) (hv 15 rfl) (hv 5 rfl) (hb hby at_53) (by decide) (rmd1 l Z a0 hw [] s_RIGHT_TO_LEFT p2 p3 h0 n0 Z0 (F12_turned.ext O0.2)) e99 (E_s_RIGHT_TO_LEFT.ext O0.2) rfl rfl pd_rm0_1 rfl (Nat.le_of_eq rfl) (by decide) (by decide) rfl rfl (by decide) (by decide)
    obtain ⟨ob_104, ok_104, rfl, Nq104, Kq104, q104_0, q104_1, q104_2⟩ := Q104
    have N104 := Fr.app N2 Nq104
    obtain ⟨h104, e104⟩ : ∃ h, T104.heap = h := ⟨_, rfl⟩
    rw [e104] at Kq104 q104_0
    have Z104 : n0 ≤ h104.size := Nat.le_trans Z0 Kq104.1
    have f105 := O0.keep Kq104 (fun x q => absurd q List.not_mem_nil)
    have k104 : Go p e below m W T104 56 #[.val (.int p1), .val (.int p2), .val (.int p3), .val (.ref s_RIGHT_TO_LEFT), .val (.int (1 : Int32)), .val (.int p3), .val (.int p2), .unset, .unset, .unset, .unset] [(.ref ob_104)] := k104
    have k106 : Go p e below m W T104 58 #[.val (.int p1), .val (.int p2), .val (.int p3), .val (.ref s_RIGHT_TO_LEFT), .val (.int (1 : Int32)), .val (.int p3), .val (.int p2), .val (.ref ob_104), .unset, .unset, .unset] [] := k104.astore X104 hx (hb hby at_56) rfl rfl
    have k107 : Go p e below m W T104 65 #[.val (.int p1), .val (.int p2), .val (.int p3), .val (.ref s_RIGHT_TO_LEFT), .val (.int (1 : Int32)), .val (.int p3), .val (.int p2), .val (.ref ob_104), .unset, .unset, .unset] [(.ref ob_104)] := ((k106.aload X104 hx (hb hby at_58) rfl rfl).nullNo X104 hx (hb hby at_60) rfl (fun q => by cases q)).aload X104 hx (hb hby at_63) rfl rfl
    have k108 : Go p e below m W T104 75 #[.val (.int p1), .val (.int p2), .val (.int p3), .val (.ref s_RIGHT_TO_LEFT), .val (.int (1 : Int32)), .val (.int p3), .val (.int p2), .val (.ref ob_104), .unset, .unset, .unset] [(.int (0 : Int32)), (.ref ob_104)] := ((((k107.arraylength X104 hx hZ e104 q104_0 (hb hby at_65)).iconst X104 hx (hb hby at_66) (v := (2 : Int32)) rfl).icmpYes X104 hx (hb hby at_67) (XT.ii_eq_t (by decide)) (by decide) (by decide)).aload X104 hx (hb hby at_72) rfl rfl).iconst X104 hx (hb hby at_74) (v := (0 : Int32)) rfl
    have k109 : Go p e below m W T104 84 #[.val (.int p1), .val (.int p2), .val (.int p3), .val (.ref s_RIGHT_TO_LEFT), .val (.int (1 : Int32)), .val (.int p3), .val (.int p2), .val (.ref ob_104), .unset, .unset, .unset] [(.int (1 : Int32)), (.ref ob_104)] := ((((k108.iaload (i := 0) (n := 2) X104 hx hZ e104 q104_0 rfl rfl (by decide) (by decide) rfl (hb hby at_75)).iload X104 hx (hb hby at_76) rfl).icmpNo X104 hx (hb hby at_78) (XT.ii_ne_f rfl)).aload X104 hx (hb hby at_81) rfl rfl).iconst X104 hx (hb hby at_83) (v := (1 : Int32)) rfl
    have k110 : Go p e below m W T104 97 #[.val (.int p1), .val (.int p2), .val (.int p3), .val (.ref s_RIGHT_TO_LEFT), .val (.int (1 : Int32)), .val (.int p3), .val (.int p2), .val (.ref ob_104), .val (.int (1 : Int32)), .unset, .unset] [] := (((((k109.iaload (i := 1) (n := 2) X104 hx hZ e104 q104_0 rfl rfl (by decide) (by decide) rfl (hb hby at_84)).iload X104 hx (hb hby at_85) rfl).icmpNo X104 hx (hb hby at_87) (XT.ii_ne_f rfl)).iconst X104 hx (hb hby at_90) (v := (1 : Int32)) rfl).goto X104 hx (hb hby at_91) (by decide) (by decide)).istore X104 hx (hb hby at_95) rfl
    have k111 : Go p e below m W T104 101 #[.val (.int p1), .val (.int p2), .val (.int p3), .val (.ref s_RIGHT_TO_LEFT), .val (.int (1 : Int32)), .val (.int p3), .val (.int p2), .val (.ref ob_104), .val (.int (1 : Int32)), .unset, .unset] [(.int p3), (.int p2), (.ref s_RIGHT_TO_LEFT), (.ref s_RIGHT_TO_LEFT)] := (((k110.aloadN X104 hx (hb hby at_97) rfl rfl).aloadN X104 hx (hb hby at_98) rfl rfl).iloadN X104 hx (hb hby at_99) rfl).iloadN X104 hx (hb hby at_100) rfl
    obtain ⟨T112, v112, L112, X112, Q112, k112⟩ := k111.virt (y := (⟨"com/example/dress/dress/layout/Direction", "along", "(II)I"⟩ : MethodName)) (z := (⟨"com/example/dress/dress/layout/Direction", "along", "(II)I"⟩ : MethodName)) (Wd := 1) (cells' := 1) (slots' := 2) (argsL := [(.int p2), (.int p3)]) (rest := [(.ref s_RIGHT_TO_LEFT)]) X104 hx hZ hown (by rw [hml]; rfl) (hv 19 rfl) (hv 20 rfl) (notFace_of_selects (args := #[]) (mvT hZ (hv 22 rfl))) (hv 22 rfl) (hv 21 rfl) (hv 23 rfl) (hv 5 rfl) (hb hby at_101) (by decide) (rmal1 l Z a0 hw [] s_RIGHT_TO_LEFT p2 p3 h104 n0 Z104 (F12_turned.ext f105.2)) e104 (E_s_RIGHT_TO_LEFT.ext f105.2) rfl rfl pd_rm0_2 rfl (Nat.le_of_eq rfl) (by decide) (by decide) rfl rfl (by decide) (by decide)
    obtain ⟨rfl, Nq112, e112q⟩ := Q112
    have N112 := Fr.app N104 Nq112
    have e112 : T112.heap = h104 := e112q
    have k112 : Go p e below m W T112 104 #[.val (.int p1), .val (.int p2), .val (.int p3), .val (.ref s_RIGHT_TO_LEFT), .val (.int (1 : Int32)), .val (.int p3), .val (.int p2), .val (.ref ob_104), .val (.int (1 : Int32)), .unset, .unset] [(.int p3), (.ref s_RIGHT_TO_LEFT)] := k112
    have k113 : Go p e below m W T112 107 #[.val (.int p1), .val (.int p2), .val (.int p3), .val (.ref s_RIGHT_TO_LEFT), .val (.int (1 : Int32)), .val (.int p3), .val (.int p2), .val (.ref ob_104), .val (.int (1 : Int32)), .unset, .unset] [(.int p3), (.int p2), (.ref s_RIGHT_TO_LEFT), (.int p3), (.ref s_RIGHT_TO_LEFT)] := ((k112.aloadN X112 hx (hb hby at_104) rfl rfl).iloadN X112 hx (hb hby at_105) rfl).iloadN X112 hx (hb hby at_106) rfl
    obtain ⟨T114, v114, L114, X114, Q114, k114⟩ := k113.virt (y := (⟨"com/example/dress/dress/layout/Direction", "across", "(II)I"⟩ : MethodName)) (z := (⟨"com/example/dress/dress/layout/Direction", "across", "(II)I"⟩ : MethodName)) (Wd := 2) (cells' := 1) (slots' := 2) (argsL := [(.int p2), (.int p3)]) (rest := [(.int p3), (.ref s_RIGHT_TO_LEFT)]) X112 hx hZ hown (by rw [hml]; rfl) (hv 24 rfl) (hv 25 rfl) (notFace_of_selects (args := #[]) (mvT hZ (hv 27 rfl))) (hv 27 rfl) (hv 26 rfl) (hv 28 rfl) (hv 5 rfl) (hb hby at_107) (by decide) (rmac1 l Z a0 hw [] s_RIGHT_TO_LEFT p2 p3 h104 n0 Z104 (F12_turned.ext f105.2)) e112 (E_s_RIGHT_TO_LEFT.ext f105.2) rfl rfl pd_rm0_2 rfl (Nat.le_of_eq rfl) (by decide) (by decide) rfl rfl (by decide) (by decide)
    obtain ⟨rfl, Nq114, e114q⟩ := Q114
    have N114 := Fr.app N112 Nq114
    have e114 : T114.heap = h104 := e114q
    have k114 : Go p e below m W T114 110 #[.val (.int p1), .val (.int p2), .val (.int p3), .val (.ref s_RIGHT_TO_LEFT), .val (.int (1 : Int32)), .val (.int p3), .val (.int p2), .val (.ref ob_104), .val (.int (1 : Int32)), .unset, .unset] [(.int p2), (.int p3), (.ref s_RIGHT_TO_LEFT)] := k114
    obtain ⟨T115, v115, L115, X115, Q115, k115⟩ := k114.virt (y := (⟨"com/example/dress/dress/layout/Direction", "drawnSize", "(II)[I"⟩ : MethodName)) (z := (⟨"com/example/dress/dress/layout/Direction", "drawnSize", "(II)[I"⟩ : MethodName)) (Wd := 0) (cells' := 2) (slots' := 4) (argsL := [(.int p3), (.int p2)]) (rest := []) X114 hx hZ hown (by rw [hml]; rfl) (hv 11 rfl) (hv 12 rfl) (notFace_of_selects (args := #[]) (mvT hZ (hv 14 rfl))) (hv 14 rfl) (hv 13 rfl) (hv 15 rfl) (hv 5 rfl) (hb hby at_110) (by decide) (rmd1 l Z a0 hw [] s_RIGHT_TO_LEFT p3 p2 h104 n0 Z104 (F12_turned.ext f105.2)) e114 (E_s_RIGHT_TO_LEFT.ext f105.2) rfl rfl pd_rm0_1 rfl (Nat.le_of_eq rfl) (by decide) (by decide) rfl rfl (by decide) (by decide)
    obtain ⟨ob_115, ok_115, rfl, Nq115, Kq115, q115_0, q115_1, q115_2⟩ := Q115
    have N115 := Fr.app N114 Nq115
    obtain ⟨h115, e115⟩ : ∃ h, T115.heap = h := ⟨_, rfl⟩
    rw [e115] at Kq115 q115_0
    have Z115 : n0 ≤ h115.size := Nat.le_trans Z104 Kq115.1
    have f116 := f105.keep Kq115 (fun x q => absurd q List.not_mem_nil)
    have f117 := q104_0.keep Kq115 (List.not_mem_nil)
    have ne118_ob_104 : ob_104 ≠ ob_115 := Nat.ne_of_lt (Nat.lt_of_lt_of_le q104_0.lt q115_2)
    have k115 : Go p e below m W T115 113 #[.val (.int p1), .val (.int p2), .val (.int p3), .val (.ref s_RIGHT_TO_LEFT), .val (.int (1 : Int32)), .val (.int p3), .val (.int p2), .val (.ref ob_104), .val (.int (1 : Int32)), .unset, .unset] [(.ref ob_115)] := k115
    have k119 : Go p e below m W T115 115 #[.val (.int p1), .val (.int p2), .val (.int p3), .val (.ref s_RIGHT_TO_LEFT), .val (.int (1 : Int32)), .val (.int p3), .val (.int p2), .val (.ref ob_104), .val (.int (1 : Int32)), .val (.ref ob_115), .unset] [] := k115.astore X115 hx (hb hby at_113) rfl rfl
    have k120 : Go p e below m W T115 122 #[.val (.int p1), .val (.int p2), .val (.int p3), .val (.ref s_RIGHT_TO_LEFT), .val (.int (1 : Int32)), .val (.int p3), .val (.int p2), .val (.ref ob_104), .val (.int (1 : Int32)), .val (.ref ob_115), .unset] [(.ref ob_115)] := ((k119.aload X115 hx (hb hby at_115) rfl rfl).nullNo X115 hx (hb hby at_117) rfl (fun q => by cases q)).aload X115 hx (hb hby at_120) rfl rfl
    have k121 : Go p e below m W T115 132 #[.val (.int p1), .val (.int p2), .val (.int p3), .val (.ref s_RIGHT_TO_LEFT), .val (.int (1 : Int32)), .val (.int p3), .val (.int p2), .val (.ref ob_104), .val (.int (1 : Int32)), .val (.ref ob_115), .unset] [(.int (0 : Int32)), (.ref ob_115)] := ((((k120.arraylength X115 hx hZ e115 q115_0 (hb hby at_122)).iconst X115 hx (hb hby at_123) (v := (2 : Int32)) rfl).icmpYes X115 hx (hb hby at_124) (XT.ii_eq_t (by decide)) (by decide) (by decide)).aload X115 hx (hb hby at_129) rfl rfl).iconst X115 hx (hb hby at_131) (v := (0 : Int32)) rfl
    have k122 : Go p e below m W T115 140 #[.val (.int p1), .val (.int p2), .val (.int p3), .val (.ref s_RIGHT_TO_LEFT), .val (.int (1 : Int32)), .val (.int p3), .val (.int p2), .val (.ref ob_104), .val (.int (1 : Int32)), .val (.ref ob_115), .unset] [(.int (1 : Int32)), (.ref ob_115)] := ((((k121.iaload (i := 0) (n := 2) X115 hx hZ e115 q115_0 rfl rfl (by decide) (by decide) rfl (hb hby at_132)).iloadN X115 hx (hb hby at_133) rfl).icmpNo X115 hx (hb hby at_134) (XT.ii_ne_f rfl)).aload X115 hx (hb hby at_137) rfl rfl).iconst X115 hx (hb hby at_139) (v := (1 : Int32)) rfl
    have k123 : Go p e below m W T115 152 #[.val (.int p1), .val (.int p2), .val (.int p3), .val (.ref s_RIGHT_TO_LEFT), .val (.int (1 : Int32)), .val (.int p3), .val (.int p2), .val (.ref ob_104), .val (.int (1 : Int32)), .val (.ref ob_115), .val (.int (1 : Int32))] [] := (((((k122.iaload (i := 1) (n := 2) X115 hx hZ e115 q115_0 rfl rfl (by decide) (by decide) rfl (hb hby at_140)).iloadN X115 hx (hb hby at_141) rfl).icmpNo X115 hx (hb hby at_142) (XT.ii_ne_f rfl)).iconst X115 hx (hb hby at_145) (v := (1 : Int32)) rfl).goto X115 hx (hb hby at_146) (by decide) (by decide)).istore X115 hx (hb hby at_150) rfl
    have k124 : Go p e below m W T115 167 #[.val (.int p1), .val (.int p2), .val (.int p3), .val (.ref s_RIGHT_TO_LEFT), .val (.int (1 : Int32)), .val (.int p3), .val (.int p2), .val (.ref ob_104), .val (.int (1 : Int32)), .val (.ref ob_115), .val (.int (1 : Int32))] [(.int (1 : Int32))] := (((((k123.iload X115 hx (hb hby at_152) rfl).ifNo X115 hx (hb hby at_154) (XT.i0_eq_f (by decide))).iload X115 hx (hb hby at_157) rfl).ifNo X115 hx (hb hby at_159) (XT.i0_eq_f (by decide))).iconst X115 hx (hb hby at_162) (v := (1 : Int32)) rfl).goto X115 hx (hb hby at_163) (by decide) (by decide)
    exact k124.ireturnN X115 hx (t := .boolean) Bd.returns (by simp) rfl (hb hby at_167) (BodyLoose.notSynchronized Bd) (by rw [e115]; exact ⟨rfl, N115⟩) (by decide) (by decide)

set_option maxRecDepth 65536 in
set_option maxHeartbeats 40000000 in
theorem comes_1 {Post : Tables → Env → Array Value → State → Outcome → State → Prop} (hpost : ∀ tb e args s v u, (limb_1_1.after args s (.returned v) u = true ∧ limb_1_2.after args s (.returned v) u = true ∧ True) → FrameEnd s (.returned v) u (Jvm.fieldLocs frame_1_writes args s ++ Jvm.arrayLocs frame_1_arrays args s ++ Jvm.staticLocs frame_1_statics s) 16 128 → Post tb e args s (.returned v) u) :
    ArmFor flags0 classFile x code maxLocals ret World_1 tables_1 room_1 Calls_1 rest_1 Pre_1 Post := by
  intro l hfl _ _ p e ha hc hk s m args below hf hA hF happ hP
  obtain ⟨hcalls, hrest, hpre⟩ := hP
  obtain ⟨-, -, -, hnamed, -, -, -, hat⟩ := (Spec.applies_iff hf).mp happ
  obtain ⟨hg, hn⟩ := and_e (Cond.before_iff.mp (show (Jvm.Cond.and given_1 narrow_1).before args s = true from hpre))
  obtain ⟨ga, gb⟩ := and_e hg
  obtain ⟨w0, w1, w2, rfl⟩ : ∃ w0 w1 w2 : Value, args = #[w0, w1, w2] := by
    have hs : args.size = 3 := by simpa [Cond.value, given_1] using ga
    obtain ⟨L⟩ := args
    match L, hs with
    | [w0, w1, w2], _ => exact ⟨w0, w1, w2, rfl⟩
  have hw := fun d (hd : d ∈ tables_1) => atoms_spec (ws := Jvm.Cond.code x code maxLocals ret :: tables_1) hat d (List.mem_cons_of_mem _ hd)
  have hv : ∀ (i : Nat) {d : Jvm.Cond}, tables_1[i]? = some d → d.before _ s = true := fun i d q => hw d (List.mem_of_getElem? q)
  have hfit : Fit s := fun {y c} hc i hi => by
    obtain ⟨ha, rfl⟩ := Array.getElem?_eq_some_iff.mp hc
    have q := List.all_eq_true.mp ((Array.all_eq_true_iff_forall_mem.mp hF) _ (Array.getElem_mem ha)) i (List.mem_range.mpr hi)
    simpa [Array.getElem?_eq_getElem hi] using q
  obtain ⟨gi0, gr0⟩ := and_e gb
  obtain ⟨i0, ei0⟩ := is_v gi0
  obtain rfl : w0 = (.int i0) := Option.some.inj ei0
  obtain ⟨gi1, gr1⟩ := and_e gr0
  obtain ⟨i1, ei1⟩ := is_v gi1
  obtain rfl : w1 = (.int i1) := Option.some.inj ei1
  obtain ⟨i2, ei2⟩ := is_v gr1
  obtain rfl : w2 = (.int i2) := Option.some.inj ei2
  have O0 : Old s s.heap.size s.heap := Old.start s
  obtain ⟨nc0, nr0⟩ := and_e hn
  obtain ⟨s_TOP_TO_BOTTOM, ev_s_TOP_TO_BOTTOM⟩ := exa_v nc0
  have S_s_TOP_TO_BOTTOM : Sta s s.heap "com/example/dress/dress/layout/Direction" "TOP_TO_BOTTOM" "Lcom/example/dress/dress/layout/Direction;" (.ref s_TOP_TO_BOTTOM) := Sta.start ev_s_TOP_TO_BOTTOM (Or.inr ⟨(hv 5 rfl), (hv 6 rfl)⟩)
  have E_s_TOP_TO_BOTTOM : Exa s s.heap s_TOP_TO_BOTTOM "com/example/dress/dress/layout/Direction" := Exa.start ev_s_TOP_TO_BOTTOM nc0
  obtain ⟨nc1, nr1⟩ := and_e nr0
  obtain ⟨s_LEFT_TO_RIGHT, ev_s_LEFT_TO_RIGHT⟩ := exa_v nc1
  have S_s_LEFT_TO_RIGHT : Sta s s.heap "com/example/dress/dress/layout/Direction" "LEFT_TO_RIGHT" "Lcom/example/dress/dress/layout/Direction;" (.ref s_LEFT_TO_RIGHT) := Sta.start ev_s_LEFT_TO_RIGHT (Or.inr ⟨(hv 5 rfl), (hv 8 rfl)⟩)
  have E_s_LEFT_TO_RIGHT : Exa s s.heap s_LEFT_TO_RIGHT "com/example/dress/dress/layout/Direction" := Exa.start ev_s_LEFT_TO_RIGHT nc1
  obtain ⟨nc2, nr2⟩ := and_e nr1
  have F5_ordinal : Fld s s.heap s_TOP_TO_BOTTOM "java/lang/Enum" "ordinal" "I" (.int (0 : Int32)) := Fld.start ((fld_at ev_s_TOP_TO_BOTTOM).symm.trans (own_eqi nc2))
  obtain ⟨nc3, nr3⟩ := and_e nr2
  have F6_ordinal : Fld s s.heap s_LEFT_TO_RIGHT "java/lang/Enum" "ordinal" "I" (.int (1 : Int32)) := Fld.start ((fld_at ev_s_LEFT_TO_RIGHT).symm.trans (own_eqi nc3))
  obtain ⟨nc4, nr4⟩ := and_e nr3
  obtain ⟨s_RIGHT_TO_LEFT, ev_s_RIGHT_TO_LEFT⟩ := exa_v nc4
  have S_s_RIGHT_TO_LEFT : Sta s s.heap "com/example/dress/dress/layout/Direction" "RIGHT_TO_LEFT" "Lcom/example/dress/dress/layout/Direction;" (.ref s_RIGHT_TO_LEFT) := Sta.start ev_s_RIGHT_TO_LEFT (Or.inr ⟨(hv 5 rfl), (hv 10 rfl)⟩)
  have E_s_RIGHT_TO_LEFT : Exa s s.heap s_RIGHT_TO_LEFT "com/example/dress/dress/layout/Direction" := Exa.start ev_s_RIGHT_TO_LEFT nc4
  obtain ⟨nc5, nr5⟩ := and_e nr4
  have F9_ordinal : Fld s s.heap s_RIGHT_TO_LEFT "java/lang/Enum" "ordinal" "I" (.int (3 : Int32)) := Fld.start ((fld_at ev_s_RIGHT_TO_LEFT).symm.trans (own_eqi nc5))
  obtain ⟨nc6, nr6⟩ := and_e nr5
  have F10_turned : Fld s s.heap s_TOP_TO_BOTTOM "com/example/dress/dress/layout/Direction" "turned" "Z" (.int (0 : Int32)) := Fld.start ((fld_at ev_s_TOP_TO_BOTTOM).symm.trans (own_eqi nc6))
  obtain ⟨nc7, nr7⟩ := and_e nr6
  have F11_turned : Fld s s.heap s_LEFT_TO_RIGHT "com/example/dress/dress/layout/Direction" "turned" "Z" (.int (1 : Int32)) := Fld.start ((fld_at ev_s_LEFT_TO_RIGHT).symm.trans (own_eqi nc7))
  obtain ⟨nc8, nr8⟩ := and_e nr7
  have F12_turned : Fld s s.heap s_RIGHT_TO_LEFT "com/example/dress/dress/layout/Direction" "turned" "Z" (.int (1 : Int32)) := Fld.start ((fld_at ev_s_RIGHT_TO_LEFT).symm.trans (own_eqi nc8))
  obtain ⟨nc9, nr9⟩ := and_e nr8
  obtain ⟨s_BOTTOM_TO_TOP, ev_s_BOTTOM_TO_TOP⟩ := exa_v nc9
  have S_s_BOTTOM_TO_TOP : Sta s s.heap "com/example/dress/dress/layout/Direction" "BOTTOM_TO_TOP" "Lcom/example/dress/dress/layout/Direction;" (.ref s_BOTTOM_TO_TOP) := Sta.start ev_s_BOTTOM_TO_TOP (Or.inr ⟨(hv 5 rfl), (hv 30 rfl)⟩)
  have E_s_BOTTOM_TO_TOP : Exa s s.heap s_BOTTOM_TO_TOP "com/example/dress/dress/layout/Direction" := Exa.start ev_s_BOTTOM_TO_TOP nc9
  obtain ⟨nc10, nr10⟩ := and_e nr9
  have F15_ordinal : Fld s s.heap s_BOTTOM_TO_TOP "java/lang/Enum" "ordinal" "I" (.int (2 : Int32)) := Fld.start ((fld_at ev_s_BOTTOM_TO_TOP).symm.trans (own_eqi nc10))
  have F16_turned : Fld s s.heap s_BOTTOM_TO_TOP "com/example/dress/dress/layout/Direction" "turned" "Z" (.int (0 : Int32)) := Fld.start ((fld_at ev_s_BOTTOM_TO_TOP).symm.trans (own_eqi nr10))
  obtain ⟨n, o, h1, h2, h3, _, L, rfl, ⟨rfl, N⟩, hq⟩ := rm0 l s _ hw tables_1 i0 i1 i2 s_TOP_TO_BOTTOM s_LEFT_TO_RIGHT s_RIGHT_TO_LEFT s_BOTTOM_TO_TOP s.heap s.heap.size (Nat.le_refl _) O0 S_s_TOP_TO_BOTTOM E_s_TOP_TO_BOTTOM S_s_LEFT_TO_RIGHT E_s_LEFT_TO_RIGHT F5_ordinal F6_ordinal S_s_RIGHT_TO_LEFT E_s_RIGHT_TO_LEFT F9_ordinal F10_turned F11_turned F12_turned S_s_BOTTOM_TO_TOP E_s_BOTTOM_TO_TOP F15_ordinal F16_turned p e ha hc hk s m _ below hf ((Spec.applies_iff_loose hf).mp happ).1 ⟨rfl, State.Warmed39.refl s, rfl⟩ trivial
  refine ⟨n, _, h1, h2, h3, hpost _ _ _ _ _ _ ⟨Cond.after_iff.mpr rfl, Cond.after_iff.mpr (eq_i res_at (Term.int_eval (1)) rfl), trivial⟩ ⟨hq.1, hq.2.1, (hq.2.2.sift fun y hy => Or.inr (N y hy)).mono (by decide) (by decide)⟩⟩
theorem main_1_1 : Claimed_1_1 := comes_1 fun _ _ _ _ _ _ h hF => ⟨h.1, hF⟩
theorem main_1_2 : Claimed_1_2 := comes_1 fun _ _ _ _ _ _ h hF => ⟨h.2.1, hF⟩
end Jvm.Pilot.@@N@@
namespace Jvm.Pilot.@@N@@
open Jvm Jvm.ClassFile Sem Op Lib Jvm.Free Jvm.Stand Jvm.Pilot.@@N@@.Jvm.D
/-! MADE BY PROGRAM (witnessworld.py) out of the Statement's table words and the real class files: 12 classes; the members and pool entries that the words name. The judged class is class 1, her method 2. -/
namespace start1
open Jvm.ClassFile
def u (s : String) : CpInfo := .utf8 (stringToUtf16 s)
/-- a pool by its gaps: so many unusable entries, then the entry; so many at the end -/
def gap : Nat → List CpInfo → List CpInfo
  | 0, r => r
  | n + 1, r => .unusable :: gap n r
def poolList (es : List (Nat × CpInfo)) (last : Nat) : List CpInfo := es.foldr (fun e r => gap e.1 (e.2 :: r)) (gap last [])
def pool (es : List (Nat × CpInfo)) (last : Nat) : Array CpInfo := ⟨poolList es last⟩
def fileOf (pool : Array CpInfo) (this : Nat) (attrs : Array Attribute := #[]) (ms : Array MethodInfo := #[]) (fl : Nat := 33) (sup : Nat := 0) (ifs : Array Nat := #[]) (fds : Array FieldInfo := #[]) : ClassFile where
  minorVersion := 0
  majorVersion := 65
  constantPool := pool
  accessFlags := fl
  thisClass := this
  superClass := sup
  interfaces := ifs
  fields := fds
  methods := ms
  attributes := attrs
def plain (name : String) (sup : Option ClassId) : Class where
  name := name
  kind := .ordinary
  loader := none
  accessFlags := 33
  super := sup
  interfaces := #[]
  cf := none
  fields := #[]
  methods := #[]
  instanceTypes := #[]
  staticTypes := #[]
  resolved := #[]
  callSites := []
  init := .initialized
  statics := none
  mirror := none

def pool0 : Array CpInfo := pool [(5, u "<init>"), (0, u "()V"), (1, .class_ 10), (1, u "java/lang/Object")] 113

def k0m0 : Method := { name := "<init>", desc := "()V", sig := { parameters := [], returnType := none }, accessFlags := 1, code := none }
/-- java/lang/Object -/
def k0 : Class := { plain "java/lang/Object" none with
  accessFlags := 33
  interfaces := #[]
  cf := some (fileOf pool0 8 #[] #[{ accessFlags := 1, nameIndex := 5, descriptorIndex := 6, attributes := #[] }] 33 0 #[] #[])
  fields := #[]
  methods := #[k0m0]
  instanceTypes := #[]
  staticTypes := #[]
  resolved := Array.replicate 124 none
  statics := none }

def pool1 : Array CpInfo := pool [(2, .class_ 4), (1, u "java/lang/Object"), (0, u "<init>"), (0, u "()V"), (0, .fieldref 8 9), (0, .class_ 10), (0, .nameAndType 11 12), (0, u "com/example/dress/dress/layout/Direction"), (0, u "TOP_TO_BOTTOM"), (0, u "Lcom/example/dress/dress/layout/Direction;"), (0, .fieldref 8 14), (0, .nameAndType 15 12), (0, u "LEFT_TO_RIGHT"), (0, .fieldref 8 17), (0, .nameAndType 18 12), (0, u "BOTTOM_TO_TOP"), (0, .fieldref 8 20), (0, .nameAndType 21 12), (0, u "RIGHT_TO_LEFT"), (0, .methodref 23 24), (0, .class_ 25), (0, .nameAndType 26 27), (0, u "com/example/dress/dress/layout/DirectionDrawnSizePinLaw"), (0, u "pick"), (0, u "(I)Lcom/example/dress/dress/layout/Direction;"), (0, .methodref 8 29), (0, .nameAndType 30 31), (0, u "drawnSize"), (0, u "(II)[I"), (0, .methodref 8 33), (0, .nameAndType 34 35), (0, u "along"), (0, u "(II)I"), (0, .methodref 8 37), (0, .nameAndType 38 35), (0, u "across"), (3, u "law"), (0, u "(III)Z")] 4

def k1m0 : Method := { name := "<init>", desc := "()V", sig := { parameters := [], returnType := none }, accessFlags := 2, code := none }
def k1c1 : Code := { maxStack := 2, maxLocals := 3, code := method_2_code, exceptionTable := #[], attributes := #[] }
def k1m1 : Method := { name := "pick", desc := "(I)Lcom/example/dress/dress/layout/Direction;", sig := { parameters := [.int], returnType := some (.object "com/example/dress/dress/layout/Direction") }, accessFlags := 10, code := some k1c1 }
def k1c2 : Code := { maxStack := 5, maxLocals := 11, code := code, exceptionTable := #[], attributes := #[] }
def k1m2 : Method := { name := "law", desc := "(III)Z", sig := { parameters := [.int, .int, .int], returnType := some .boolean }, accessFlags := 9, code := some k1c2 }
/-- com/example/dress/dress/layout/DirectionDrawnSizePinLaw -/
def k1 : Class := { plain "com/example/dress/dress/layout/DirectionDrawnSizePinLaw" (some 0) with
  accessFlags := 49
  interfaces := #[]
  cf := some (fileOf pool1 23 #[] #[{ accessFlags := 2, nameIndex := 5, descriptorIndex := 6, attributes := #[] }, { accessFlags := 10, nameIndex := 26, descriptorIndex := 27, attributes := #[] }, { accessFlags := 9, nameIndex := 42, descriptorIndex := 43, attributes := #[] }] 49 2 #[] #[])
  fields := #[]
  methods := #[k1m0, k1m1, k1m2]
  instanceTypes := #[]
  staticTypes := #[]
  resolved := Array.replicate 48 none
  statics := none }

def pool2 : Array CpInfo := pool [(1, .class_ 2), (0, u "java/lang/constant/Constable"), (0, .class_ 4), (0, u "java/lang/Object")] 6

/-- java/lang/constant/Constable -/
def k2 : Class := { plain "java/lang/constant/Constable" (some 0) with
  accessFlags := 1537
  interfaces := #[]
  cf := some (fileOf pool2 1 #[] #[] 1537 3 #[] #[])
  fields := #[]
  methods := #[]
  instanceTypes := #[]
  staticTypes := #[]
  resolved := Array.replicate 11 none
  statics := none }

def pool3 : Array CpInfo := pool [(1, .class_ 2), (0, u "java/lang/Comparable"), (0, .class_ 4), (0, u "java/lang/Object")] 7

/-- java/lang/Comparable -/
def k3 : Class := { plain "java/lang/Comparable" (some 0) with
  accessFlags := 1537
  interfaces := #[]
  cf := some (fileOf pool3 1 #[] #[] 1537 3 #[] #[])
  fields := #[]
  methods := #[]
  instanceTypes := #[]
  staticTypes := #[]
  resolved := Array.replicate 12 none
  statics := none }

def pool4 : Array CpInfo := pool [(1, .class_ 2), (0, u "java/io/Serializable"), (0, .class_ 4), (0, u "java/lang/Object")] 2

/-- java/io/Serializable -/
def k4 : Class := { plain "java/io/Serializable" (some 0) with
  accessFlags := 1537
  interfaces := #[]
  cf := some (fileOf pool4 1 #[] #[] 1537 3 #[] #[])
  fields := #[]
  methods := #[]
  instanceTypes := #[]
  staticTypes := #[]
  resolved := Array.replicate 7 none
  statics := none }

def pool5 : Array CpInfo := pool [(2, .class_ 4), (1, u "java/lang/Enum"), (0, u "name"), (0, u "Ljava/lang/String;"), (2, u "ordinal"), (0, u "I"), (1, .class_ 14), (1, u "java/lang/Object"), (4, u "hash"), (86, .class_ 108), (1, u "java/lang/Enum$EnumDesc"), (2, .class_ 112), (0, u "java/lang/constant/Constable"), (0, .class_ 114), (0, u "java/lang/Comparable"), (0, .class_ 116), (0, u "java/io/Serializable")] 87

/-- java/lang/Enum -/
def k5 : Class := { plain "java/lang/Enum" (some 0) with
  accessFlags := 1057
  interfaces := #[2, 3, 4]
  cf := some (fileOf pool5 2 #[.nestMembers #[106]] #[] 1057 12 #[111, 113, 115] #[{ accessFlags := 18, nameIndex := 5, descriptorIndex := 6, attributes := #[] }, { accessFlags := 18, nameIndex := 9, descriptorIndex := 10, attributes := #[] }, { accessFlags := 2, nameIndex := 19, descriptorIndex := 10, attributes := #[] }])
  fields := #[{ name := "name", type := (.object "java/lang/String"), accessFlags := 18, slot := 0, constantValue := 0 }, { name := "ordinal", type := .int, accessFlags := 18, slot := 1, constantValue := 0 }, { name := "hash", type := .int, accessFlags := 2, slot := 2, constantValue := 0 }]
  methods := #[]
  instanceTypes := #[(.object "java/lang/String"), .int, .int]
  staticTypes := #[]
  resolved := Array.replicate 204 none
  statics := none }

def pool6 : Array CpInfo := pool [(1, .class_ 2), (0, u "com/example/dress/dress/layout/Direction"), (2, u "TOP_TO_BOTTOM"), (0, u "Lcom/example/dress/dress/layout/Direction;"), (2, u "LEFT_TO_RIGHT"), (2, u "BOTTOM_TO_TOP"), (2, u "RIGHT_TO_LEFT"), (2, u "$VALUES"), (0, u "[Lcom/example/dress/dress/layout/Direction;"), (6, .class_ 28), (1, u "java/lang/Enum"), (8, u "rankdir"), (0, u "Ljava/lang/String;"), (0, .fieldref 1 40), (0, .nameAndType 41 42), (0, u "turned"), (0, u "Z"), (2, u "mirrored"), (92, u "along"), (0, u "(II)I"), (0, u "across"), (3, u "drawnSize"), (0, u "(II)[I")] 41

def k6c0 : Code := { maxStack := 1, maxLocals := 3, code := prog_89_method_5_code, exceptionTable := #[], attributes := #[] }
def k6m0 : Method := { name := "along", desc := "(II)I", sig := { parameters := [.int, .int], returnType := some .int }, accessFlags := 0, code := some k6c0 }
def k6c1 : Code := { maxStack := 1, maxLocals := 3, code := prog_89_method_6_code, exceptionTable := #[], attributes := #[] }
def k6m1 : Method := { name := "across", desc := "(II)I", sig := { parameters := [.int, .int], returnType := some .int }, accessFlags := 0, code := some k6c1 }
def k6c2 : Code := { maxStack := 4, maxLocals := 3, code := prog_89_method_9_code, exceptionTable := #[], attributes := #[] }
def k6m2 : Method := { name := "drawnSize", desc := "(II)[I", sig := { parameters := [.int, .int], returnType := some (.array .int) }, accessFlags := 0, code := some k6c2 }
/-- com/example/dress/dress/layout/Direction -/
def k6 : Class := { plain "com/example/dress/dress/layout/Direction" (some 5) with
  accessFlags := 16432
  interfaces := #[]
  cf := some (fileOf pool6 1 #[] #[{ accessFlags := 0, nameIndex := 138, descriptorIndex := 139, attributes := #[] }, { accessFlags := 0, nameIndex := 140, descriptorIndex := 139, attributes := #[] }, { accessFlags := 0, nameIndex := 144, descriptorIndex := 145, attributes := #[] }] 16432 26 #[] #[{ accessFlags := 16409, nameIndex := 5, descriptorIndex := 6, attributes := #[] }, { accessFlags := 16409, nameIndex := 9, descriptorIndex := 6, attributes := #[] }, { accessFlags := 16409, nameIndex := 12, descriptorIndex := 6, attributes := #[] }, { accessFlags := 16409, nameIndex := 15, descriptorIndex := 6, attributes := #[] }, { accessFlags := 18, nameIndex := 37, descriptorIndex := 38, attributes := #[] }, { accessFlags := 18, nameIndex := 41, descriptorIndex := 42, attributes := #[] }, { accessFlags := 18, nameIndex := 45, descriptorIndex := 42, attributes := #[] }, { accessFlags := 4122, nameIndex := 18, descriptorIndex := 19, attributes := #[] }])
  fields := #[{ name := "TOP_TO_BOTTOM", type := (.object "com/example/dress/dress/layout/Direction"), accessFlags := 16409, slot := 0, constantValue := 0 }, { name := "LEFT_TO_RIGHT", type := (.object "com/example/dress/dress/layout/Direction"), accessFlags := 16409, slot := 1, constantValue := 0 }, { name := "BOTTOM_TO_TOP", type := (.object "com/example/dress/dress/layout/Direction"), accessFlags := 16409, slot := 2, constantValue := 0 }, { name := "RIGHT_TO_LEFT", type := (.object "com/example/dress/dress/layout/Direction"), accessFlags := 16409, slot := 3, constantValue := 0 }, { name := "rankdir", type := (.object "java/lang/String"), accessFlags := 18, slot := 3, constantValue := 0 }, { name := "turned", type := .boolean, accessFlags := 18, slot := 4, constantValue := 0 }, { name := "mirrored", type := .boolean, accessFlags := 18, slot := 5, constantValue := 0 }, { name := "$VALUES", type := (.array (.object "com/example/dress/dress/layout/Direction")), accessFlags := 4122, slot := 4, constantValue := 0 }]
  methods := #[k6m0, k6m1, k6m2]
  instanceTypes := #[(.object "java/lang/String"), .int, .int, (.object "java/lang/String"), .boolean, .boolean]
  staticTypes := #[(.object "com/example/dress/dress/layout/Direction"), (.object "com/example/dress/dress/layout/Direction"), (.object "com/example/dress/dress/layout/Direction"), (.object "com/example/dress/dress/layout/Direction"), (.array (.object "com/example/dress/dress/layout/Direction"))]
  resolved := Array.replicate 187 none
  statics := some 0 }

def pool7 : Array CpInfo := pool [(1, u "java/lang/Cloneable"), (0, .class_ 1), (0, u "java/lang/Object"), (0, .class_ 3)] 3

/-- java/lang/Cloneable -/
def k7 : Class := { plain "java/lang/Cloneable" (some 0) with
  accessFlags := 1537
  interfaces := #[]
  cf := some (fileOf pool7 2 #[] #[] 1537 4 #[] #[])
  fields := #[]
  methods := #[]
  instanceTypes := #[]
  staticTypes := #[]
  resolved := Array.replicate 8 none
  statics := none }

/-- the primitive byte -/
def k8 : Class := { plain "byte" none with kind := .primitive 'B', accessFlags := 0x411 }
/-- [B -/
def k9 : Class := { plain "[B" (some 0) with kind := .array 8 .byte, interfaces := #[7, 4], accessFlags := 1041 }

/-- the primitive int -/
def k10 : Class := { plain "int" none with kind := .primitive 'I', accessFlags := 0x411 }
/-- [I -/
def k11 : Class := { plain "[I" (some 0) with kind := .array 10 .int, interfaces := #[7, 4], accessFlags := 1041 }

def heap : Heap := #[{ cls := 6, slots := #[.ref 1, .ref 2, .ref 4, .ref 3, .null], vm := .statics 6 },
  { cls := 6, slots := #[.null, .int 0, .int 0, .null, .int 0, .int 0], vm := .none },
  { cls := 6, slots := #[.null, .int 1, .int 0, .null, .int 1, .int 0], vm := .none },
  { cls := 6, slots := #[.null, .int 3, .int 0, .null, .int 1, .int 0], vm := .none },
  { cls := 6, slots := #[.null, .int 2, .int 0, .null, .int 0, .int 0], vm := .none }]
def classes : Array Class := #[k0, k1, k2, k3, k4, k5, k6, k7, k8, k9, k10, k11]
def interned : List (Array UInt16 × Addr) := []
def slotsUsed : Nat := 29
def theMethod : MethodId := ⟨1, 2⟩
def args0 : Array Value := #[.int 5, .int 2, .int 3]
def aboutOver (below : List Frame) : State where
  vm := { classes := classes, interned := interned.toArray }
  heap := heap
  slotsUsed := slotsUsed
  threads := #[{ frames := .invoking theMethod args0 :: below }]
def below0 : List Frame := [.native { method := ⟨0, 0⟩, args := #[] }]
def about1 : State := aboutOver below0
def p0 : Program := .bare "" "" ""
def e0 : Env := launch0.env 0 0 0
theorem w_frames : about1.frames = Frame.invoking theMethod args0 :: below0 := rfl
set_option maxRecDepth 65536 in
theorem w_args : argsFit about1.vm theMethod args0 = true := by decide +kernel
set_option maxRecDepth 65536 in
theorem w_heap : heapFits about1 = true := by decide +kernel
set_option maxRecDepth 65536 in
theorem w_runnable : about1.curStatus? = some .runnable := by decide +kernel
set_option maxRecDepth 65536 in
theorem w_alone : about1.alone = true := by decide +kernel
set_option maxRecDepth 65536 in
theorem w_named : about1.methodNamed? x = some theMethod := by decide +kernel
set_option maxRecDepth 65536 in
theorem w_hears : about1.hears theMethod below0 = true := by decide +kernel
set_option maxRecDepth 65536 in
theorem w_ripe : about1.ripe theMethod args0 below0 = true := by decide +kernel
theorem w_running : about1.status = .running := rfl
set_option maxRecDepth 65536 in
theorem w_room : about1.hasRoom e0.platform room_1 = true :=
  launch0.hasRoom_least _ room_1 (by decide +kernel) (by decide +kernel) (by decide +kernel) (by decide +kernel) (by decide +kernel) (by decide +kernel)
theorem allAtoms_all (ts : List Jvm.Cond) (a : Array Jvm.Value) (st : Jvm.State) : (allAtoms ts).before a st = ts.all (fun c => c.before a st) := by
  induction ts with
  | nil => rfl
  | cons c t ih =>
    show (Jvm.Cond.and c (allAtoms t)).before a st = _
    rw [Jvm.Cond.before_and, ih, List.all_cons]
def words1 : List Jvm.Cond := Jvm.Cond.code x code maxLocals ret :: tables_1
/-- a 'code' word, met by the world's own term for the bytes: nothing is compared byte by byte -/
theorem code_word {y : MethodName} {bytes : ByteArray} {mx : Nat} {rt : Option FieldType} {a : Array Value} {s : State} {m : MethodId} {meth : Method} {c : Code} (h1 : s.methodNamed? y = some m) (h2 : s.vm.method? m = some meth) (h3 : meth.code = some c) (h4 : c.code = bytes)
    (h5 : (c.maxLocals == mx && c.exceptionTable.isEmpty && decide (c.maxStack ≤ mostOperands) && decide (meth.sig.returnType = rt) && !meth.locks && decide (parseMethodDescriptor y.desc = some meth.sig)) = true) : (Jvm.Cond.code y bytes mx rt).before a s = true := by
  simp only [Bool.and_eq_true, beq_iff_eq, Bool.not_eq_true', decide_eq_true_eq] at h5
  obtain ⟨⟨⟨⟨⟨g1, g2⟩, g3⟩, g4⟩, g5⟩, g6⟩ := h5
  simp [Cond.before, Cond.holds, Cond.value, h1, h2, h3, h4, g1, g2, g3, g4, g5, g6]
def isCode : Jvm.Cond → Bool
  | .code _ _ _ _ => true
  | _ => false
theorem all_split {L : List Jvm.Cond} {P : Jvm.Cond → Bool} (h1 : L.all (fun c => isCode c || P c) = true) (h2 : ∀ c ∈ L.filter isCode, P c = true) : L.all P = true := by
  refine List.all_eq_true.mpr fun c hc => ?_
  have h := List.all_eq_true.mp h1 c hc
  rcases Bool.eq_false_or_eq_true (isCode c) with hi | hi
  · exact h2 c (List.mem_filter.mpr ⟨hc, hi⟩)
  · simpa [hi] using h
set_option maxRecDepth 65536 in
theorem w_c0 : (Jvm.Cond.code x code maxLocals ret).before args0 about1 = true := code_word (m := ⟨1, 2⟩) (meth := k1m2) (c := k1c2) (by decide +kernel) rfl rfl rfl (by decide +kernel)
set_option maxRecDepth 65536 in
theorem w_c1 : (Jvm.Cond.code ({ cls := "com/example/dress/dress/layout/DirectionDrawnSizePinLaw", name := "pick", desc := "(I)Lcom/example/dress/dress/layout/Direction;" } : Jvm.MethodName) method_2_code (3 : Nat) (Option.some (Jvm.ClassFile.FieldType.object "com/example/dress/dress/layout/Direction"))).before args0 about1 = true := code_word (m := ⟨1, 1⟩) (meth := k1m1) (c := k1c1) (by decide +kernel) rfl rfl rfl (by decide +kernel)
set_option maxRecDepth 65536 in
theorem w_c2 : (Jvm.Cond.code ({ cls := "com/example/dress/dress/layout/Direction", name := "drawnSize", desc := "(II)[I" } : Jvm.MethodName) prog_89_method_9_code (3 : Nat) (Option.some (Jvm.ClassFile.FieldType.array Jvm.ClassFile.FieldType.int))).before args0 about1 = true := code_word (m := ⟨6, 2⟩) (meth := k6m2) (c := k6c2) (by decide +kernel) rfl rfl rfl (by decide +kernel)
set_option maxRecDepth 65536 in
theorem w_c3 : (Jvm.Cond.code ({ cls := "com/example/dress/dress/layout/Direction", name := "along", desc := "(II)I" } : Jvm.MethodName) prog_89_method_5_code (3 : Nat) (Option.some Jvm.ClassFile.FieldType.int)).before args0 about1 = true := code_word (m := ⟨6, 0⟩) (meth := k6m0) (c := k6c0) (by decide +kernel) rfl rfl rfl (by decide +kernel)
set_option maxRecDepth 65536 in
theorem w_c4 : (Jvm.Cond.code ({ cls := "com/example/dress/dress/layout/Direction", name := "across", desc := "(II)I" } : Jvm.MethodName) prog_89_method_6_code (3 : Nat) (Option.some Jvm.ClassFile.FieldType.int)).before args0 about1 = true := code_word (m := ⟨6, 1⟩) (meth := k6m1) (c := k6c1) (by decide +kernel) rfl rfl rfl (by decide +kernel)
def codes1 : List Jvm.Cond := [Jvm.Cond.code x code maxLocals ret, Jvm.Cond.code ({ cls := "com/example/dress/dress/layout/DirectionDrawnSizePinLaw", name := "pick", desc := "(I)Lcom/example/dress/dress/layout/Direction;" } : Jvm.MethodName) method_2_code (3 : Nat) (Option.some (Jvm.ClassFile.FieldType.object "com/example/dress/dress/layout/Direction")), Jvm.Cond.code ({ cls := "com/example/dress/dress/layout/Direction", name := "drawnSize", desc := "(II)[I" } : Jvm.MethodName) prog_89_method_9_code (3 : Nat) (Option.some (Jvm.ClassFile.FieldType.array Jvm.ClassFile.FieldType.int)), Jvm.Cond.code ({ cls := "com/example/dress/dress/layout/Direction", name := "along", desc := "(II)I" } : Jvm.MethodName) prog_89_method_5_code (3 : Nat) (Option.some Jvm.ClassFile.FieldType.int), Jvm.Cond.code ({ cls := "com/example/dress/dress/layout/Direction", name := "across", desc := "(II)I" } : Jvm.MethodName) prog_89_method_6_code (3 : Nat) (Option.some Jvm.ClassFile.FieldType.int)]
set_option maxRecDepth 65536 in
theorem codes_eq : words1.filter isCode = codes1 := rfl
theorem w_codes : ∀ c ∈ words1.filter isCode, c.before args0 about1 = true := by
  rw [codes_eq]
  intro c hc
  simp only [codes1, List.mem_cons, List.not_mem_nil, or_false] at hc
  rcases hc with rfl | rfl | rfl | rfl | rfl
  · exact w_c0
  · exact w_c1
  · exact w_c2
  · exact w_c3
  · exact w_c4
set_option maxRecDepth 65536 in
theorem w_t1 : (words1.take 24).all (fun c => isCode c || c.before args0 about1) = true := by decide +kernel
set_option maxRecDepth 65536 in
theorem w_t2 : (words1.drop 24).all (fun c => isCode c || c.before args0 about1) = true := by decide +kernel
theorem w_tables : (allAtoms (Jvm.Cond.code x code maxLocals ret :: tables_1)).before args0 about1 = true := by
  rw [allAtoms_all]
  show words1.all (fun c => c.before args0 about1) = true
  refine all_split ?_ w_codes
  rw [← List.take_append_drop 24 words1, List.all_append, w_t1, w_t2]
  rfl
set_option maxRecDepth 65536 in
theorem w_case : (Jvm.Cond.and given_1 narrow_1).before args0 about1 = true := by decide +kernel
theorem w_applies : (headSpec (Jvm.Cond.code x code maxLocals ret :: tables_1) room_1).applies x e0.platform about1 = true :=
  (Spec.applies_iff w_frames).mpr ⟨w_running, w_runnable, w_alone, w_named, w_hears, w_ripe, w_room, w_tables⟩
theorem atStart : AtStart classFile x code maxLocals ret World_1 tables_1 room_1 Calls_1 rest_1 Pre_1 launch0 p0 e0 about1 theMethod args0 below0 :=
  ⟨lists_1, trivial, launch0.admits_env _ _ _, launch0.least_env, fairChoices_fair.cas, fairChoices_fair.clock, w_frames, w_args, w_heap, w_applies, trivial, trivial, w_case⟩
end start1
theorem witness_1 : WitnessClaimed_1 := ⟨start1.p0, start1.e0, start1.about1, start1.theMethod, start1.args0, start1.below0, start1.atStart⟩
end Jvm.Pilot.@@N@@
