import JvmDerived
import JvmDerived.Pilot.@@N@@Statement
import JvmDerived.Pilot.@@N@@Code
set_option linter.unusedVariables false
set_option linter.unusedSimpArgs false
namespace Jvm.RoadKit
open Sem ClassFile Op Lib Jvm.Stand Jvm.Free Jvm.LawKit
section New
variable {p : Program} {l : Launch} {e : Env} {R : Room} {s : State} {m : MethodId} {args : Array Value} {below : List Frame} {meth : Method} {c : Code} {T : State} {locs : List Loc} {cells slots : Nat}
theorem retI (X : Stand p l e R s m args below meth c T locs cells slots) (hx : p.tables.exec = Jvm.exec) {pc : Nat} {Ls : Array Slot} {z : Int32} {rest : List Value} (hret : meth.sig.returnType = some .int) (hd : decode c.code pc = .ok (.ireturn, 1)) {fs : List Frame}
    (hl : ∀ (f : JFrame) (acts : List Action), f.method = m → f.locked = none → f.entered = [] → (doReturn e (T.setTop f) acts (some (.int z))).1 = T.setFrames fs) : Steps p.tables e below (T.setTop (mkF m pc Ls (.int z :: rest))) (T.setFrames fs) := by
  have hm' : T.vm.method? m = some meth := X.method'
  have hn : narrow .int (.int z) = .int z := rfl
  show Steps p.tables e below (T.setTop { method := m, pc := pc, locals := Ls, stack := _ :: rest, locked := none }) _
  jvm_step X.here [X.here.top, hx, hd, hm', hret, hn]
  first | (intro acts; rw [hl _ acts rfl rfl rfl]) | rw [hl _ _ rfl rfl rfl]
  exact Steps.refl _
end New
end Jvm.RoadKit
namespace Jvm.Pilot.@@N@@
open Jvm Jvm.ClassFile Sem Op Lib Jvm.Free Jvm.Stand Jvm.LawKit Jvm.RoadKit Bundle Jvm.Pilot.@@N@@.Jvm.D
section OwnKit
variable {p : Program} {l : Launch} {e : Env} {R : Room} {s : State} {m : MethodId} {args : Array Value} {below : List Frame} {meth : Method} {c : Code} {T W : State} {locs : List Loc} {cells slots : Nat} {Z : State} {a0 : Array Value} {h : Heap} {pc : Nat} {L : Array Slot} {S : List Value}
def Go (p : Program) (e : Env) (below : List Frame) (m : MethodId) (W T : State) (pc : Nat) (L : Array Slot) (S : List Value) : Prop := ∀ t, Steps p.tables e below (T.setTop (mkF m pc L S)) t → Steps p.tables e below W t
theorem Go.iloadN {n : Fin 4} {v : Int32} (k : Go p e below m W T pc L S) (X : Stand p l e R s m args below meth c T locs cells slots) (hx : p.tables.exec = Jvm.exec) (hd : decode c.code pc = .ok (.iload_n n, 1)) (hl : L[n.val]? = some (.val (.int v))) : Go p e below m W T (pc + 1) L (.int v :: S) := fun t kt => k t (Jvm.Free.XS.iloadN X.here hx rfl hd hl kt)
theorem Go.iload {n : Nat} {v : Int32} (k : Go p e below m W T pc L S) (X : Stand p l e R s m args below meth c T locs cells slots) (hx : p.tables.exec = Jvm.exec) (hd : decode c.code pc = .ok (.iload n, 2)) (hl : L[n]? = some (.val (.int v))) : Go p e below m W T (pc + 2) L (.int v :: S) := fun t kt => k t (Jvm.Free.XS.iload X.here hx rfl hd hl kt)
theorem Go.lloadN {n : Fin 4} {v : Int64} (k : Go p e below m W T pc L S) (X : Stand p l e R s m args below meth c T locs cells slots) (hx : p.tables.exec = Jvm.exec) (hd : decode c.code pc = .ok (.lload_n n, 1)) (hl : L[n.val]? = some (.val (.long v))) : Go p e below m W T (pc + 1) L (.long v :: S) := fun t kt => k t (Jvm.Free.XT.lloadN X.here hx rfl hd hl kt)
theorem Go.lload {n : Nat} {v : Int64} (k : Go p e below m W T pc L S) (X : Stand p l e R s m args below meth c T locs cells slots) (hx : p.tables.exec = Jvm.exec) (hd : decode c.code pc = .ok (.lload n, 2)) (hl : L[n]? = some (.val (.long v))) : Go p e below m W T (pc + 2) L (.long v :: S) := fun t kt => k t (Jvm.Free.XT.lload X.here hx rfl hd hl kt)
theorem Go.aloadN {n : Fin 4} {v : Value} (k : Go p e below m W T pc L S) (X : Stand p l e R s m args below meth c T locs cells slots) (hx : p.tables.exec = Jvm.exec) (hd : decode c.code pc = .ok (.aload_n n, 1)) (hl : L[n.val]? = some (.val v)) (hv : v.isRef = true) : Go p e below m W T (pc + 1) L (v :: S) := fun t kt => k t (Jvm.Free.XS.aloadN X.here hx rfl hd hl hv kt)
theorem Go.aload {n : Nat} {v : Value} (k : Go p e below m W T pc L S) (X : Stand p l e R s m args below meth c T locs cells slots) (hx : p.tables.exec = Jvm.exec) (hd : decode c.code pc = .ok (.aload n, 2)) (hl : L[n]? = some (.val v)) (hv : v.isRef = true) : Go p e below m W T (pc + 2) L (v :: S) := fun t kt => k t (Jvm.Free.XS.aload X.here hx rfl hd hl hv kt)
theorem Go.iconst {i : Int} {v : Int32} (k : Go p e below m W T pc L S) (X : Stand p l e R s m args below meth c T locs cells slots) (hx : p.tables.exec = Jvm.exec) (hd : decode c.code pc = .ok (.iconst i, 1)) (hv : Int32.ofInt i = v) : Go p e below m W T (pc + 1) L (.int v :: S) := fun t kt => k t (Jvm.Free.XT.iconstV X.here hx rfl v hd hv kt)
theorem Go.bipush {i : Int} {v : Int32} (k : Go p e below m W T pc L S) (X : Stand p l e R s m args below meth c T locs cells slots) (hx : p.tables.exec = Jvm.exec) (hd : decode c.code pc = .ok (.bipush i, 2)) (hv : (Int8.ofInt i).toInt32 = v) : Go p e below m W T (pc + 2) L (.int v :: S) := fun t kt => k t (Jvm.Free.XT.bipushV X.here hx rfl v hd hv kt)
theorem Go.sipush {i : Int} {v : Int32} (k : Go p e below m W T pc L S) (X : Stand p l e R s m args below meth c T locs cells slots) (hx : p.tables.exec = Jvm.exec) (hd : decode c.code pc = .ok (.sipush i, 3)) (hv : (Int16.ofInt i).toInt32 = v) : Go p e below m W T (pc + 3) L (.int v :: S) := fun t kt => k t (Jvm.Free.XT.sipushV X.here hx rfl v hd hv kt)
theorem Go.lconst {i : Fin 2} {v : Int64} (k : Go p e below m W T pc L S) (X : Stand p l e R s m args below meth c T locs cells slots) (hx : p.tables.exec = Jvm.exec) (hd : decode c.code pc = .ok (.lconst i, 1)) (hv : Int64.ofNat i = v) : Go p e below m W T (pc + 1) L (.long v :: S) := fun t kt => k t (Jvm.Free.XT.lconstV X.here hx rfl v hd hv kt)
theorem Go.aconstNull  (k : Go p e below m W T pc L S) (X : Stand p l e R s m args below meth c T locs cells slots) (hx : p.tables.exec = Jvm.exec) (hd : decode c.code pc = .ok (.aconst_null, 1)) : Go p e below m W T (pc + 1) L (.null :: S) := fun t kt => k t (Jvm.Free.XS.aconstNull X.here hx rfl hd kt)
theorem Go.istoreN {n : Fin 4} {x : Int32} {L' : Array Slot} (k : Go p e below m W T pc L (.int x :: S)) (X : Stand p l e R s m args below meth c T locs cells slots) (hx : p.tables.exec = Jvm.exec) (hd : decode c.code pc = .ok (.istore_n n, 1)) (hl : storeLocals L n.val (.int x) = some L') : Go p e below m W T (pc + 1) L' S := fun t kt => k t (Jvm.Free.XS.istoreN X.here hx rfl hd rfl hl kt)
theorem Go.istore {n : Nat} {x : Int32} {L' : Array Slot} (k : Go p e below m W T pc L (.int x :: S)) (X : Stand p l e R s m args below meth c T locs cells slots) (hx : p.tables.exec = Jvm.exec) (hd : decode c.code pc = .ok (.istore n, 2)) (hl : storeLocals L n (.int x) = some L') : Go p e below m W T (pc + 2) L' S := fun t kt => k t (Jvm.Free.XS.istore X.here hx rfl hd rfl hl kt)
theorem Go.lstoreN {n : Fin 4} {x : Int64} {L' : Array Slot} (k : Go p e below m W T pc L (.long x :: S)) (X : Stand p l e R s m args below meth c T locs cells slots) (hx : p.tables.exec = Jvm.exec) (hd : decode c.code pc = .ok (.lstore_n n, 1)) (hl : storeLocals L n.val (.long x) = some L') : Go p e below m W T (pc + 1) L' S := fun t kt => k t (Jvm.Free.XT.lstoreN X.here hx rfl hd rfl hl kt)
theorem Go.lstore {n : Nat} {x : Int64} {L' : Array Slot} (k : Go p e below m W T pc L (.long x :: S)) (X : Stand p l e R s m args below meth c T locs cells slots) (hx : p.tables.exec = Jvm.exec) (hd : decode c.code pc = .ok (.lstore n, 2)) (hl : storeLocals L n (.long x) = some L') : Go p e below m W T (pc + 2) L' S := fun t kt => k t (Jvm.Free.XT.lstore X.here hx rfl hd rfl hl kt)
theorem Go.astoreN {n : Fin 4} {x : Value} {L' : Array Slot} (k : Go p e below m W T pc L (x :: S)) (X : Stand p l e R s m args below meth c T locs cells slots) (hx : p.tables.exec = Jvm.exec) (hd : decode c.code pc = .ok (.astore_n n, 1)) (hv : x.isRef = true) (hl : storeLocals L n.val x = some L') : Go p e below m W T (pc + 1) L' S := fun t kt => k t (Jvm.Free.XS.astoreN X.here hx rfl hd rfl hv hl kt)
theorem Go.astore {n : Nat} {x : Value} {L' : Array Slot} (k : Go p e below m W T pc L (x :: S)) (X : Stand p l e R s m args below meth c T locs cells slots) (hx : p.tables.exec = Jvm.exec) (hd : decode c.code pc = .ok (.astore n, 2)) (hv : x.isRef = true) (hl : storeLocals L n x = some L') : Go p e below m W T (pc + 2) L' S := fun t kt => k t (Jvm.Free.XS.astore X.here hx rfl hd rfl hv hl kt)
theorem Go.iinc {n : Nat} {i : Int} {x v : Int32} {L' : Array Slot} (k : Go p e below m W T pc L S) (X : Stand p l e R s m args below meth c T locs cells slots) (hx : p.tables.exec = Jvm.exec) (hd : decode c.code pc = .ok (.iinc n i, 3)) (hv : Int32.ofInt i = v) (hl : L[n]? = some (.val (.int x))) (hl' : storeLocals L n (.int (x + v)) = some L') : Go p e below m W T (pc + 3) L' S := fun t kt => k t (Jvm.Free.XT.iincV X.here hx rfl v hd hv hl hl' kt)
theorem Go.iadd {x y : Int32} (k : Go p e below m W T pc L (.int y :: .int x :: S)) (X : Stand p l e R s m args below meth c T locs cells slots) (hx : p.tables.exec = Jvm.exec) (hd : decode c.code pc = .ok (.iadd, 1)) : Go p e below m W T (pc + 1) L (.int (x + y) :: S) := fun t kt => k t (Jvm.Free.XS.iadd X.here hx rfl hd rfl kt)
theorem Go.isub {x y : Int32} (k : Go p e below m W T pc L (.int y :: .int x :: S)) (X : Stand p l e R s m args below meth c T locs cells slots) (hx : p.tables.exec = Jvm.exec) (hd : decode c.code pc = .ok (.isub, 1)) : Go p e below m W T (pc + 1) L (.int (x - y) :: S) := fun t kt => k t (Jvm.Free.XS.isub X.here hx rfl hd rfl kt)
theorem Go.iand {x y : Int32} (k : Go p e below m W T pc L (.int y :: .int x :: S)) (X : Stand p l e R s m args below meth c T locs cells slots) (hx : p.tables.exec = Jvm.exec) (hd : decode c.code pc = .ok (.iand, 1)) : Go p e below m W T (pc + 1) L (.int (x &&& y) :: S) := fun t kt => k t (Jvm.Free.XS.iand X.here hx rfl hd rfl kt)
theorem Go.imul {x y : Int32} (k : Go p e below m W T pc L (.int y :: .int x :: S)) (X : Stand p l e R s m args below meth c T locs cells slots) (hx : p.tables.exec = Jvm.exec) (hd : decode c.code pc = .ok (.imul, 1)) : Go p e below m W T (pc + 1) L (.int (x * y) :: S) := fun t kt => k t (Jvm.Free.XS.imul X.here hx rfl hd rfl kt)
theorem Go.ixor {x y : Int32} (k : Go p e below m W T pc L (.int y :: .int x :: S)) (X : Stand p l e R s m args below meth c T locs cells slots) (hx : p.tables.exec = Jvm.exec) (hd : decode c.code pc = .ok (.ixor, 1)) : Go p e below m W T (pc + 1) L (.int (x ^^^ y) :: S) := fun t kt => k t (Jvm.Free.XT.ixor X.here hx rfl hd rfl kt)
theorem Go.ior {x y : Int32} (k : Go p e below m W T pc L (.int y :: .int x :: S)) (X : Stand p l e R s m args below meth c T locs cells slots) (hx : p.tables.exec = Jvm.exec) (hd : decode c.code pc = .ok (.ior, 1)) : Go p e below m W T (pc + 1) L (.int (x ||| y) :: S) := fun t kt => k t (Jvm.Free.XT.ior X.here hx rfl hd rfl kt)
theorem Go.ishl {x y : Int32} (k : Go p e below m W T pc L (.int y :: .int x :: S)) (X : Stand p l e R s m args below meth c T locs cells slots) (hx : p.tables.exec = Jvm.exec) (hd : decode c.code pc = .ok (.ishl, 1)) : Go p e below m W T (pc + 1) L (.int (x <<< (y &&& 31)) :: S) := fun t kt => k t (Jvm.Free.XT.ishl X.here hx rfl hd rfl kt)
theorem Go.ishr {x y : Int32} (k : Go p e below m W T pc L (.int y :: .int x :: S)) (X : Stand p l e R s m args below meth c T locs cells slots) (hx : p.tables.exec = Jvm.exec) (hd : decode c.code pc = .ok (.ishr, 1)) : Go p e below m W T (pc + 1) L (.int (x >>> (y &&& 31)) :: S) := fun t kt => k t (Jvm.Free.XT.ishr X.here hx rfl hd rfl kt)
theorem Go.iushr {x y : Int32} (k : Go p e below m W T pc L (.int y :: .int x :: S)) (X : Stand p l e R s m args below meth c T locs cells slots) (hx : p.tables.exec = Jvm.exec) (hd : decode c.code pc = .ok (.iushr, 1)) : Go p e below m W T (pc + 1) L (.int (XT.ushr x y) :: S) := fun t kt => k t (Jvm.Free.XT.iushr X.here hx rfl hd rfl kt)
theorem Go.idiv {x y : Int32} (k : Go p e below m W T pc L (.int y :: .int x :: S)) (X : Stand p l e R s m args below meth c T locs cells slots) (hx : p.tables.exec = Jvm.exec) (hd : decode c.code pc = .ok (.idiv, 1)) (hy : y ≠ 0) : Go p e below m W T (pc + 1) L (.int (x / y) :: S) := fun t kt => k t (Jvm.Free.XS.idiv X.here hx rfl hd rfl hy kt)
theorem Go.irem {x y : Int32} (k : Go p e below m W T pc L (.int y :: .int x :: S)) (X : Stand p l e R s m args below meth c T locs cells slots) (hx : p.tables.exec = Jvm.exec) (hd : decode c.code pc = .ok (.irem, 1)) (hy : y ≠ 0) : Go p e below m W T (pc + 1) L (.int (x % y) :: S) := fun t kt => k t (Jvm.RoadKit.iremM X hx rfl hd rfl hy kt)
theorem Go.ineg {x : Int32} (k : Go p e below m W T pc L (.int x :: S)) (X : Stand p l e R s m args below meth c T locs cells slots) (hx : p.tables.exec = Jvm.exec) (hd : decode c.code pc = .ok (.ineg, 1)) : Go p e below m W T (pc + 1) L (.int (-x) :: S) := fun t kt => k t (Jvm.Free.XS.ineg X.here hx rfl hd rfl kt)
theorem Go.ladd {x y : Int64} (k : Go p e below m W T pc L (.long y :: .long x :: S)) (X : Stand p l e R s m args below meth c T locs cells slots) (hx : p.tables.exec = Jvm.exec) (hd : decode c.code pc = .ok (.ladd, 1)) : Go p e below m W T (pc + 1) L (.long (x + y) :: S) := fun t kt => k t (Jvm.Free.XT.ladd X.here hx rfl hd rfl kt)
theorem Go.lsub {x y : Int64} (k : Go p e below m W T pc L (.long y :: .long x :: S)) (X : Stand p l e R s m args below meth c T locs cells slots) (hx : p.tables.exec = Jvm.exec) (hd : decode c.code pc = .ok (.lsub, 1)) : Go p e below m W T (pc + 1) L (.long (x - y) :: S) := fun t kt => k t (Jvm.Free.XT.lsub X.here hx rfl hd rfl kt)
theorem Go.lmul {x y : Int64} (k : Go p e below m W T pc L (.long y :: .long x :: S)) (X : Stand p l e R s m args below meth c T locs cells slots) (hx : p.tables.exec = Jvm.exec) (hd : decode c.code pc = .ok (.lmul, 1)) : Go p e below m W T (pc + 1) L (.long (x * y) :: S) := fun t kt => k t (Jvm.Free.XT.lmul X.here hx rfl hd rfl kt)
theorem Go.land {x y : Int64} (k : Go p e below m W T pc L (.long y :: .long x :: S)) (X : Stand p l e R s m args below meth c T locs cells slots) (hx : p.tables.exec = Jvm.exec) (hd : decode c.code pc = .ok (.land, 1)) : Go p e below m W T (pc + 1) L (.long (x &&& y) :: S) := fun t kt => k t (Jvm.Free.XT.land X.here hx rfl hd rfl kt)
theorem Go.lor {x y : Int64} (k : Go p e below m W T pc L (.long y :: .long x :: S)) (X : Stand p l e R s m args below meth c T locs cells slots) (hx : p.tables.exec = Jvm.exec) (hd : decode c.code pc = .ok (.lor, 1)) : Go p e below m W T (pc + 1) L (.long (x ||| y) :: S) := fun t kt => k t (Jvm.Free.XT.lor X.here hx rfl hd rfl kt)
theorem Go.lxor {x y : Int64} (k : Go p e below m W T pc L (.long y :: .long x :: S)) (X : Stand p l e R s m args below meth c T locs cells slots) (hx : p.tables.exec = Jvm.exec) (hd : decode c.code pc = .ok (.lxor, 1)) : Go p e below m W T (pc + 1) L (.long (x ^^^ y) :: S) := fun t kt => k t (Jvm.Free.XT.lxor X.here hx rfl hd rfl kt)
theorem Go.lshl {x : Int64} {y : Int32} (k : Go p e below m W T pc L (.int y :: .long x :: S)) (X : Stand p l e R s m args below meth c T locs cells slots) (hx : p.tables.exec = Jvm.exec) (hd : decode c.code pc = .ok (.lshl, 1)) : Go p e below m W T (pc + 1) L (.long (x <<< (y.toInt64 &&& 63)) :: S) := fun t kt => k t (Jvm.Free.XT.lshl X.here hx rfl hd rfl kt)
theorem Go.lshr {x : Int64} {y : Int32} (k : Go p e below m W T pc L (.int y :: .long x :: S)) (X : Stand p l e R s m args below meth c T locs cells slots) (hx : p.tables.exec = Jvm.exec) (hd : decode c.code pc = .ok (.lshr, 1)) : Go p e below m W T (pc + 1) L (.long (x >>> (y.toInt64 &&& 63)) :: S) := fun t kt => k t (Jvm.Free.XT.lshr X.here hx rfl hd rfl kt)
theorem Go.lushr {x : Int64} {y : Int32} (k : Go p e below m W T pc L (.int y :: .long x :: S)) (X : Stand p l e R s m args below meth c T locs cells slots) (hx : p.tables.exec = Jvm.exec) (hd : decode c.code pc = .ok (.lushr, 1)) : Go p e below m W T (pc + 1) L (.long (XT.ushrL x y) :: S) := fun t kt => k t (Jvm.Free.XT.lushr X.here hx rfl hd rfl kt)
theorem Go.i2l {x : Int32} (k : Go p e below m W T pc L (.int x :: S)) (X : Stand p l e R s m args below meth c T locs cells slots) (hx : p.tables.exec = Jvm.exec) (hd : decode c.code pc = .ok (.i2l, 1)) : Go p e below m W T (pc + 1) L (.long x.toInt64 :: S) := fun t kt => k t (Jvm.Free.XT.i2l X.here hx rfl hd rfl kt)
theorem Go.l2i {x : Int64} (k : Go p e below m W T pc L (.long x :: S)) (X : Stand p l e R s m args below meth c T locs cells slots) (hx : p.tables.exec = Jvm.exec) (hd : decode c.code pc = .ok (.l2i, 1)) : Go p e below m W T (pc + 1) L (.int x.toInt32 :: S) := fun t kt => k t (Jvm.Free.XT.l2i X.here hx rfl hd rfl kt)
theorem Go.i2b {x : Int32} (k : Go p e below m W T pc L (.int x :: S)) (X : Stand p l e R s m args below meth c T locs cells slots) (hx : p.tables.exec = Jvm.exec) (hd : decode c.code pc = .ok (.i2b, 1)) : Go p e below m W T (pc + 1) L (.int x.toInt8.toInt32 :: S) := fun t kt => k t (Jvm.Free.XT.i2b X.here hx rfl hd rfl kt)
theorem Go.i2c {x : Int32} (k : Go p e below m W T pc L (.int x :: S)) (X : Stand p l e R s m args below meth c T locs cells slots) (hx : p.tables.exec = Jvm.exec) (hd : decode c.code pc = .ok (.i2c, 1)) : Go p e below m W T (pc + 1) L (.int x.toUInt32.toUInt16.toUInt32.toInt32 :: S) := fun t kt => k t (Jvm.Free.XT.i2c X.here hx rfl hd rfl kt)
theorem Go.lcmp {x y : Int64} (k : Go p e below m W T pc L (.long y :: .long x :: S)) (X : Stand p l e R s m args below meth c T locs cells slots) (hx : p.tables.exec = Jvm.exec) (hd : decode c.code pc = .ok (.lcmp, 1)) : Go p e below m W T (pc + 1) L (.int (XT.cmpL x y) :: S) := fun t kt => k t (Jvm.Free.XT.lcmp X.here hx rfl hd rfl kt)
theorem Go.dup {x : Value} (k : Go p e below m W T pc L (x :: S)) (X : Stand p l e R s m args below meth c T locs cells slots) (hx : p.tables.exec = Jvm.exec) (hd : decode c.code pc = .ok (.dup, 1)) (h1 : x.category = 1) : Go p e below m W T (pc + 1) L (x :: x :: S) := fun t kt => k t (Jvm.Free.XS.dup X.here hx rfl hd rfl h1 kt)
theorem Go.pop {x : Value} (k : Go p e below m W T pc L (x :: S)) (X : Stand p l e R s m args below meth c T locs cells slots) (hx : p.tables.exec = Jvm.exec) (hd : decode c.code pc = .ok (.pop, 1)) (h1 : x.category = 1) : Go p e below m W T (pc + 1) L S := fun t kt => k t (Jvm.Free.XT.pop X.here hx rfl hd rfl h1 kt)
theorem Go.dupX1 {x y : Value} (k : Go p e below m W T pc L (x :: y :: S)) (X : Stand p l e R s m args below meth c T locs cells slots) (hx : p.tables.exec = Jvm.exec) (hd : decode c.code pc = .ok (.dup_x1, 1)) (h1 : x.category = 1) (h2 : y.category = 1) : Go p e below m W T (pc + 1) L (x :: y :: x :: S) := fun t kt => k t (Jvm.Free.XT.dupX1 X.here hx rfl hd rfl h1 h2 kt)
theorem Go.dup2 {x y : Value} (k : Go p e below m W T pc L (x :: y :: S)) (X : Stand p l e R s m args below meth c T locs cells slots) (hx : p.tables.exec = Jvm.exec) (hd : decode c.code pc = .ok (.dup2, 1)) (h1 : x.category = 1) (h2 : y.category = 1) : Go p e below m W T (pc + 1) L (x :: y :: x :: y :: S) := fun t kt => k t (Jvm.Free.XT.dup2 X.here hx rfl hd rfl h1 h2 kt)
theorem Go.goto {o : Int} {pc' : Nat} (k : Go p e below m W T pc L S) (X : Stand p l e R s m args below meth c T locs cells slots) (hx : p.tables.exec = Jvm.exec) (hd : decode c.code pc = .ok (.goto o, 3)) (ho : 0 ≤ (pc : Int) + o) (hp : ((pc : Int) + o).toNat = pc') : Go p e below m W T pc' L S := fun t kt => k t (Jvm.Free.XS.goto X.here hx rfl rfl hd ho hp kt)
theorem Go.ifYes {cd : ClassFile.Cond} {o : Int} {pc' : Nat} {x : Int32} (k : Go p e below m W T pc L (.int x :: S)) (X : Stand p l e R s m args below meth c T locs cells slots) (hx : p.tables.exec = Jvm.exec) (hd : decode c.code pc = .ok (.ifCond cd o, 3)) (hc : ifCond.holds cd x = true) (ho : 0 ≤ (pc : Int) + o) (hp : ((pc : Int) + o).toNat = pc') : Go p e below m W T pc' L S := fun t kt => k t (Jvm.Free.XS.ifYes X.here hx rfl rfl hd rfl hc ho hp kt)
theorem Go.ifNo {cd : ClassFile.Cond} {o : Int} {x : Int32} (k : Go p e below m W T pc L (.int x :: S)) (X : Stand p l e R s m args below meth c T locs cells slots) (hx : p.tables.exec = Jvm.exec) (hd : decode c.code pc = .ok (.ifCond cd o, 3)) (hc : ifCond.holds cd x = false) : Go p e below m W T (pc + 3) L S := fun t kt => k t (Jvm.Free.XS.ifNo X.here hx rfl hd rfl hc kt)
theorem Go.icmpYes {cd : ClassFile.Cond} {o : Int} {pc' : Nat} {x y : Int32} (k : Go p e below m W T pc L (.int y :: .int x :: S)) (X : Stand p l e R s m args below meth c T locs cells slots) (hx : p.tables.exec = Jvm.exec) (hd : decode c.code pc = .ok (.if_icmp cd o, 3)) (hc : if_icmp.holds cd x y = true) (ho : 0 ≤ (pc : Int) + o) (hp : ((pc : Int) + o).toNat = pc') : Go p e below m W T pc' L S := fun t kt => k t (Jvm.Free.XS.icmpYes X.here hx rfl rfl hd rfl hc ho hp kt)
theorem Go.icmpNo {cd : ClassFile.Cond} {o : Int} {x y : Int32} (k : Go p e below m W T pc L (.int y :: .int x :: S)) (X : Stand p l e R s m args below meth c T locs cells slots) (hx : p.tables.exec = Jvm.exec) (hd : decode c.code pc = .ok (.if_icmp cd o, 3)) (hc : if_icmp.holds cd x y = false) : Go p e below m W T (pc + 3) L S := fun t kt => k t (Jvm.Free.XS.icmpNo X.here hx rfl hd rfl hc kt)
theorem Go.nullYes {o : Int} {pc' : Nat} {v : Value} (k : Go p e below m W T pc L (v :: S)) (X : Stand p l e R s m args below meth c T locs cells slots) (hx : p.tables.exec = Jvm.exec) (hd : decode c.code pc = .ok (.ifnull o, 3)) (hv : v = .null) (ho : 0 ≤ (pc : Int) + o) (hp : ((pc : Int) + o).toNat = pc') : Go p e below m W T pc' L S := fun t kt => k t (Jvm.Free.XT.nullYes X.here hx rfl rfl hd rfl hv ho hp kt)
theorem Go.nullNo {o : Int} {v : Value} (k : Go p e below m W T pc L (v :: S)) (X : Stand p l e R s m args below meth c T locs cells slots) (hx : p.tables.exec = Jvm.exec) (hd : decode c.code pc = .ok (.ifnull o, 3)) (hr : v.isRef = true) (hv : ¬ v = .null) : Go p e below m W T (pc + 3) L S := fun t kt => k t (Jvm.Free.XT.nullNo X.here hx rfl hd rfl hr hv kt)
theorem Go.nonnullYes {o : Int} {pc' : Nat} {v : Value} (k : Go p e below m W T pc L (v :: S)) (X : Stand p l e R s m args below meth c T locs cells slots) (hx : p.tables.exec = Jvm.exec) (hd : decode c.code pc = .ok (.ifnonnull o, 3)) (hr : v.isRef = true) (hv : ¬ v = .null) (ho : 0 ≤ (pc : Int) + o) (hp : ((pc : Int) + o).toNat = pc') : Go p e below m W T pc' L S := fun t kt => k t (Jvm.Free.XT.nonnullYes X.here hx rfl rfl hd rfl hr hv ho hp kt)
theorem Go.nonnullNo {o : Int} {v : Value} (k : Go p e below m W T pc L (v :: S)) (X : Stand p l e R s m args below meth c T locs cells slots) (hx : p.tables.exec = Jvm.exec) (hd : decode c.code pc = .ok (.ifnonnull o, 3)) (hv : v = .null) : Go p e below m W T (pc + 3) L S := fun t kt => k t (Jvm.Free.XT.nonnullNo X.here hx rfl hd rfl hv kt)
theorem Go.acmpYes {cd : ClassFile.ACond} {o : Int} {pc' : Nat} {x y : Value} (k : Go p e below m W T pc L (y :: x :: S)) (X : Stand p l e R s m args below meth c T locs cells slots) (hx : p.tables.exec = Jvm.exec) (hd : decode c.code pc = .ok (.if_acmp cd o, 3)) (h1 : x.isRef = true) (h2 : y.isRef = true) (hc : XT.acmp cd x y = true) (ho : 0 ≤ (pc : Int) + o) (hp : ((pc : Int) + o).toNat = pc') : Go p e below m W T pc' L S := fun t kt => k t (Jvm.Free.XT.acmpYes X.here hx rfl rfl hd rfl h1 h2 hc ho hp kt)
theorem Go.acmpNo {cd : ClassFile.ACond} {o : Int} {x y : Value} (k : Go p e below m W T pc L (y :: x :: S)) (X : Stand p l e R s m args below meth c T locs cells slots) (hx : p.tables.exec = Jvm.exec) (hd : decode c.code pc = .ok (.if_acmp cd o, 3)) (h1 : x.isRef = true) (h2 : y.isRef = true) (hc : XT.acmp cd x y = false) : Go p e below m W T (pc + 3) L S := fun t kt => k t (Jvm.Free.XT.acmpNo X.here hx rfl hd rfl h1 h2 hc kt)
theorem Go.tsw {dflt low high : Int} {offs : Array Int} {len : Nat} {o : Int} {pc' : Nat} {i : Int32} (k : Go p e below m W T pc L (.int i :: S)) (X : Stand p l e R s m args below meth c T locs cells slots) (hx : p.tables.exec = Jvm.exec) (hd : decode c.code pc = .ok (.tableswitch dflt low high offs, len)) (hin : ¬ (i.toInt < low ∨ i.toInt > high)) (hoff : offs[(i.toInt - low).toNat]? = some o) (ho : 0 ≤ (pc : Int) + o) (hp : ((pc : Int) + o).toNat = pc') : Go p e below m W T pc' L S := fun t kt => k t (Jvm.Free.XS.tswIn X.here hx rfl rfl hd rfl hin hoff ho hp kt)
theorem Go.ldcI {own : String} {index : Nat} {v : Int32} (k : Go p e below m W T pc L S) (X : Stand p l e R s m args below meth c T locs cells slots) (hx : p.tables.exec = Jvm.exec) (hZ : Z.Warmed39 s.vm) (hown : s.vm.findClass own = some m.cls) (w : (Cond.constant own index v).before a0 Z = true) (hd : decode c.code pc = .ok (.ldc index, 2)) : Go p e below m W T (pc + 2) L (.int v :: S) := fun t kt => k t (Jvm.Stand.ldcI X hx hown (mvT hZ w) rfl hd kt)
theorem Go.ldc2J {own : String} {index : Nat} {v : Int64} (k : Go p e below m W T pc L S) (X : Stand p l e R s m args below meth c T locs cells slots) (hx : p.tables.exec = Jvm.exec) (hZ : Z.Warmed39 s.vm) (hown : s.vm.findClass own = some m.cls) (w : (Cond.constantLong own index v).before a0 Z = true) (hd : decode c.code pc = .ok (.ldc2_w index, 3)) : Go p e below m W T (pc + 3) L (.long v :: S) := fun t kt => k t (Jvm.Stand.ldc2J X hx hown (mvT hZ w) rfl hd kt)
theorem Go.getF {own R0 O n d host : String} {index : Nat} {a : Addr} {v : Value} (k : Go p e below m W T pc L (.ref a :: S)) (X : Stand p l e R s m args below meth c T locs cells slots) (hx : p.tables.exec = Jvm.exec) (hZ : Z.Warmed39 s.vm) (hown : s.vm.findClass own = some m.cls) (w : (Cond.fieldLink own index R0 n d).before a0 Z = true ∨ (Cond.fieldLinkNest own index R0 n d host).before a0 Z = true) (via : Via Z R0 O n d) (eT : T.heap = h) (F : Fld Z h a O n d v) (hd : decode c.code pc = .ok (.getfield index, 3)) :
    ∃ T', Stand p l e R s m args below meth c T' locs cells slots ∧ T'.heap = h ∧ Go p e below m W T' (pc + 3) L (v :: S) := by
  obtain ⟨T', X', e', st⟩ := Jvm.RoadKit.getF X hx hZ hown w via eT F (g := mkF m pc L (.ref a :: S)) rfl rfl hd
  exact ⟨T', X', e', fun t kt => k t (st t kt)⟩
theorem Go.getS {own R0 O n d host : String} {index : Nat} {v : Value} (k : Go p e below m W T pc L S) (X : Stand p l e R s m args below meth c T locs cells slots) (hx : p.tables.exec = Jvm.exec) (hZ : Z.Warmed39 s.vm) (hown : s.vm.findClass own = some m.cls) (w : (Cond.fieldLink own index R0 n d).before a0 Z = true ∨ (Cond.fieldLinkNest own index R0 n d host).before a0 Z = true) (via : Via Z R0 O n d) (eT : T.heap = h) (F : Sta Z h O n d v) (hd : decode c.code pc = .ok (.getstatic index, 3)) :
    ∃ T', Stand p l e R s m args below meth c T' locs cells slots ∧ T'.heap = h ∧ Go p e below m W T' (pc + 3) L (v :: S) := by
  obtain ⟨T', X', e', st⟩ := Jvm.RoadKit.getS2 X hx hZ hown w via eT F (g := mkF m pc L S) rfl hd
  exact ⟨T', X', e', fun t kt => k t (st t kt)⟩
theorem Go.putF {own R0 O n d host C : String} {index kk : Nat} {ty : FieldType} {a : Addr} {v old : Value} (k : Go p e below m W T pc L (v :: .ref a :: S)) (X : Stand p l e R s m args below meth c T locs cells slots) (hx : p.tables.exec = Jvm.exec) (hZ : Z.Warmed39 s.vm) (hown : s.vm.findClass own = some m.cls) (w : (Cond.fieldLink own index R0 n d).before a0 Z = true ∨ (Cond.fieldLinkNest own index R0 n d host).before a0 Z = true) (via : Via Z R0 O n d) (eT : T.heap = h) (F : Fld Z h a O n d old) (E : Exa Z h a C)
    (Ly : (Cond.lays C O n d).before a0 Z = true ∨ ((Cond.laysFinal C O n d).before a0 Z = true ∧ own = O ∧ meth.name = "<init>")) (wi : (Cond.instantiable C kk).before a0 Z = true) (hty : parseFieldDescriptor d = some ty) (hn : narrow ty v = v) (hf : fits ty v = true) {n0 : Nat} (N : Fr n0 locs) (g0 : n0 ≤ a) (hd : decode c.code pc = .ok (.putfield index, 3)) :
    ∃ T' h' locs', Stand p l e R s m args below meth c T' locs' cells slots ∧ T'.heap = h' ∧ Wr h h' a (Jvm.RoadKit.slotOf Z O n d) v ∧ Fr n0 locs' ∧ Go p e below m W T' (pc + 3) L S := by
  obtain ⟨T', h', X', e', W', st⟩ := Jvm.RoadKit.putF X hx hZ hown w via eT F E Ly wi hty hn hf (g := mkF m pc L (v :: .ref a :: S)) rfl rfl hd
  exact ⟨T', h', _, X', e', W', Fr.snoc X' N g0, fun t kt => k t (st t kt)⟩
theorem Go.newO {own C : String} {index n cells' slots' : Nat} (k : Go p e below m W T pc L S) (X : Stand p l e R s m args below meth c T locs cells slots) (hx : p.tables.exec = Jvm.exec) (hZ : Z.Warmed39 s.vm) (hown : s.vm.findClass own = some m.cls) (w : (Cond.classLink own index C).before a0 Z = true) (wi : (Cond.instantiable C n).before a0 Z = true) (wz : (Cond.initialized C).before a0 Z = true) (eT : T.heap = h) (hd : decode c.code pc = .ok (.new index, 3)) (h1 : cells + 1 = cells') (h2 : slots + n = slots') (h3 : cells' ≤ R.cells) (h4 : slots' ≤ R.slots) :
    ∃ T' h' b, Stand p l e R s m args below meth c T' locs cells' slots' ∧ T'.heap = h' ∧ b = h.size ∧ Ext h h' ∧ Exa Z h' b C ∧ (∀ {O nm d : String} {ty : FieldType}, Laid Z a0 C O nm d → parseFieldDescriptor d = some ty → Fld Z h' b O nm d (defaultValue ty)) ∧ Go p e below m W T' (pc + 3) L (.ref b :: S) := by
  subst h1 h2
  obtain ⟨T', h', X', e', E', A', D', -, st⟩ := Jvm.RoadKit.newO X hx hZ hown w wi wz eT (g := mkF m pc L S) rfl hd h3 h4
  exact ⟨T', h', _, X', e', rfl, E', A', D', fun t kt => k t (st t kt)⟩
theorem Go.initO {own : String} {idx Wd : Nat} {a : Addr} (k : Go p e below m W T pc L (.ref a :: S)) (X : Stand p l e R s m args below meth c T locs cells slots) (hx : p.tables.exec = Jvm.exec) (hZ : Z.Warmed39 s.vm) (hown : s.vm.findClass own = some m.cls) (hsz : L.size = c.maxLocals) (w1 : (Cond.methodLink own idx Lib.objectInit).before a0 Z = true) (w2 : (Cond.instanceMethod Lib.objectInit).before a0 Z = true)
    (w3 : (Cond.code Lib.objectInit ⟨#[0xb1]⟩ 1 none).before a0 Z = true) (eT : T.heap = h) (hd : decode c.code pc = .ok (.invokespecial idx, 3)) (hW : (S.map fun v => v.category).sum ≤ Wd) (hf : 1 ≤ R.frames) (hl : Wd + 12 ≤ R.locals) :
    ∃ T', Stand p l e R s m args below meth c T' locs cells slots ∧ T'.heap = h ∧ Go p e below m W T' (pc + 3) L S := by
  obtain ⟨T', X', e', st⟩ := Jvm.RoadKit.initO X hx hZ hown w1 w2 w3 eT (g := mkF m pc L (.ref a :: S)) rfl hsz rfl hd hf (W := Wd) (by show 2 * 0 + _ ≤ _; rw [Nat.mul_zero, Nat.zero_add]; exact hW) hl
  exact ⟨T', X', e', fun t kt => k t (st t kt)⟩
theorem Go.virtB {own C : String} {index : Nat} {y z : MethodName} {Wd cells' slots' : Nat} {b : Addr} {argsL rest : List Value} {Q : Option Value → Heap → List Loc → Prop} {as' : Array Value} {ps : List FieldType} {r : Option FieldType} {rc rs : Nat}
    (k : Go p e below m W T pc L S) (X : Stand p l e R s m args below meth c T locs cells slots) (hx : p.tables.exec = Jvm.exec) (hZ : Z.Warmed39 s.vm) (hown : s.vm.findClass own = some m.cls) (hsz : L.size = c.maxLocals)
    (w1 : (Cond.methodLink own index y).before a0 Z = true) (w2 : (Cond.declares y).before a0 Z = true) (hnf : NotFace s y) (w3 : (Cond.selects C y z).before a0 Z = true) (w4 : (Cond.instanceMethod z).before a0 Z = true) (hd : decode c.code pc = .ok (.invokevirtual index, 3)) (hy : y.cls ≠ "java/lang/invoke/MethodHandle" ∧ y.cls ≠ "java/lang/invoke/VarHandle")
    (hK : Back l R p e below s args z 3 Wd (fun A a => a = as' ∧ A.U.heap = h ∧ A.cells + rc ≤ R.cells ∧ A.slots + rs ≤ R.slots) (fun A _ v B => ∃ L, Q v B.U.heap L ∧ B.locs = A.locs ++ L ∧ B.cells = A.cells + rc ∧ B.slots = A.slots + rs))
    (eT : T.heap = h) (E : Exa Z h b C) (hs : S = argsL.reverse ++ .ref b :: rest) (ha : (.ref b :: argsL).toArray = as') (hp : parseMethodDescriptor y.desc = some ⟨ps, r⟩) (hlen : argsL.length = ps.length) (hW : (rest.map fun v => v.category).sum ≤ Wd) (h1 : cells + rc = cells') (h2 : slots + rs = slots') (h3 : cells' ≤ R.cells) (h4 : slots' ≤ R.slots) :
    ∃ T' v L', Stand p l e R s m args below meth c T' (locs ++ L') cells' slots' ∧ Q v T'.heap L' ∧ Go p e below m W T' (pc + 3) L (v.toList ++ rest) := by
  subst hs h1 h2
  obtain ⟨cq, kq, qa, qb, qc⟩ := isOf hZ eT E
  obtain ⟨v, _, ⟨T', L', k', n'⟩, -, X', ⟨Lc, hQ, l1, y1, z1⟩, st⟩ := X.virtualBack hx (y := y) (z := z) hown (mvT hZ w1) (mvT hZ w2) hnf (mvT hZ w3) (mvT hZ w4) hy hK qa qc (g := mkF m pc L (argsL.reverse ++ .ref b :: rest)) rfl hsz (Steps.refl _) (argsL := argsL) (rest := rest) (lenOf hp hlen) rfl (by show 2 * 0 + _ ≤ _; rw [Nat.mul_zero, Nat.zero_add]; exact hW) hd (fun _ _ => ⟨ha, eT, h3, h4⟩)
  dsimp only [Pt.U, Pt.locs, Pt.cells, Pt.slots] at X' l1 y1 z1 st hQ
  subst l1 y1 z1
  exact ⟨T', v, Lc, X', hQ, fun t kt => k t (st.trans kt)⟩
theorem Go.virt {own C : String} {index : Nat} {y z : MethodName} {Wd cells' slots' : Nat} {b : Addr} {argsL rest : List Value} {Q : Option Value → Heap → List Loc → Prop} {as' : Array Value} {ps : List FieldType} {r : Option FieldType} {bytes : ByteArray} {maxL : Nat} {ret : Option FieldType} {rm : Room}
    (k : Go p e below m W T pc L S) (X : Stand p l e R s m args below meth c T locs cells slots) (hx : p.tables.exec = Jvm.exec) (hZ : Z.Warmed39 s.vm) (hown : s.vm.findClass own = some m.cls) (hsz : L.size = c.maxLocals)
    (w1 : (Cond.methodLink own index y).before a0 Z = true) (w2 : (Cond.declares y).before a0 Z = true) (hnf : NotFace s y) (w3 : (Cond.selects C y z).before a0 Z = true) (w4 : (Cond.instanceMethod z).before a0 Z = true) (wc : (Cond.code z bytes maxL ret).before a0 Z = true) (wz : (Cond.initialized z.cls).before a0 Z = true) (hd : decode c.code pc = .ok (.invokevirtual index, 3)) (hy : y.cls ≠ "java/lang/invoke/MethodHandle" ∧ y.cls ≠ "java/lang/invoke/VarHandle")
    (hM : MetFree l z (head1 [Cond.code z bytes maxL ret] rm) (fun a U => a = as' ∧ Z.Warmed39 U.vm ∧ U.heap = h) (fun _ _ _ _ _ => True) (fun _ U o U' => ∃ v L, o = .returned v ∧ Q v U'.heap L ∧ FrameEnd U o U' L rm.cells rm.slots))
    (eT : T.heap = h) (E : Exa Z h b C) (hs : S = argsL.reverse ++ .ref b :: rest) (ha : (.ref b :: argsL).toArray = as') (hp : parseMethodDescriptor y.desc = some ⟨ps, r⟩) (hlen : argsL.length = ps.length) (hW : (rest.map fun v => v.category).sum ≤ Wd) (hf : rm.frames + 1 ≤ R.frames) (hl : Wd + (maxL + 11) + rm.locals ≤ R.locals) (h1 : cells + rm.cells = cells') (h2 : slots + rm.slots = slots') (h3 : cells' ≤ R.cells) (h4 : slots' ≤ R.slots) :
    ∃ T' v L', Stand p l e R s m args below meth c T' (locs ++ L') cells' slots' ∧ Q v T'.heap L' ∧ Go p e below m W T' (pc + 3) L (v.toList ++ rest) :=
  Go.virtB (Wd := Wd) k X hx hZ hown hsz w1 w2 hnf w3 w4 hd hy (backOf (W := Wd) hM hZ wc wz hf hl) eT E hs ha hp hlen hW h1 h2 h3 h4
theorem Go.virtUpB {own C owner : String} {index : Nat} {y z : MethodName} {Wd cells' slots' : Nat} {b : Addr} {argsL rest : List Value} {Q : Option Value → Heap → List Loc → Prop} {as' : Array Value} {ps : List FieldType} {r : Option FieldType} {rc rs : Nat}
    (k : Go p e below m W T pc L S) (X : Stand p l e R s m args below meth c T locs cells slots) (hx : p.tables.exec = Jvm.exec) (hZ : Z.Warmed39 s.vm) (hown : s.vm.findClass own = some m.cls) (hsz : L.size = c.maxLocals)
    (w1 : (Cond.methodLink own index y).before a0 Z = true) (w2 : (Cond.sameMethod y.cls owner y.name y.desc).before a0 Z = true) (w5 : (Cond.declares ⟨owner, y.name, y.desc⟩).before a0 Z = true) (w3 : (Cond.selects C y z).before a0 Z = true) (w4 : (Cond.instanceMethod z).before a0 Z = true) (hd : decode c.code pc = .ok (.invokevirtual index, 3)) (hy : owner ≠ "java/lang/invoke/MethodHandle" ∧ owner ≠ "java/lang/invoke/VarHandle")
    (hK : Back l R p e below s args z 3 Wd (fun A a => a = as' ∧ A.U.heap = h ∧ A.cells + rc ≤ R.cells ∧ A.slots + rs ≤ R.slots) (fun A _ v B => ∃ L, Q v B.U.heap L ∧ B.locs = A.locs ++ L ∧ B.cells = A.cells + rc ∧ B.slots = A.slots + rs))
    (eT : T.heap = h) (E : Exa Z h b C) (hs : S = argsL.reverse ++ .ref b :: rest) (ha : (.ref b :: argsL).toArray = as') (hp : parseMethodDescriptor y.desc = some ⟨ps, r⟩) (hlen : argsL.length = ps.length) (hW : (rest.map fun v => v.category).sum ≤ Wd) (h1 : cells + rc = cells') (h2 : slots + rs = slots') (h3 : cells' ≤ R.cells) (h4 : slots' ≤ R.slots) :
    ∃ T' v L', Stand p l e R s m args below meth c T' (locs ++ L') cells' slots' ∧ Q v T'.heap L' ∧ Go p e below m W T' (pc + 3) L (v.toList ++ rest) := by
  subst hs h1 h2
  obtain ⟨cq, kq, qa, qb, qc⟩ := isOf hZ eT E
  obtain ⟨v, _, ⟨T', L', k', n'⟩, -, X', ⟨Lc, hQ, l1, y1, z1⟩, st⟩ := X.virtualBackUp hx (x := y) (y := z) (owner := owner) hown (mvT hZ w1) (mvT hZ w2) (mvT hZ w5) hy (mvT hZ w3) (mvT hZ w4) hK qa qc (g := mkF m pc L (argsL.reverse ++ .ref b :: rest)) rfl hsz (Steps.refl _) (argsL := argsL) (rest := rest) (lenOf hp hlen) rfl (by show 2 * 0 + _ ≤ _; rw [Nat.mul_zero, Nat.zero_add]; exact hW) hd (fun _ _ => ⟨ha, eT, h3, h4⟩)
  dsimp only [Pt.U, Pt.locs, Pt.cells, Pt.slots] at X' l1 y1 z1 st hQ
  subst l1 y1 z1
  exact ⟨T', v, Lc, X', hQ, fun t kt => k t (st.trans kt)⟩
theorem Go.virtUp {own C owner : String} {index : Nat} {y z : MethodName} {Wd cells' slots' : Nat} {b : Addr} {argsL rest : List Value} {Q : Option Value → Heap → List Loc → Prop} {as' : Array Value} {ps : List FieldType} {r : Option FieldType} {bytes : ByteArray} {maxL : Nat} {ret : Option FieldType} {rm : Room}
    (k : Go p e below m W T pc L S) (X : Stand p l e R s m args below meth c T locs cells slots) (hx : p.tables.exec = Jvm.exec) (hZ : Z.Warmed39 s.vm) (hown : s.vm.findClass own = some m.cls) (hsz : L.size = c.maxLocals)
    (w1 : (Cond.methodLink own index y).before a0 Z = true) (w2 : (Cond.sameMethod y.cls owner y.name y.desc).before a0 Z = true) (w5 : (Cond.declares ⟨owner, y.name, y.desc⟩).before a0 Z = true) (w3 : (Cond.selects C y z).before a0 Z = true) (w4 : (Cond.instanceMethod z).before a0 Z = true) (wc : (Cond.code z bytes maxL ret).before a0 Z = true) (wz : (Cond.initialized z.cls).before a0 Z = true) (hd : decode c.code pc = .ok (.invokevirtual index, 3)) (hy : owner ≠ "java/lang/invoke/MethodHandle" ∧ owner ≠ "java/lang/invoke/VarHandle")
    (hM : MetFree l z (head1 [Cond.code z bytes maxL ret] rm) (fun a U => a = as' ∧ Z.Warmed39 U.vm ∧ U.heap = h) (fun _ _ _ _ _ => True) (fun _ U o U' => ∃ v L, o = .returned v ∧ Q v U'.heap L ∧ FrameEnd U o U' L rm.cells rm.slots))
    (eT : T.heap = h) (E : Exa Z h b C) (hs : S = argsL.reverse ++ .ref b :: rest) (ha : (.ref b :: argsL).toArray = as') (hp : parseMethodDescriptor y.desc = some ⟨ps, r⟩) (hlen : argsL.length = ps.length) (hW : (rest.map fun v => v.category).sum ≤ Wd) (hf : rm.frames + 1 ≤ R.frames) (hl : Wd + (maxL + 11) + rm.locals ≤ R.locals) (h1 : cells + rm.cells = cells') (h2 : slots + rm.slots = slots') (h3 : cells' ≤ R.cells) (h4 : slots' ≤ R.slots) :
    ∃ T' v L', Stand p l e R s m args below meth c T' (locs ++ L') cells' slots' ∧ Q v T'.heap L' ∧ Go p e below m W T' (pc + 3) L (v.toList ++ rest) :=
  Go.virtUpB (Wd := Wd) (owner := owner) k X hx hZ hown hsz w1 w2 w5 w3 w4 hd hy (backOf (W := Wd) hM hZ wc wz hf hl) eT E hs ha hp hlen hW h1 h2 h3 h4
theorem Go.ifaceB {own C : String} {index count : Nat} {y z : MethodName} {Wd cells' slots' : Nat} {b : Addr} {argsL rest : List Value} {Q : Option Value → Heap → List Loc → Prop} {as' : Array Value} {ps : List FieldType} {r : Option FieldType} {rc rs : Nat}
    (k : Go p e below m W T pc L S) (X : Stand p l e R s m args below meth c T locs cells slots) (hx : p.tables.exec = Jvm.exec) (hZ : Z.Warmed39 s.vm) (hown : s.vm.findClass own = some m.cls) (hsz : L.size = c.maxLocals)
    (w1 : (Cond.methodLink own index y).before a0 Z = true) (w2 : (Cond.declares y).before a0 Z = true) (w5 : (Cond.interfaceMethod y.cls y.cls y.name y.desc).before args s = true) (w3 : (Cond.selects C y z).before a0 Z = true) (w4 : (Cond.instanceMethod z).before a0 Z = true) (w6 : (Cond.publicMethod z).before a0 Z = true) (w7 : (Cond.unhidden C y.name y.desc).before a0 Z = true) (w8 : (Cond.castable C y.cls).before a0 Z = true) (hd : decode c.code pc = .ok (.invokeinterface index count, 5)) (hy : y.cls ≠ "java/lang/invoke/MethodHandle" ∧ y.cls ≠ "java/lang/invoke/VarHandle")
    (hK : Back l R p e below s args z 5 Wd (fun A a => a = as' ∧ A.U.heap = h ∧ A.cells + rc ≤ R.cells ∧ A.slots + rs ≤ R.slots) (fun A _ v B => ∃ L, Q v B.U.heap L ∧ B.locs = A.locs ++ L ∧ B.cells = A.cells + rc ∧ B.slots = A.slots + rs))
    (eT : T.heap = h) (E : Exa Z h b C) (hs : S = argsL.reverse ++ .ref b :: rest) (ha : (.ref b :: argsL).toArray = as') (hp : parseMethodDescriptor y.desc = some ⟨ps, r⟩) (hlen : argsL.length = ps.length) (hW : (rest.map fun v => v.category).sum ≤ Wd) (h1 : cells + rc = cells') (h2 : slots + rs = slots') (h3 : cells' ≤ R.cells) (h4 : slots' ≤ R.slots) :
    ∃ T' v L', Stand p l e R s m args below meth c T' (locs ++ L') cells' slots' ∧ Q v T'.heap L' ∧ Go p e below m W T' (pc + 5) L (v.toList ++ rest) := by
  subst hs h1 h2
  obtain ⟨cq, kq, qa, qb, qc⟩ := isOf hZ eT E
  obtain ⟨v, _, ⟨T', L', k', n'⟩, -, X', ⟨Lc, hQ, l1, y1, z1⟩, st⟩ := X.interfaceBack hx (xi := y) (y := z) (count := count) hown (mvT hZ w1) (mvT hZ w2) w5 (mvT hZ w3) (mvT hZ w4) (mvT hZ w6) (mvT hZ w7) (mvT hZ w8) hy hK qa qb qc (g := mkF m pc L (argsL.reverse ++ .ref b :: rest)) rfl hsz (Steps.refl _) (argsL := argsL) (rest := rest) (lenOf hp hlen) rfl (by show 2 * 0 + _ ≤ _; rw [Nat.mul_zero, Nat.zero_add]; exact hW) hd (fun _ _ => ⟨ha, eT, h3, h4⟩)
  dsimp only [Pt.U, Pt.locs, Pt.cells, Pt.slots] at X' l1 y1 z1 st hQ
  subst l1 y1 z1
  exact ⟨T', v, Lc, X', hQ, fun t kt => k t (st.trans kt)⟩
theorem Go.iface {own C : String} {index count : Nat} {y z : MethodName} {Wd cells' slots' : Nat} {b : Addr} {argsL rest : List Value} {Q : Option Value → Heap → List Loc → Prop} {as' : Array Value} {ps : List FieldType} {r : Option FieldType} {bytes : ByteArray} {maxL : Nat} {ret : Option FieldType} {rm : Room}
    (k : Go p e below m W T pc L S) (X : Stand p l e R s m args below meth c T locs cells slots) (hx : p.tables.exec = Jvm.exec) (hZ : Z.Warmed39 s.vm) (hown : s.vm.findClass own = some m.cls) (hsz : L.size = c.maxLocals)
    (w1 : (Cond.methodLink own index y).before a0 Z = true) (w2 : (Cond.declares y).before a0 Z = true) (w5 : (Cond.interfaceMethod y.cls y.cls y.name y.desc).before args s = true) (w3 : (Cond.selects C y z).before a0 Z = true) (w4 : (Cond.instanceMethod z).before a0 Z = true) (w6 : (Cond.publicMethod z).before a0 Z = true) (w7 : (Cond.unhidden C y.name y.desc).before a0 Z = true) (w8 : (Cond.castable C y.cls).before a0 Z = true) (wc : (Cond.code z bytes maxL ret).before a0 Z = true) (wz : (Cond.initialized z.cls).before a0 Z = true) (hd : decode c.code pc = .ok (.invokeinterface index count, 5)) (hy : y.cls ≠ "java/lang/invoke/MethodHandle" ∧ y.cls ≠ "java/lang/invoke/VarHandle")
    (hM : MetFree l z (head1 [Cond.code z bytes maxL ret] rm) (fun a U => a = as' ∧ Z.Warmed39 U.vm ∧ U.heap = h) (fun _ _ _ _ _ => True) (fun _ U o U' => ∃ v L, o = .returned v ∧ Q v U'.heap L ∧ FrameEnd U o U' L rm.cells rm.slots))
    (eT : T.heap = h) (E : Exa Z h b C) (hs : S = argsL.reverse ++ .ref b :: rest) (ha : (.ref b :: argsL).toArray = as') (hp : parseMethodDescriptor y.desc = some ⟨ps, r⟩) (hlen : argsL.length = ps.length) (hW : (rest.map fun v => v.category).sum ≤ Wd) (hf : rm.frames + 1 ≤ R.frames) (hl : Wd + (maxL + 11) + rm.locals ≤ R.locals) (h1 : cells + rm.cells = cells') (h2 : slots + rm.slots = slots') (h3 : cells' ≤ R.cells) (h4 : slots' ≤ R.slots) :
    ∃ T' v L', Stand p l e R s m args below meth c T' (locs ++ L') cells' slots' ∧ Q v T'.heap L' ∧ Go p e below m W T' (pc + 5) L (v.toList ++ rest) :=
  Go.ifaceB (Wd := Wd) k X hx hZ hown hsz w1 w2 w5 w3 w4 w6 w7 w8 hd hy (backOf (W := Wd) hM hZ wc wz hf hl) eT E hs ha hp hlen hW h1 h2 h3 h4
theorem Go.specB {own : String} {index : Nat} {y : MethodName} {bytes : ByteArray} {maxL : Nat} {Wd cells' slots' : Nat} {b : Addr} {argsL rest : List Value} {Q : Option Value → Heap → List Loc → Prop} {as' : Array Value} {ps : List FieldType} {r : Option FieldType} {rc rs : Nat}
    (k : Go p e below m W T pc L S) (X : Stand p l e R s m args below meth c T locs cells slots) (hx : p.tables.exec = Jvm.exec) (hZ : Z.Warmed39 s.vm) (hown : s.vm.findClass own = some m.cls) (hsz : L.size = c.maxLocals)
    (hy1 : y.name = "<init>") (w1 : (Cond.methodLink own index y).before a0 Z = true) (w2 : (Cond.instanceMethod y).before a0 Z = true) (wc : (Cond.code y bytes maxL none).before a0 Z = true) (hd : decode c.code pc = .ok (.invokespecial index, 3)) (hy : y.cls ≠ "java/lang/invoke/MethodHandle" ∧ y.cls ≠ "java/lang/invoke/VarHandle")
    (hK : Back l R p e below s args y 3 Wd (fun A a => a = as' ∧ A.U.heap = h ∧ A.cells + rc ≤ R.cells ∧ A.slots + rs ≤ R.slots) (fun A _ v B => ∃ L, Q v B.U.heap L ∧ B.locs = A.locs ++ L ∧ B.cells = A.cells + rc ∧ B.slots = A.slots + rs))
    (eT : T.heap = h) (hs : S = argsL.reverse ++ .ref b :: rest) (ha : (.ref b :: argsL).toArray = as') (hp : parseMethodDescriptor y.desc = some ⟨ps, r⟩) (hlen : argsL.length = ps.length) (hW : (rest.map fun v => v.category).sum ≤ Wd) (h1 : cells + rc = cells') (h2 : slots + rs = slots') (h3 : cells' ≤ R.cells) (h4 : slots' ≤ R.slots) :
    ∃ T' v L', Stand p l e R s m args below meth c T' (locs ++ L') cells' slots' ∧ Q v T'.heap L' ∧ Go p e below m W T' (pc + 3) L (v.toList ++ rest) := by
  subst hs h1 h2
  obtain ⟨v, _, ⟨T', L', k', n'⟩, -, X', ⟨Lc, hQ, l1, y1, z1⟩, st⟩ := X.specialBack hx (y := y) hy1 hown (mvT hZ w1) (mvT hZ w2) (mvT hZ wc) hy hK (g := mkF m pc L (argsL.reverse ++ .ref b :: rest)) rfl hsz (Steps.refl _) (a := b) (argsL := argsL) (rest := rest) (lenOf hp hlen) rfl (by show 2 * 0 + _ ≤ _; rw [Nat.mul_zero, Nat.zero_add]; exact hW) hd (fun _ _ => ⟨ha, eT, h3, h4⟩)
  dsimp only [Pt.U, Pt.locs, Pt.cells, Pt.slots] at X' l1 y1 z1 st hQ
  subst l1 y1 z1
  exact ⟨T', v, Lc, X', hQ, fun t kt => k t (st.trans kt)⟩
theorem Go.spec {own : String} {index : Nat} {y : MethodName} {bytes : ByteArray} {maxL : Nat} {Wd cells' slots' : Nat} {b : Addr} {argsL rest : List Value} {Q : Option Value → Heap → List Loc → Prop} {as' : Array Value} {ps : List FieldType} {r : Option FieldType} {rm : Room}
    (k : Go p e below m W T pc L S) (X : Stand p l e R s m args below meth c T locs cells slots) (hx : p.tables.exec = Jvm.exec) (hZ : Z.Warmed39 s.vm) (hown : s.vm.findClass own = some m.cls) (hsz : L.size = c.maxLocals)
    (hy1 : y.name = "<init>") (w1 : (Cond.methodLink own index y).before a0 Z = true) (w2 : (Cond.instanceMethod y).before a0 Z = true)  (wc : (Cond.code y bytes maxL none).before a0 Z = true) (wz : (Cond.initialized y.cls).before a0 Z = true) (hd : decode c.code pc = .ok (.invokespecial index, 3)) (hy : y.cls ≠ "java/lang/invoke/MethodHandle" ∧ y.cls ≠ "java/lang/invoke/VarHandle")
    (hM : MetFree l y (head1 [Cond.code y bytes maxL none] rm) (fun a U => a = as' ∧ Z.Warmed39 U.vm ∧ U.heap = h) (fun _ _ _ _ _ => True) (fun _ U o U' => ∃ v L, o = .returned v ∧ Q v U'.heap L ∧ FrameEnd U o U' L rm.cells rm.slots))
    (eT : T.heap = h) (hs : S = argsL.reverse ++ .ref b :: rest) (ha : (.ref b :: argsL).toArray = as') (hp : parseMethodDescriptor y.desc = some ⟨ps, r⟩) (hlen : argsL.length = ps.length) (hW : (rest.map fun v => v.category).sum ≤ Wd) (hf : rm.frames + 1 ≤ R.frames) (hl : Wd + (maxL + 11) + rm.locals ≤ R.locals) (h1 : cells + rm.cells = cells') (h2 : slots + rm.slots = slots') (h3 : cells' ≤ R.cells) (h4 : slots' ≤ R.slots) :
    ∃ T' v L', Stand p l e R s m args below meth c T' (locs ++ L') cells' slots' ∧ Q v T'.heap L' ∧ Go p e below m W T' (pc + 3) L (v.toList ++ rest) :=
  Go.specB (Wd := Wd) k X hx hZ hown hsz hy1 w1 w2 wc hd hy (backOf (W := Wd) hM hZ wc wz hf hl) eT hs ha hp hlen hW h1 h2 h3 h4
theorem Go.statB {own : String} {index : Nat} {y : MethodName} {bytes : ByteArray} {maxL : Nat} {ret : Option FieldType} {Wd cells' slots' : Nat} {argsL rest : List Value} {Q : Option Value → Heap → List Loc → Prop} {as' : Array Value} {ps : List FieldType} {r : Option FieldType} {rc rs : Nat}
    (k : Go p e below m W T pc L S) (X : Stand p l e R s m args below meth c T locs cells slots) (hx : p.tables.exec = Jvm.exec) (hZ : Z.Warmed39 s.vm) (hown : s.vm.findClass own = some m.cls) (hsz : L.size = c.maxLocals)
    (w1 : (Cond.methodLink own index y).before a0 Z = true) (w2 : (Cond.static y).before a0 Z = true) (wc : (Cond.code y bytes maxL ret).before a0 Z = true) (wz : (Cond.initialized y.cls).before a0 Z = true) (hd : decode c.code pc = .ok (.invokestatic index, 3)) (hy : y.cls ≠ "java/lang/invoke/MethodHandle" ∧ y.cls ≠ "java/lang/invoke/VarHandle")
    (hK : Back l R p e below s args y 3 Wd (fun A a => a = as' ∧ A.U.heap = h ∧ A.cells + rc ≤ R.cells ∧ A.slots + rs ≤ R.slots) (fun A _ v B => ∃ L, Q v B.U.heap L ∧ B.locs = A.locs ++ L ∧ B.cells = A.cells + rc ∧ B.slots = A.slots + rs))
    (eT : T.heap = h) (hs : S = argsL.reverse ++ rest) (ha : argsL.toArray = as') (hp : parseMethodDescriptor y.desc = some ⟨ps, r⟩) (hlen : argsL.length = ps.length) (hW : (rest.map fun v => v.category).sum ≤ Wd) (h1 : cells + rc = cells') (h2 : slots + rs = slots') (h3 : cells' ≤ R.cells) (h4 : slots' ≤ R.slots) :
    ∃ T' v L', Stand p l e R s m args below meth c T' (locs ++ L') cells' slots' ∧ Q v T'.heap L' ∧ Go p e below m W T' (pc + 3) L (v.toList ++ rest) := by
  subst hs h1 h2
  obtain ⟨v, _, ⟨T', L', k', n'⟩, -, X', ⟨Lc, hQ, l1, y1, z1⟩, st⟩ := Jvm.LawKit.callS X hx (y := y) hown (mvT hZ w1) (mvT hZ w2) (mvT hZ wz) (mvT hZ wc) hy hK (g := mkF m pc L (argsL.reverse ++ rest)) rfl hsz (argsL := argsL) (rest := rest) (lenOf hp hlen) rfl (by show 2 * 0 + _ ≤ _; rw [Nat.mul_zero, Nat.zero_add]; exact hW) hd (fun _ _ => ⟨ha, eT, h3, h4⟩)
  dsimp only [Pt.U, Pt.locs, Pt.cells, Pt.slots] at X' l1 y1 z1 st hQ
  subst l1 y1 z1
  exact ⟨T', v, Lc, X', hQ, fun t kt => k t (st t kt)⟩
theorem Go.stat {own : String} {index : Nat} {y : MethodName} {bytes : ByteArray} {maxL : Nat} {ret : Option FieldType} {Wd cells' slots' : Nat} {argsL rest : List Value} {Q : Option Value → Heap → List Loc → Prop} {as' : Array Value} {ps : List FieldType} {r : Option FieldType} {rm : Room}
    (k : Go p e below m W T pc L S) (X : Stand p l e R s m args below meth c T locs cells slots) (hx : p.tables.exec = Jvm.exec) (hZ : Z.Warmed39 s.vm) (hown : s.vm.findClass own = some m.cls) (hsz : L.size = c.maxLocals)
    (w1 : (Cond.methodLink own index y).before a0 Z = true) (w2 : (Cond.static y).before a0 Z = true)  (wc : (Cond.code y bytes maxL ret).before a0 Z = true) (wz : (Cond.initialized y.cls).before a0 Z = true) (hd : decode c.code pc = .ok (.invokestatic index, 3)) (hy : y.cls ≠ "java/lang/invoke/MethodHandle" ∧ y.cls ≠ "java/lang/invoke/VarHandle")
    (hM : MetFree l y (head1 [Cond.code y bytes maxL ret] rm) (fun a U => a = as' ∧ Z.Warmed39 U.vm ∧ U.heap = h) (fun _ _ _ _ _ => True) (fun _ U o U' => ∃ v L, o = .returned v ∧ Q v U'.heap L ∧ FrameEnd U o U' L rm.cells rm.slots))
    (eT : T.heap = h) (hs : S = argsL.reverse ++ rest) (ha : argsL.toArray = as') (hp : parseMethodDescriptor y.desc = some ⟨ps, r⟩) (hlen : argsL.length = ps.length) (hW : (rest.map fun v => v.category).sum ≤ Wd) (hf : rm.frames + 1 ≤ R.frames) (hl : Wd + (maxL + 11) + rm.locals ≤ R.locals) (h1 : cells + rm.cells = cells') (h2 : slots + rm.slots = slots') (h3 : cells' ≤ R.cells) (h4 : slots' ≤ R.slots) :
    ∃ T' v L', Stand p l e R s m args below meth c T' (locs ++ L') cells' slots' ∧ Q v T'.heap L' ∧ Go p e below m W T' (pc + 3) L (v.toList ++ rest) :=
  Go.statB (Wd := Wd) k X hx hZ hown hsz w1 w2 wc wz hd hy (backOf (W := Wd) hM hZ wc wz hf hl) eT hs ha hp hlen hW h1 h2 h3 h4
theorem Go.privB {own C : String} {index : Nat} {y : MethodName} {bytes : ByteArray} {maxL : Nat} {ret : Option FieldType} {Wd cells' slots' : Nat} {b : Addr} {argsL rest : List Value} {Q : Option Value → Heap → List Loc → Prop} {as' : Array Value} {ps : List FieldType} {r : Option FieldType} {rc rs : Nat}
    (k : Go p e below m W T pc L S) (X : Stand p l e R s m args below meth c T locs cells slots) (hx : p.tables.exec = Jvm.exec) (hZ : Z.Warmed39 s.vm) (hown : s.vm.findClass own = some m.cls) (hsz : L.size = c.maxLocals)
    (w1 : (Cond.methodLink own index y).before a0 Z = true) (w2 : (Cond.instanceMethod y).before a0 Z = true) (w3 : (Cond.selects y.cls y y).before a0 Z = true) (w4 : (Cond.privateMethod y).before a0 Z = true) (wc : (Cond.code y bytes maxL ret).before a0 Z = true)
    (hd : decode c.code pc = .ok (.invokevirtual index, 3)) (hy : y.cls ≠ "java/lang/invoke/MethodHandle" ∧ y.cls ≠ "java/lang/invoke/VarHandle")
    (hK : Back l R p e below s args y 3 Wd (fun A a => a = as' ∧ A.U.heap = h ∧ A.cells + rc ≤ R.cells ∧ A.slots + rs ≤ R.slots) (fun A _ v B => ∃ L, Q v B.U.heap L ∧ B.locs = A.locs ++ L ∧ B.cells = A.cells + rc ∧ B.slots = A.slots + rs))
    (eT : T.heap = h) (E : Exa Z h b C) (hs : S = argsL.reverse ++ .ref b :: rest) (ha : (.ref b :: argsL).toArray = as') (hp : parseMethodDescriptor y.desc = some ⟨ps, r⟩) (hlen : argsL.length = ps.length) (hW : (rest.map fun v => v.category).sum ≤ Wd) (h1 : cells + rc = cells') (h2 : slots + rs = slots') (h3 : cells' ≤ R.cells) (h4 : slots' ≤ R.slots) :
    ∃ T' v L', Stand p l e R s m args below meth c T' (locs ++ L') cells' slots' ∧ Q v T'.heap L' ∧ Go p e below m W T' (pc + 3) L (v.toList ++ rest) := by
  subst hs h1 h2
  obtain ⟨cq, q1, q2⟩ := E.cell
  obtain ⟨v, _, ⟨T', L', k', n'⟩, -, X', ⟨Lc, hQ, l1, y1, z1⟩, st⟩ := X.privateBack hx (y := y) hown (mvT hZ w1) (mvT hZ w2) (mvT hZ w3) (Cond.privateMethod_at (mvP hZ w4 (args := #[]))) (mvT hZ wc) hy hK (g := mkF m pc L (argsL.reverse ++ .ref b :: rest)) rfl hsz (Steps.refl _) (a := b) (by rw [eT]; exact q1) q2 (argsL := argsL) (rest := rest) (lenOf hp hlen) rfl (by show 2 * 0 + _ ≤ _; rw [Nat.mul_zero, Nat.zero_add]; exact hW) hd (fun _ _ => ⟨ha, eT, h3, h4⟩)
  dsimp only [Pt.U, Pt.locs, Pt.cells, Pt.slots] at X' l1 y1 z1 st hQ
  subst l1 y1 z1
  exact ⟨T', v, Lc, X', hQ, fun t kt => k t (st.trans kt)⟩
theorem Go.priv {own C : String} {index : Nat} {y : MethodName} {bytes : ByteArray} {maxL : Nat} {ret : Option FieldType} {Wd cells' slots' : Nat} {b : Addr} {argsL rest : List Value} {Q : Option Value → Heap → List Loc → Prop} {as' : Array Value} {ps : List FieldType} {r : Option FieldType} {rm : Room}
    (k : Go p e below m W T pc L S) (X : Stand p l e R s m args below meth c T locs cells slots) (hx : p.tables.exec = Jvm.exec) (hZ : Z.Warmed39 s.vm) (hown : s.vm.findClass own = some m.cls) (hsz : L.size = c.maxLocals)
    (w1 : (Cond.methodLink own index y).before a0 Z = true) (w2 : (Cond.instanceMethod y).before a0 Z = true) (w3 : (Cond.selects y.cls y y).before a0 Z = true) (w4 : (Cond.privateMethod y).before a0 Z = true) (wc : (Cond.code y bytes maxL ret).before a0 Z = true) (wz : (Cond.initialized y.cls).before a0 Z = true)
    (hd : decode c.code pc = .ok (.invokevirtual index, 3)) (hy : y.cls ≠ "java/lang/invoke/MethodHandle" ∧ y.cls ≠ "java/lang/invoke/VarHandle")
    (hM : MetFree l y (head1 [Cond.code y bytes maxL ret] rm) (fun a U => a = as' ∧ Z.Warmed39 U.vm ∧ U.heap = h) (fun _ _ _ _ _ => True) (fun _ U o U' => ∃ v L, o = .returned v ∧ Q v U'.heap L ∧ FrameEnd U o U' L rm.cells rm.slots))
    (eT : T.heap = h) (E : Exa Z h b C) (hs : S = argsL.reverse ++ .ref b :: rest) (ha : (.ref b :: argsL).toArray = as') (hp : parseMethodDescriptor y.desc = some ⟨ps, r⟩) (hlen : argsL.length = ps.length) (hW : (rest.map fun v => v.category).sum ≤ Wd) (hf : rm.frames + 1 ≤ R.frames) (hl : Wd + (maxL + 11) + rm.locals ≤ R.locals) (h1 : cells + rm.cells = cells') (h2 : slots + rm.slots = slots') (h3 : cells' ≤ R.cells) (h4 : slots' ≤ R.slots) :
    ∃ T' v L', Stand p l e R s m args below meth c T' (locs ++ L') cells' slots' ∧ Q v T'.heap L' ∧ Go p e below m W T' (pc + 3) L (v.toList ++ rest) :=
  Go.privB (Wd := Wd) k X hx hZ hown hsz w1 w2 w3 w4 wc hd hy (backOf (W := Wd) hM hZ wc wz hf hl) eT E hs ha hp hlen hW h1 h2 h3 h4
theorem Go.castY {own K : String} {index : Nat} {a : Addr} (k : Go p e below m W T pc L (.ref a :: S)) (X : Stand p l e R s m args below meth c T locs cells slots) (hx : p.tables.exec = Jvm.exec) (hZ : Z.Warmed39 s.vm) (hown : s.vm.findClass own = some m.cls) (w : (Cond.classLink own index K).before a0 Z = true) (eT : T.heap = h) (F : Ins Z h a K true) (hd : decode c.code pc = .ok (.checkcast index, 3)) :
    ∃ T', Stand p l e R s m args below meth c T' locs cells slots ∧ T'.heap = h ∧ Go p e below m W T' (pc + 3) L (.ref a :: S) := by
  obtain ⟨T', X', e', st⟩ := Jvm.RoadKit.castY X hx hZ hown w eT F (g := mkF m pc L (.ref a :: S)) rfl rfl hd
  exact ⟨T', X', e', fun t kt => k t (st t kt)⟩
theorem Go.instY {own K : String} {index : Nat} {a : Addr} (k : Go p e below m W T pc L (.ref a :: S)) (X : Stand p l e R s m args below meth c T locs cells slots) (hx : p.tables.exec = Jvm.exec) (hZ : Z.Warmed39 s.vm) (hown : s.vm.findClass own = some m.cls) (w : (Cond.classLink own index K).before a0 Z = true) (eT : T.heap = h) (F : Ins Z h a K true) (hd : decode c.code pc = .ok (.instanceof index, 3)) :
    ∃ T', Stand p l e R s m args below meth c T' locs cells slots ∧ T'.heap = h ∧ Go p e below m W T' (pc + 3) L (.int 1 :: S) := by
  obtain ⟨T', X', e', st⟩ := Jvm.RoadKit.instY X hx hZ hown w eT F (g := mkF m pc L (.ref a :: S)) rfl rfl hd
  exact ⟨T', X', e', fun t kt => k t (st t kt)⟩
theorem Go.instNull {index : Nat} (k : Go p e below m W T pc L (.null :: S)) (X : Stand p l e R s m args below meth c T locs cells slots) (hx : p.tables.exec = Jvm.exec) (hd : decode c.code pc = .ok (.instanceof index, 3)) : Go p e below m W T (pc + 3) L (.int 0 :: S) := fun t kt => k t (X.instanceofNull hx (g := mkF m pc L (.null :: S)) rfl rfl hd t kt)
theorem Go.castNull {index : Nat} (k : Go p e below m W T pc L (.null :: S)) (X : Stand p l e R s m args below meth c T locs cells slots) (hx : p.tables.exec = Jvm.exec) (hd : decode c.code pc = .ok (.checkcast index, 3)) : Go p e below m W T (pc + 3) L (.null :: S) := fun t kt => k t (X.checkcastNull hx (g := mkF m pc L (.null :: S)) rfl rfl hd t kt)
theorem Go.cast {x y : Int32} (k : Go p e below m W T pc L (.int x :: S)) (q : x = y) : Go p e below m W T pc L (.int y :: S) := q ▸ k
theorem Go.castJ {x y : Int64} (k : Go p e below m W T pc L (.long x :: S)) (q : x = y) : Go p e below m W T pc L (.long y :: S) := q ▸ k
/-! the ways out of a body -/
abbrev Done (p : Program) (e : Env) (below : List Frame) (s W : State) (Q : Option Value → Heap → List Loc → Prop) (rc rs : Nat) : Prop :=
  ∃ s₂ o, Steps p.tables e below W s₂ ∧ s₂.status = .running ∧ Ended s₂ below o ∧ ∃ v L, o = .returned v ∧ Q v s₂.heap L ∧ FrameEnd s o s₂ L rc rs
theorem Go.ireturnN {t : FieldType} {x : Int32} {Q : Option Value → Heap → List Loc → Prop} {rc rs : Nat} (k : Go p e below m W T pc L (.int x :: S)) (X : Stand p l e R s m args below meth c T locs cells slots) (hx : p.tables.exec = Jvm.exec) (hret : meth.sig.returnType = some t) (ht : t = .boolean ∨ t = .byte ∨ t = .char ∨ t = .short) (hn : nar t x = x) (hd : decode c.code pc = .ok (.ireturn, 1)) (hlk : meth.locks = false) (hq : Q (some (.int x)) T.heap locs) (h1 : cells ≤ rc) (h2 : slots ≤ rs) : Done p e below s W Q rc rs := by
  obtain ⟨fs, hr, hrun, hended, hW, hsame⟩ := X.leave (v := some (.int x)) (fun q => by rw [hret] at q; cases q) hlk
  refine ⟨_, _, k _ (retN X hx hret ht hd (by rw [hn]; exact hr)), hrun, hended, _, _, rfl, hq, ⟨_, rfl⟩, hW, hsame.mono h1 h2⟩
theorem Go.ireturnI {x : Int32} {Q : Option Value → Heap → List Loc → Prop} {rc rs : Nat} (k : Go p e below m W T pc L (.int x :: S)) (X : Stand p l e R s m args below meth c T locs cells slots) (hx : p.tables.exec = Jvm.exec) (hret : meth.sig.returnType = some .int) (hd : decode c.code pc = .ok (.ireturn, 1)) (hlk : meth.locks = false) (hq : Q (some (.int x)) T.heap locs) (h1 : cells ≤ rc) (h2 : slots ≤ rs) : Done p e below s W Q rc rs := by
  obtain ⟨fs, hr, hrun, hended, hW, hsame⟩ := X.leave (v := some (.int x)) (fun q => by rw [hret] at q; cases q) hlk
  refine ⟨_, _, k _ (retI X hx hret hd hr), hrun, hended, _, _, rfl, hq, ⟨_, rfl⟩, hW, hsame.mono h1 h2⟩
theorem Go.return_ {Q : Option Value → Heap → List Loc → Prop} {rc rs : Nat} (k : Go p e below m W T pc L []) (X : Stand p l e R s m args below meth c T locs cells slots) (hx : p.tables.exec = Jvm.exec) (hret : meth.sig.returnType = none) (hd : decode c.code pc = .ok (.return_, 1)) (hlk : meth.locks = false) (hq : Q none T.heap locs) (h1 : cells ≤ rc) (h2 : slots ≤ rs) : Done p e below s W Q rc rs := by
  obtain ⟨fs, hr, hrun, hended, hW, hsame⟩ := X.leave (v := none) (fun _ => rfl) hlk
  refine ⟨_, _, k _ (X.returnOut hx hret hd hr), hrun, hended, _, _, rfl, hq, ⟨_, rfl⟩, hW, hsame.mono h1 h2⟩
theorem Go.areturn {t : FieldType} {v : Value} {Q : Option Value → Heap → List Loc → Prop} {rc rs : Nat} (k : Go p e below m W T pc L (v :: S)) (X : Stand p l e R s m args below meth c T locs cells slots) (hx : p.tables.exec = Jvm.exec) (hret : meth.sig.returnType = some t) (ht : t.isReference = true) (hv : v.isRef = true) (hd : decode c.code pc = .ok (.areturn, 1)) (hlk : meth.locks = false) (hq : Q (some v) T.heap locs) (h1 : cells ≤ rc) (h2 : slots ≤ rs) : Done p e below s W Q rc rs := by
  obtain ⟨fs, hr, hrun, hended, hW, hsame⟩ := X.leave (v := some v) (fun q => by rw [hret] at q; cases q) hlk
  refine ⟨_, _, k _ ?_, hrun, hended, _, _, rfl, hq, ⟨_, rfl⟩, hW, hsame.mono h1 h2⟩
  jvm_step X.here [X.here.top, hx, hd, X.method', hret, hv, ht]
  first | (intro acts; rw [hr _ acts rfl rfl rfl]) | rw [hr _ _ rfl rfl rfl]
  exact Steps.refl _

theorem own_in {cl : Cell} {z j : Int32} {i n : Nat} (S1 : cl.slots.size = z.toNatClampNeg) (hz : z.toNatClampNeg = n) (hj : j.toNatClampNeg = i) (hj0 : ¬ j < 0) (hi : i < n) : ¬ (j < 0 ∨ cl.slots.size ≤ j.toNatClampNeg) := by
  intro q
  rcases q with q | q
  · exact hj0 q
  · rw [S1, hz, hj] at q; omega

theorem Go.iastore {a : Addr} {kc : ClassId} {z j : Int32} {vs : List Value} {d : Value} {i : Nat} {n0 : Nat} {x : Int32} (k : Go p e below m W T pc L (.int x :: .int j :: .ref a :: S)) (X : Stand p l e R s m args below meth c T locs cells slots) (hx : p.tables.exec = Jvm.exec) (hZ : Z.Warmed39 s.vm) (eT : T.heap = h) (Va : Arv Z h a kc .int z vs d) (hz : z.toNatClampNeg = vs.length) (hj : j.toNatClampNeg = i) (hj0 : ¬ j < 0) (hi : i < vs.length) (N : Fr n0 locs) (g0 : n0 ≤ a) (hd : decode c.code pc = .ok (.iastore, 1)) :
    ∃ T' h' locs', Stand p l e R s m args below meth c T' locs' cells slots ∧ T'.heap = h' ∧ Wr h h' a j.toNatClampNeg (.int x) ∧ Arv Z h' a kc .int z (vs.set i (.int x)) d ∧ Fr n0 locs' ∧ Go p e below m W T' (pc + 1) L S := by
  obtain ⟨cl, A, q1, S1, q3, H, G⟩ := Va
  have hin := own_in S1 hz hj hj0 hi
  obtain ⟨T', h', X', e', W', st⟩ := Jvm.RoadKit.stI X hx hZ eT A hin (g := mkF m pc L (.int x :: .int j :: .ref a :: S)) rfl rfl hd
  exact ⟨T', h', _, X', e', W', Arv.set A q1 S1 q3 H G rfl W' i hj hi, Fr.snoc X' N g0, fun t kt => k t (st t kt)⟩

theorem Go.lastore {a : Addr} {kc : ClassId} {z j : Int32} {vs : List Value} {d : Value} {i : Nat} {n0 : Nat} {x : Int64} (k : Go p e below m W T pc L (.long x :: .int j :: .ref a :: S)) (X : Stand p l e R s m args below meth c T locs cells slots) (hx : p.tables.exec = Jvm.exec) (hZ : Z.Warmed39 s.vm) (eT : T.heap = h) (Va : Arv Z h a kc .long z vs d) (hz : z.toNatClampNeg = vs.length) (hj : j.toNatClampNeg = i) (hj0 : ¬ j < 0) (hi : i < vs.length) (N : Fr n0 locs) (g0 : n0 ≤ a) (hd : decode c.code pc = .ok (.lastore, 1)) :
    ∃ T' h' locs', Stand p l e R s m args below meth c T' locs' cells slots ∧ T'.heap = h' ∧ Wr h h' a j.toNatClampNeg (.long x) ∧ Arv Z h' a kc .long z (vs.set i (.long x)) d ∧ Fr n0 locs' ∧ Go p e below m W T' (pc + 1) L S := by
  obtain ⟨cl, A, q1, S1, q3, H, G⟩ := Va
  have hin := own_in S1 hz hj hj0 hi
  obtain ⟨T', h', X', e', W', st⟩ := Jvm.RoadKit.stJ X hx hZ eT A hin (g := mkF m pc L (.long x :: .int j :: .ref a :: S)) rfl rfl hd
  exact ⟨T', h', _, X', e', W', Arv.set A q1 S1 q3 H G rfl W' i hj hi, Fr.snoc X' N g0, fun t kt => k t (st t kt)⟩

theorem Go.castore {a : Addr} {kc : ClassId} {z j : Int32} {vs : List Value} {d : Value} {i : Nat} {n0 : Nat} {x : Int32} (k : Go p e below m W T pc L (.int x :: .int j :: .ref a :: S)) (X : Stand p l e R s m args below meth c T locs cells slots) (hx : p.tables.exec = Jvm.exec) (hZ : Z.Warmed39 s.vm) (eT : T.heap = h) (Va : Arv Z h a kc .char z vs d) (hz : z.toNatClampNeg = vs.length) (hj : j.toNatClampNeg = i) (hj0 : ¬ j < 0) (hi : i < vs.length) (N : Fr n0 locs) (g0 : n0 ≤ a) (hd : decode c.code pc = .ok (.castore, 1)) :
    ∃ T' h' locs', Stand p l e R s m args below meth c T' locs' cells slots ∧ T'.heap = h' ∧ Wr h h' a j.toNatClampNeg (.int (nar .char x)) ∧ Arv Z h' a kc .char z (vs.set i (.int (nar .char x))) d ∧ Fr n0 locs' ∧ Go p e below m W T' (pc + 1) L S := by
  obtain ⟨cl, A, q1, S1, q3, H, G⟩ := Va
  have hin := own_in S1 hz hj hj0 hi
  obtain ⟨T', h', X', e', W', st⟩ := Jvm.RoadKit.stC X hx hZ eT A hin (g := mkF m pc L (.int x :: .int j :: .ref a :: S)) rfl rfl hd
  exact ⟨T', h', _, X', e', W', Arv.set A q1 S1 q3 H G (fits_nar_char x) W' i hj hi, Fr.snoc X' N g0, fun t kt => k t (st t kt)⟩

theorem Go.bastore {a : Addr} {kc : ClassId} {z j : Int32} {vs : List Value} {d : Value} {i : Nat} {n0 : Nat} {x : Int32} (k : Go p e below m W T pc L (.int x :: .int j :: .ref a :: S)) (X : Stand p l e R s m args below meth c T locs cells slots) (hx : p.tables.exec = Jvm.exec) (hZ : Z.Warmed39 s.vm) (eT : T.heap = h) (Va : Arv Z h a kc .byte z vs d) (hz : z.toNatClampNeg = vs.length) (hj : j.toNatClampNeg = i) (hj0 : ¬ j < 0) (hi : i < vs.length) (N : Fr n0 locs) (g0 : n0 ≤ a) (hd : decode c.code pc = .ok (.bastore, 1)) :
    ∃ T' h' locs', Stand p l e R s m args below meth c T' locs' cells slots ∧ T'.heap = h' ∧ Wr h h' a j.toNatClampNeg (.int (nar .byte x)) ∧ Arv Z h' a kc .byte z (vs.set i (.int (nar .byte x))) d ∧ Fr n0 locs' ∧ Go p e below m W T' (pc + 1) L S := by
  obtain ⟨cl, A, q1, S1, q3, H, G⟩ := Va
  have hin := own_in S1 hz hj hj0 hi
  obtain ⟨T', h', X', e', W', st⟩ := Jvm.RoadKit.stB X hx hZ eT A hin (g := mkF m pc L (.int x :: .int j :: .ref a :: S)) rfl rfl hd
  exact ⟨T', h', _, X', e', W', Arv.set A q1 S1 q3 H G (fits_nar_byte x) W' i hj hi, Fr.snoc X' N g0, fun t kt => k t (st t kt)⟩

theorem Go.aastore {a : Addr} {kc : ClassId} {C : String} {z j : Int32} {vs : List Value} {d v : Value} {i : Nat} {n0 : Nat} (k : Go p e below m W T pc L (v :: .int j :: .ref a :: S)) (X : Stand p l e R s m args below meth c T locs cells slots) (hx : p.tables.exec = Jvm.exec) (hZ : Z.Warmed39 s.vm) (eT : T.heap = h) (Va : Arv Z h a kc (.object C) z vs d) (O : Ovr Z kc C) (hv : v = .null ∨ ∃ y, v = .ref y ∧ Ins Z h y C true) (hz : z.toNatClampNeg = vs.length) (hj : j.toNatClampNeg = i) (hj0 : ¬ j < 0) (hi : i < vs.length) (N : Fr n0 locs) (g0 : n0 ≤ a) (hd : decode c.code pc = .ok (.aastore, 1)) :
    ∃ T' h' locs', Stand p l e R s m args below meth c T' locs' cells slots ∧ T'.heap = h' ∧ Wr h h' a j.toNatClampNeg v ∧ Arv Z h' a kc (.object C) z (vs.set i v) d ∧ Fr n0 locs' ∧ Go p e below m W T' (pc + 1) L S := by
  obtain ⟨cl, A, q1, S1, q3, H, G⟩ := Va
  have hin := own_in S1 hz hj hj0 hi
  have F : Sto Z h a v := by
    rcases hv with rfl | ⟨y, rfl, I⟩
    · exact Or.inl rfl
    · exact Sto.of A (q1 ▸ O) I
  have hf : fits (.object C) v = true := by rcases hv with rfl | ⟨y, rfl, I⟩ <;> rfl
  obtain ⟨T', h', X', e', W', st⟩ := Jvm.RoadKit.stR X hx hZ eT A hin rfl F (g := mkF m pc L (v :: .int j :: .ref a :: S)) rfl rfl hd
  exact ⟨T', h', _, X', e', W', Arv.set A q1 S1 q3 H G hf W' i hj hi, Fr.snoc X' N g0, fun t kt => k t (st t kt)⟩
theorem Go.newP {aty : ArrayType} {n : Int32} {cap cells' slots' : Nat} (k : Go p e below m W T pc L (.int n :: S)) (X : Stand p l e R s m args below meth c T locs cells slots) (hx : p.tables.exec = Jvm.exec) (hZ : Z.Warmed39 s.vm) (w : (Cond.arrayClass (newarray.typeOf aty)).before a0 Z = true) (eT : T.heap = h) (hd : decode c.code pc = .ok (.newarray aty, 2)) (hn : ¬ n < 0) (hcap : n.toNatClampNeg ≤ cap) (hb : cap * 8 ≤ 536870912) (h1 : cells + 1 = cells') (h2 : slots + cap = slots') (h3 : cells' ≤ R.cells) (h4 : slots' ≤ R.slots) :
    ∃ T' h' b kc, Stand p l e R s m args below meth c T' locs cells' slots' ∧ T'.heap = h' ∧ b = h.size ∧ Ext h h' ∧ (∀ len, Arv Z h' b kc (newarray.typeOf aty) n (List.replicate len (defaultValue (newarray.typeOf aty))) (defaultValue (newarray.typeOf aty))) ∧ Go p e below m W T' (pc + 2) L (.ref b :: S) := by
  subst h1 h2
  obtain ⟨T', h', kc, X', e', E', A', st⟩ := Jvm.RoadKit.newP X hx hZ w eT (g := mkF m pc L (.int n :: S)) rfl hd rfl hn hcap hb h3 h4
  exact ⟨T', h', _, kc, X', e', rfl, E', fun len => (Arv.new A' hn).pad (pad_rep [] _ len), fun t kt => k t (st t kt)⟩
theorem Go.newR {own C : String} {index : Nat} {n : Int32} {cap cells' slots' : Nat} (k : Go p e below m W T pc L (.int n :: S)) (X : Stand p l e R s m args below meth c T locs cells slots) (hx : p.tables.exec = Jvm.exec) (hZ : Z.Warmed39 s.vm) (hown : s.vm.findClass own = some m.cls) (w1 : (Cond.classLink own index C).before a0 Z = true) (w2 : (Cond.arrayOver (.object C)).before a0 Z = true) (eT : T.heap = h) (hd : decode c.code pc = .ok (.anewarray index, 3)) (hn : ¬ n < 0) (hcap : n.toNatClampNeg ≤ cap) (hb : cap * 8 ≤ 536870912) (h1 : cells + 1 = cells') (h2 : slots + cap = slots') (h3 : cells' ≤ R.cells) (h4 : slots' ≤ R.slots) :
    ∃ T' h' b kc, Stand p l e R s m args below meth c T' locs cells' slots' ∧ T'.heap = h' ∧ b = h.size ∧ Ext h h' ∧ (∀ len, Arv Z h' b kc (.object C) n (List.replicate len .null) .null) ∧ Ovr Z kc C ∧ Go p e below m W T' (pc + 3) L (.ref b :: S) := by
  subst h1 h2
  obtain ⟨T', h', kc, X', e', E', A', O', st⟩ := Jvm.RoadKit.newR X hx hZ hown w1 w2 eT (g := mkF m pc L (.int n :: S)) rfl hd rfl hn hcap hb h3 h4
  exact ⟨T', h', _, kc, X', e', rfl, E', fun len => (Arv.new A' hn).pad (pad_rep [] _ len), O', fun t kt => k t (st t kt)⟩
theorem Go.arraylength {a : Addr} {kc : ClassId} {ty : FieldType} {z : Int32} {vs : List Value} {d : Value} (k : Go p e below m W T pc L (.ref a :: S)) (X : Stand p l e R s m args below meth c T locs cells slots) (hx : p.tables.exec = Jvm.exec) (hZ : Z.Warmed39 s.vm) (eT : T.heap = h) (Va : Arv Z h a kc ty z vs d) (hd : decode c.code pc = .ok (.arraylength, 1)) : Go p e below m W T (pc + 1) L (.int z :: S) := by
  obtain ⟨cl, A, q1, S1, q3, H, G⟩ := Va
  intro t kt
  refine k t (X.arraylength hx (cell := cl) (by rw [eT]; exact A.1) (State.isArrayOf_alike hZ.alike A.2.1) (g := mkF m pc L (.ref a :: S)) rfl (rest := S) rfl hd t ?_)
  rw [len_of S1 q3]
  exact kt

theorem Go.iaload {a : Addr} {kc : ClassId} {z j : Int32} {vs : List Value} {d v : Value} {i n : Nat}  (k : Go p e below m W T pc L (.int j :: .ref a :: S)) (X : Stand p l e R s m args below meth c T locs cells slots) (hx : p.tables.exec = Jvm.exec) (hZ : Z.Warmed39 s.vm) (eT : T.heap = h) (Va : Arv Z h a kc .int z vs d) (hz : z.toNatClampNeg = n) (hj : j.toNatClampNeg = i) (hj0 : ¬ j < 0) (hi : i < n) (hv : vs.getD i d = v) (hd : decode c.code pc = .ok (.iaload, 1)) : Go p e below m W T (pc + 1) L (v :: S) := by
  obtain ⟨cl, A, q1, S1, q3, H, G⟩ := Va
  have hin := own_in S1 hz hj hj0 hi
  subst hj
  exact fun t kt => k t (X.iaload hx (j := j) (v := v) (by rw [eT]; exact A.1) (State.isArrayOf_alike hZ.alike A.2.1) A.2.2 hin (Has.at H hin hv) (g := mkF m pc L (.int j :: .ref a :: S)) rfl rfl hd t kt)

theorem Go.laload {a : Addr} {kc : ClassId} {z j : Int32} {vs : List Value} {d v : Value} {i n : Nat}  (k : Go p e below m W T pc L (.int j :: .ref a :: S)) (X : Stand p l e R s m args below meth c T locs cells slots) (hx : p.tables.exec = Jvm.exec) (hZ : Z.Warmed39 s.vm) (eT : T.heap = h) (Va : Arv Z h a kc .long z vs d) (hz : z.toNatClampNeg = n) (hj : j.toNatClampNeg = i) (hj0 : ¬ j < 0) (hi : i < n) (hv : vs.getD i d = v) (hd : decode c.code pc = .ok (.laload, 1)) : Go p e below m W T (pc + 1) L (v :: S) := by
  obtain ⟨cl, A, q1, S1, q3, H, G⟩ := Va
  have hin := own_in S1 hz hj hj0 hi
  subst hj
  exact fun t kt => k t (X.laload hx (j := j) (v := v) (by rw [eT]; exact A.1) (State.isArrayOf_alike hZ.alike A.2.1) A.2.2 hin (Has.at H hin hv) (g := mkF m pc L (.int j :: .ref a :: S)) rfl rfl hd t kt)

theorem Go.caload {a : Addr} {kc : ClassId} {z j : Int32} {vs : List Value} {d v : Value} {i n : Nat}  (k : Go p e below m W T pc L (.int j :: .ref a :: S)) (X : Stand p l e R s m args below meth c T locs cells slots) (hx : p.tables.exec = Jvm.exec) (hZ : Z.Warmed39 s.vm) (eT : T.heap = h) (Va : Arv Z h a kc .char z vs d) (hz : z.toNatClampNeg = n) (hj : j.toNatClampNeg = i) (hj0 : ¬ j < 0) (hi : i < n) (hv : vs.getD i d = v) (hd : decode c.code pc = .ok (.caload, 1)) : Go p e below m W T (pc + 1) L (v :: S) := by
  obtain ⟨cl, A, q1, S1, q3, H, G⟩ := Va
  have hin := own_in S1 hz hj hj0 hi
  subst hj
  exact fun t kt => k t (X.caload hx (j := j) (v := v) (by rw [eT]; exact A.1) (State.isArrayOf_alike hZ.alike A.2.1) A.2.2 hin (Has.at H hin hv) (g := mkF m pc L (.int j :: .ref a :: S)) rfl rfl hd t kt)

theorem Go.aaload {a : Addr} {kc : ClassId} {z j : Int32} {vs : List Value} {d v : Value} {i n : Nat} {ty : FieldType} (k : Go p e below m W T pc L (.int j :: .ref a :: S)) (X : Stand p l e R s m args below meth c T locs cells slots) (hx : p.tables.exec = Jvm.exec) (hZ : Z.Warmed39 s.vm) (eT : T.heap = h) (Va : Arv Z h a kc ty z vs d) (hz : z.toNatClampNeg = n) (hj : j.toNatClampNeg = i) (hj0 : ¬ j < 0) (hi : i < n) (hv : vs.getD i d = v) (hty : ty.isReference = true) (hd : decode c.code pc = .ok (.aaload, 1)) : Go p e below m W T (pc + 1) L (v :: S) := by
  obtain ⟨cl, A, q1, S1, q3, H, G⟩ := Va
  have hin := own_in S1 hz hj hj0 hi
  subst hj
  exact fun t kt => k t (X.aaload hx (j := j) (v := v) (by rw [eT]; exact A.1) (State.isArrayOf_alike hZ.alike A.2.1) hty A.2.2 hin (Has.at H hin hv) (g := mkF m pc L (.int j :: .ref a :: S)) rfl rfl hd t kt)

theorem Go.baload {a : Addr} {kc : ClassId} {z j : Int32} {vs : List Value} {d v : Value} {i n : Nat}  (k : Go p e below m W T pc L (.int j :: .ref a :: S)) (X : Stand p l e R s m args below meth c T locs cells slots) (hx : p.tables.exec = Jvm.exec) (hZ : Z.Warmed39 s.vm) (eT : T.heap = h) (Va : Arv Z h a kc .byte z vs d) (hz : z.toNatClampNeg = n) (hj : j.toNatClampNeg = i) (hj0 : ¬ j < 0) (hi : i < n) (hv : vs.getD i d = v) (hd : decode c.code pc = .ok (.baload, 1)) : Go p e below m W T (pc + 1) L (v :: S) := by
  obtain ⟨cl, A, q1, S1, q3, H, G⟩ := Va
  have hin := own_in S1 hz hj hj0 hi
  subst hj
  exact fun t kt => k t (X.baloadBytes hx (j := j) (v := v) (by rw [eT]; exact A.1) (State.isArrayOf_alike hZ.alike A.2.1) A.2.2 hin (Has.at H hin hv) (g := mkF m pc L (.int j :: .ref a :: S)) rfl rfl hd t kt)

theorem Go.newPE {aty : ArrayType} {n : Int32} {cap cells' slots' : Nat} {ad : String} (k : Go p e below m W T pc L (.int n :: S)) (X : Stand p l e R s m args below meth c T locs cells slots) (hx : p.tables.exec = Jvm.exec) (hZ : Z.Warmed39 s.vm) (w : (Cond.arrayClass (newarray.typeOf aty)).before a0 Z = true) (eT : T.heap = h) (hd : decode c.code pc = .ok (.newarray aty, 2)) (hn : ¬ n < 0) (hcap : n.toNatClampNeg ≤ cap) (hb : cap * 8 ≤ 536870912) (h1 : cells + 1 = cells') (h2 : slots + cap = slots') (h3 : cells' ≤ R.cells) (h4 : slots' ≤ R.slots) (had : "[" ++ (newarray.typeOf aty).toString = ad) :
    ∃ T' h' b kc, Stand p l e R s m args below meth c T' locs cells' slots' ∧ T'.heap = h' ∧ b = h.size ∧ Ext h h' ∧ (∀ len, Arv Z h' b kc (newarray.typeOf aty) n (List.replicate len (defaultValue (newarray.typeOf aty))) (defaultValue (newarray.typeOf aty))) ∧ Exa Z h' b ad ∧ Go p e below m W T' (pc + 2) L (.ref b :: S) := by
  subst h1 h2
  obtain ⟨T', h', kc, X', e', E', A', Ex, st⟩ := Jvm.RoadKit.newPE X hx hZ w eT (g := mkF m pc L (.int n :: S)) rfl hd rfl hn hcap hb h3 h4 had
  exact ⟨T', h', _, kc, X', e', rfl, E', fun len => (Arv.new A' hn).pad (pad_rep [] _ len), Ex, fun t kt => k t (st t kt)⟩
theorem Go.newRE {own C : String} {index : Nat} {n : Int32} {cap cells' slots' : Nat} {ad : String} (k : Go p e below m W T pc L (.int n :: S)) (X : Stand p l e R s m args below meth c T locs cells slots) (hx : p.tables.exec = Jvm.exec) (hZ : Z.Warmed39 s.vm) (hown : s.vm.findClass own = some m.cls) (w1 : (Cond.classLink own index C).before a0 Z = true) (w2 : (Cond.arrayOver (.object C)).before a0 Z = true) (eT : T.heap = h) (hd : decode c.code pc = .ok (.anewarray index, 3)) (hn : ¬ n < 0) (hcap : n.toNatClampNeg ≤ cap) (hb : cap * 8 ≤ 536870912) (h1 : cells + 1 = cells') (h2 : slots + cap = slots') (h3 : cells' ≤ R.cells) (h4 : slots' ≤ R.slots) (had : "[" ++ (FieldType.object C).toString = ad) :
    ∃ T' h' b kc, Stand p l e R s m args below meth c T' locs cells' slots' ∧ T'.heap = h' ∧ b = h.size ∧ Ext h h' ∧ (∀ len, Arv Z h' b kc (.object C) n (List.replicate len .null) .null) ∧ Ovr Z kc C ∧ Exa Z h' b ad ∧ Go p e below m W T' (pc + 3) L (.ref b :: S) := by
  subst h1 h2
  obtain ⟨T', h', kc, X', e', E', A', Ex, O', st⟩ := Jvm.RoadKit.newRE X hx hZ hown w1 w2 eT (g := mkF m pc L (.int n :: S)) rfl hd rfl hn hcap hb h3 h4 had
  exact ⟨T', h', _, kc, X', e', rfl, E', fun len => (Arv.new A' hn).pad (pad_rep [] _ len), O', Ex, fun t kt => k t (st t kt)⟩
theorem Go.newRA {own C : String} {ty : FieldType} {index : Nat} {n : Int32} {cap cells' slots' : Nat} {ad : String} (k : Go p e below m W T pc L (.int n :: S)) (X : Stand p l e R s m args below meth c T locs cells slots) (hx : p.tables.exec = Jvm.exec) (hZ : Z.Warmed39 s.vm) (hown : s.vm.findClass own = some m.cls) (hC : (FieldType.array ty).toString = C) (w1 : (Cond.classLink own index C).before a0 Z = true) (w2 : (Cond.arrayOver (.array ty)).before a0 Z = true) (eT : T.heap = h) (hd : decode c.code pc = .ok (.anewarray index, 3)) (hn : ¬ n < 0) (hcap : n.toNatClampNeg ≤ cap) (hb : cap * 8 ≤ 536870912) (h1 : cells + 1 = cells') (h2 : slots + cap = slots') (h3 : cells' ≤ R.cells) (h4 : slots' ≤ R.slots) (had : "[" ++ C = ad) :
    ∃ T' h' b kc, Stand p l e R s m args below meth c T' locs cells' slots' ∧ T'.heap = h' ∧ b = h.size ∧ Ext h h' ∧ (∀ len, Arv Z h' b kc (.array ty) n (List.replicate len .null) .null) ∧ OvrA Z kc ty C ∧ Exa Z h' b ad ∧ Go p e below m W T' (pc + 3) L (.ref b :: S) := by
  subst h1 h2
  obtain ⟨T', h', kc, X', e', E', A', Ex, O', st⟩ := Jvm.RoadKit.newRA X hx hZ hown hC w1 w2 eT (g := mkF m pc L (.int n :: S)) rfl hd rfl hn hcap hb h3 h4 had
  exact ⟨T', h', _, kc, X', e', rfl, E', fun len => (Arv.new A' hn).pad (pad_rep [] _ len), O', Ex, fun t kt => k t (st t kt)⟩
theorem Go.aastoreA {a : Addr} {kc : ClassId} {C : String} {ty : FieldType} {z j : Int32} {vs : List Value} {d v : Value} {i : Nat} {n0 : Nat} (k : Go p e below m W T pc L (v :: .int j :: .ref a :: S)) (X : Stand p l e R s m args below meth c T locs cells slots) (hx : p.tables.exec = Jvm.exec) (hZ : Z.Warmed39 s.vm) (eT : T.heap = h) (Va : Arv Z h a kc (.array ty) z vs d) (O : OvrA Z kc ty C) (hv : v = .null ∨ ∃ y, v = .ref y ∧ Ins Z h y C true) (hz : z.toNatClampNeg = vs.length) (hj : j.toNatClampNeg = i) (hj0 : ¬ j < 0) (hi : i < vs.length) (N : Fr n0 locs) (g0 : n0 ≤ a) (hd : decode c.code pc = .ok (.aastore, 1)) :
    ∃ T' h' locs', Stand p l e R s m args below meth c T' locs' cells slots ∧ T'.heap = h' ∧ Wr h h' a j.toNatClampNeg v ∧ Arv Z h' a kc (.array ty) z (vs.set i v) d ∧ Fr n0 locs' ∧ Go p e below m W T' (pc + 1) L S := by
  obtain ⟨cl, A, q1, S1, q3, H, G⟩ := Va
  have hin := own_in S1 hz hj hj0 hi
  have F : Sto Z h a v := by
    rcases hv with rfl | ⟨y, rfl, I⟩
    · exact Or.inl rfl
    · exact Sto.ofVA A q1 O I
  have hf : fits (.array ty) v = true := by rcases hv with rfl | ⟨y, rfl, I⟩ <;> rfl
  obtain ⟨T', h', X', e', W', st⟩ := Jvm.RoadKit.stR X hx hZ eT A hin rfl F (g := mkF m pc L (v :: .int j :: .ref a :: S)) rfl rfl hd
  exact ⟨T', h', _, X', e', W', Arv.set A q1 S1 q3 H G hf W' i hj hi, Fr.snoc X' N g0, fun t kt => k t (st t kt)⟩
end OwnKit

theorem own_eqi {args : Array Value} {first s : State} {o : Option Outcome} {idx : List Nat} {a : Term} {n : Int32} (h : (Cond.eq a (Term.int n)).value args first o s idx = some true) : a.eval args first o idx s = some (.int n) := by
  obtain ⟨x, y, h1, h2, -, -⟩ := cmp_v (Or.inl h)
  have e2 : (Term.int n).eval args first o idx s = some (.int n) := Term.int_eval n
  cases h2.symm.trans e2
  cases x <;> simp [Cond.value, h1, e2] at h
  rw [h1, h]
theorem own_eqr {args : Array Value} {first s : State} {o : Option Outcome} {idx : List Nat} {a b : Term} {y : Addr} (h : (Cond.eq a b).value args first o s idx = some true) (hb : b.eval args first o idx s = some (.ref y)) : a.eval args first o idx s = some (.ref y) := by
  obtain ⟨x, z, h1, h2, -, -⟩ := cmp_v (Or.inl h)
  cases h2.symm.trans hb
  cases x <;> simp [Cond.value, h1, hb] at h
  rw [h1, h]
theorem own_ne {Z : State} {h : Heap} {a b : Addr} {C n d : String} {v w : Value} (F : Fld Z h a C n d v) (G : Fld Z h b C n d w) (q : v ≠ w) : a ≠ b := by
  intro e
  subst e
  obtain ⟨c1, cf1, k1, i1, f1, h1, h2, -, -, -, -, h7⟩ := F
  obtain ⟨c2, cf2, k2, i2, f2, g1, g2, -, -, -, -, g7⟩ := G
  cases h1.symm.trans g1
  cases h2.symm.trans g2
  exact q (Option.some.inj (h7.symm.trans g7))
theorem own_nz {x : Int32} (h : x = 0 ∨ x = 1) : narrow .boolean (.int x) = .int x ∧ fits .boolean (.int x) = true ∧ nar .boolean x = x := by rcases h with rfl | rfl <;> exact ⟨rfl, rfl, rfl⟩
theorem own_nref {v : Value} {C : String} (h : v.isRef = true) : narrow (.object C) v = v := by cases v <;> first | rfl | simp [Value.isRef] at h
theorem own_fref {v : Value} {C : String} (h : v.isRef = true) : fits (.object C) v = true := by cases v <;> first | rfl | simp [Value.isRef] at h
theorem own_01 {x : Int32} {P : Prop} (h : (P ∧ x = (0 : Int32)) ∨ (¬ P ∧ x = (1 : Int32))) : x = 0 ∨ x = 1 := h.imp And.right And.right
theorem own_10 {x : Int32} {P : Prop} (h : (P ∧ x = (1 : Int32)) ∨ (¬ P ∧ x = (0 : Int32))) : x = 0 ∨ x = 1 := h.symm.imp And.right And.right

theorem own_mask (x : Int32) : 0 ≤ (x &&& (2147483647 : Int32)).toInt := (c_andS x 2147483647).2.2 (by decide)
theorem own_rem {x y : Int32} (hx : 0 ≤ x.toInt) (hy : 0 < y.toInt) : 0 ≤ (x % y).toInt ∧ (x % y).toInt < y.toInt := ⟨((c_iremV x y).1 hx hy).1, ((c_iremV x y).1 hx hy).2.1⟩
theorem own_i {x : Int32} {n : Int} (y : Int32) (h : x.toInt = n) (hy : y.toInt = n) : x = y := Int32.toInt_inj.mp (h.trans hy.symm)

theorem own_r1 (x : Int32) : ((x &&& (2147483647 : Int32)) % (1 : Int32)) = (0 : Int32) := by
  obtain ⟨h1, h2⟩ := own_rem (own_mask x) (show 0 < (1 : Int32).toInt by decide)
  have h3 : (1 : Int32).toInt = 1 := by decide
  rw [h3] at h2
  exact own_i _ (by omega : ((x &&& (2147483647 : Int32)) % (1 : Int32)).toInt = 0) (by decide)

theorem own_r2 (x : Int32) : ((x &&& (2147483647 : Int32)) % (2 : Int32)) = (0 : Int32) ∨ ((x &&& (2147483647 : Int32)) % (2 : Int32)) = (1 : Int32) := by
  obtain ⟨h1, h2⟩ := own_rem (own_mask x) (show 0 < (2 : Int32).toInt by decide)
  have h3 : (2 : Int32).toInt = 2 := by decide
  rw [h3] at h2
  have h4 : ((x &&& (2147483647 : Int32)) % (2 : Int32)).toInt = 0 ∨ ((x &&& (2147483647 : Int32)) % (2 : Int32)).toInt = 1 := by omega
  rcases h4 with q | q
  · exact Or.inl (own_i _ q (by decide))
  · exact Or.inr (own_i _ q (by decide))

theorem own_r3 (x : Int32) : ((x &&& (2147483647 : Int32)) % (3 : Int32)) = (0 : Int32) ∨ ((x &&& (2147483647 : Int32)) % (3 : Int32)) = (1 : Int32) ∨ ((x &&& (2147483647 : Int32)) % (3 : Int32)) = (2 : Int32) := by
  obtain ⟨h1, h2⟩ := own_rem (own_mask x) (show 0 < (3 : Int32).toInt by decide)
  have h3 : (3 : Int32).toInt = 3 := by decide
  rw [h3] at h2
  have h4 : ((x &&& (2147483647 : Int32)) % (3 : Int32)).toInt = 0 ∨ ((x &&& (2147483647 : Int32)) % (3 : Int32)).toInt = 1 ∨ ((x &&& (2147483647 : Int32)) % (3 : Int32)).toInt = 2 := by omega
  rcases h4 with q | q | q
  · exact Or.inl (own_i _ q (by decide))
  · exact Or.inr (Or.inl (own_i _ q (by decide)))
  · exact Or.inr (Or.inr (own_i _ q (by decide)))

theorem d_rmk_0 : decode jdk_41_method_11_code 0 = .ok (.iload_n 0, 1) := by decide +kernel
theorem d_rmk_1 : decode jdk_41_method_11_code 1 = .ok (.ifCond .lt 8, 3) := by decide +kernel
theorem d_rmk_4 : decode jdk_41_method_11_code 4 = .ok (.iload_n 0, 1) := by decide +kernel
theorem d_rmk_5 : decode jdk_41_method_11_code 5 = .ok (.iload_n 1, 1) := by decide +kernel
theorem d_rmk_6 : decode jdk_41_method_11_code 6 = .ok (.if_icmp .lt 10, 3) := by decide +kernel
theorem d_rmk_16 : decode jdk_41_method_11_code 16 = .ok (.iload_n 0, 1) := by decide +kernel
theorem d_rmk_17 : decode jdk_41_method_11_code 17 = .ok (.ireturn, 1) := by decide +kernel
theorem pn_rmk : plainName "jdk/internal/util/Preconditions" = true := by first | (simp [plainName, overriddenIn]; done) | decide +kernel
theorem ef_rmk (m : MethodId) (p1 : Int32) (p2 : Int32) : entryFrame m #[(.int p1), (.int p2), .null] 3 = mkF m 0 #[.val (.int p1), .val (.int p2), .val .null] [] := by first | (simp [entryFrame, mkF, argsToLocals, Value.category]; done) | rfl
def Q_rmk (Z : State) (p1 : Int32) (p2 : Int32) (h0 : Heap) (n0 : Nat) (v : Option Value) (h : Heap) (L : List Loc) : Prop := v = some (.int p1) ∧ Fr n0 L ∧ h = h0
set_option maxRecDepth 65536 in
set_option maxHeartbeats 40000000 in
theorem rmk (l : Launch) (Z : State) (a0 : Array Value) (hw : ∀ d ∈ tables_1, d.before a0 Z = true) (ws : List Jvm.Cond) (p1 : Int32) (p2 : Int32) (h0 : Heap) (n0 : Nat) (Z0 : n0 ≤ h0.size) (c1 : ¬ (p1 < (0 : Int32))) (c2 : p1 < p2) :
    MetFree l (⟨"jdk/internal/util/Preconditions", "checkIndex", "(IILjava/util/function/BiFunction;)I"⟩ : MethodName) (head1 (Jvm.Cond.code (⟨"jdk/internal/util/Preconditions", "checkIndex", "(IILjava/util/function/BiFunction;)I"⟩ : MethodName) jdk_41_method_11_code 3 (some .int) :: ws) ({ frames := 0, cells := 0, slots := 0, locals := 0 } : Room)) (fun a U => a = #[(.int p1), (.int p2), .null] ∧ Z.Warmed39 U.vm ∧ U.heap = h0) (fun _ _ _ _ _ => True) (fun _ U o U' => ∃ v L, o = .returned v ∧ Q_rmk Z p1 p2 h0 n0 v U'.heap L ∧ FrameEnd U o U' L ({ frames := 0, cells := 0, slots := 0, locals := 0 } : Room).cells ({ frames := 0, cells := 0, slots := 0, locals := 0 } : Room).slots) := by
  refine MetFree.of_bodySF (plainFor_of_name pn_rmk) hisR ?_
  intro p e s m args_ below meth c s₁ Bd hml0 hP hK
  obtain ⟨hargs, hZ, hh⟩ := hP
  have hx := Bd.exec
  have hby := Bd.bytes
  have hml : c.maxLocals = 3 := hml0
  have hown : s.vm.findClass "jdk/internal/util/Preconditions" = some m.cls := findClass_of_methodNamed Bd.named
  have hnm := (name_of_methodNamed Bd.named Bd.method).1
  have X0 : Stand p l e ({ frames := 0, cells := 0, slots := 0, locals := 0 } : Room) s m args_ below meth c s₁ [] 0 0 := Stand.of_body Bd
  have e0 : s₁.heap = h0 := by rw [← hh, Bd.state]; rfl
  have N0 := Fr.nil n0
  have hv : ∀ (i : Nat) {d : Jvm.Cond}, tables_1[i]? = some d → d.before a0 Z = true := fun i d q => hw d (List.mem_of_getElem? q)
  have k0 : Go p e below m (s₁.setTop (entryFrame m args_ 3)) s₁ 0 #[.val (.int p1), .val (.int p2), .val .null] [] := by rw [hargs]; exact fun t kt => castTop (ef_rmk m p1 p2) kt
  obtain ⟨W, hWW⟩ : ∃ W, W = s₁.setTop (entryFrame m args_ 3) := ⟨_, rfl⟩
  rw [← hWW] at k0 ⊢
  show Done p e below s W (Q_rmk Z p1 p2 h0 n0) ({ frames := 0, cells := 0, slots := 0, locals := 0 } : Room).cells ({ frames := 0, cells := 0, slots := 0, locals := 0 } : Room).slots
  have k20 : Go p e below m W s₁ 17 #[.val (.int p1), .val (.int p2), .val .null] [(.int p1)] := (((((k0.iloadN X0 hx (hb hby d_rmk_0) rfl).ifNo X0 hx (hb hby d_rmk_1) (XT.i0_lt_f c1)).iloadN X0 hx (hb hby d_rmk_4) rfl).iloadN X0 hx (hb hby d_rmk_5) rfl).icmpYes X0 hx (hb hby d_rmk_6) (XT.ii_lt_t c2) (by decide) (by decide)).iloadN X0 hx (hb hby d_rmk_16) rfl
  exact k20.ireturnI X0 hx Bd.returns (hb hby d_rmk_17) (BodyLoose.notSynchronized Bd) (by rw [e0]; exact ⟨rfl, N0, rfl⟩) (by decide) (by decide)

theorem d_rmo_0 : decode jdk_31_method_17_code 0 = .ok (.iload_n 0, 1) := by decide +kernel
theorem d_rmo_1 : decode jdk_31_method_17_code 1 = .ok (.iload_n 1, 1) := by decide +kernel
theorem d_rmo_2 : decode jdk_31_method_17_code 2 = .ok (.aconst_null, 1) := by decide +kernel
theorem d_rmo_3 : decode jdk_31_method_17_code 3 = .ok (.invokestatic 105, 3) := by decide +kernel
theorem d_rmo_6 : decode jdk_31_method_17_code 6 = .ok (.ireturn, 1) := by decide +kernel
theorem pn_rmo : plainName "java/util/Objects" = true := by first | (simp [plainName, overriddenIn]; done) | decide +kernel
theorem pd_rmo_0 : parseMethodDescriptor "(IILjava/util/function/BiFunction;)I" = some ⟨[.int, .int, (.object "java/util/function/BiFunction")], (some .int)⟩ := by decide +kernel
theorem ef_rmo (m : MethodId) (p1 : Int32) (p2 : Int32) : entryFrame m #[(.int p1), (.int p2)] 2 = mkF m 0 #[.val (.int p1), .val (.int p2)] [] := by first | (simp [entryFrame, mkF, argsToLocals, Value.category]; done) | rfl
def Q_rmo (Z : State) (p1 : Int32) (p2 : Int32) (h0 : Heap) (n0 : Nat) (v : Option Value) (h : Heap) (L : List Loc) : Prop := v = some (.int p1) ∧ Fr n0 L ∧ h = h0
set_option maxRecDepth 65536 in
set_option maxHeartbeats 40000000 in
theorem rmo (l : Launch) (Z : State) (a0 : Array Value) (hw : ∀ d ∈ tables_1, d.before a0 Z = true) (ws : List Jvm.Cond) (p1 : Int32) (p2 : Int32) (h0 : Heap) (n0 : Nat) (Z0 : n0 ≤ h0.size) (c1 : ¬ (p1 < (0 : Int32))) (c2 : p1 < p2) :
    MetFree l (⟨"java/util/Objects", "checkIndex", "(II)I"⟩ : MethodName) (head1 (Jvm.Cond.code (⟨"java/util/Objects", "checkIndex", "(II)I"⟩ : MethodName) jdk_31_method_17_code 2 (some .int) :: ws) ({ frames := 1, cells := 0, slots := 0, locals := 14 } : Room)) (fun a U => a = #[(.int p1), (.int p2)] ∧ Z.Warmed39 U.vm ∧ U.heap = h0) (fun _ _ _ _ _ => True) (fun _ U o U' => ∃ v L, o = .returned v ∧ Q_rmo Z p1 p2 h0 n0 v U'.heap L ∧ FrameEnd U o U' L ({ frames := 1, cells := 0, slots := 0, locals := 14 } : Room).cells ({ frames := 1, cells := 0, slots := 0, locals := 14 } : Room).slots) := by
  refine MetFree.of_bodySF (plainFor_of_name pn_rmo) hisR ?_
  intro p e s m args_ below meth c s₁ Bd hml0 hP hK
  obtain ⟨hargs, hZ, hh⟩ := hP
  have hx := Bd.exec
  have hby := Bd.bytes
  have hml : c.maxLocals = 2 := hml0
  have hown : s.vm.findClass "java/util/Objects" = some m.cls := findClass_of_methodNamed Bd.named
  have hnm := (name_of_methodNamed Bd.named Bd.method).1
  have X0 : Stand p l e ({ frames := 1, cells := 0, slots := 0, locals := 14 } : Room) s m args_ below meth c s₁ [] 0 0 := Stand.of_body Bd
  have e0 : s₁.heap = h0 := by rw [← hh, Bd.state]; rfl
  have N0 := Fr.nil n0
  have hv : ∀ (i : Nat) {d : Jvm.Cond}, tables_1[i]? = some d → d.before a0 Z = true := fun i d q => hw d (List.mem_of_getElem? q)
  have k0 : Go p e below m (s₁.setTop (entryFrame m args_ 2)) s₁ 0 #[.val (.int p1), .val (.int p2)] [] := by rw [hargs]; exact fun t kt => castTop (ef_rmo m p1 p2) kt
  obtain ⟨W, hWW⟩ : ∃ W, W = s₁.setTop (entryFrame m args_ 2) := ⟨_, rfl⟩
  rw [← hWW] at k0 ⊢
  show Done p e below s W (Q_rmo Z p1 p2 h0 n0) ({ frames := 1, cells := 0, slots := 0, locals := 14 } : Room).cells ({ frames := 1, cells := 0, slots := 0, locals := 14 } : Room).slots
  have k20 : Go p e below m W s₁ 3 #[.val (.int p1), .val (.int p2)] [.null, (.int p2), (.int p1)] := ((k0.iloadN X0 hx (hb hby d_rmo_0) rfl).iloadN X0 hx (hb hby d_rmo_1) rfl).aconstNull X0 hx (hb hby d_rmo_2)
  obtain ⟨T21, v21, L21, X21, Q21, k21⟩ := k20.stat (y := (⟨"jdk/internal/util/Preconditions", "checkIndex", "(IILjava/util/function/BiFunction;)I"⟩ : MethodName)) (Wd := 0) (cells' := 0) (slots' := 0) (argsL := [(.int p1), (.int p2), .null]) (rest := []) X0 hx hZ hown (by rw [hml]; rfl) (hv 33 rfl) (hv 34 rfl) (hv 36 rfl) (hv 35 rfl) (hb hby d_rmo_3) (by decide) (rmk l Z a0 hw [] p1 p2 h0 n0 Z0 c1 c2) e0 rfl rfl pd_rmo_0 rfl (Nat.le_of_eq rfl) (by decide) (by decide) rfl rfl (by decide) (by decide)
  obtain ⟨rfl, Nq21, e21q⟩ := Q21
  have N21 := Fr.app N0 Nq21
  have e21 : T21.heap = h0 := e21q
  have k21 : Go p e below m W T21 6 #[.val (.int p1), .val (.int p2)] [(.int p1)] := k21
  exact k21.ireturnI X21 hx Bd.returns (hb hby d_rmo_6) (BodyLoose.notSynchronized Bd) (by rw [e21]; exact ⟨rfl, N21, rfl⟩) (by decide) (by decide)

theorem d_rmi_0 : decode prog_56_method_1_code 0 = .ok (.aload_n 0, 1) := by decide +kernel
theorem d_rmi_1 : decode prog_56_method_1_code 1 = .ok (.invokespecial 3, 3) := by decide +kernel
theorem d_rmi_4 : decode prog_56_method_1_code 4 = .ok (.aload_n 0, 1) := by decide +kernel
theorem d_rmi_5 : decode prog_56_method_1_code 5 = .ok (.iconst 1, 1) := by decide +kernel
theorem d_rmi_6 : decode prog_56_method_1_code 6 = .ok (.anewarray 9, 3) := by decide +kernel
theorem d_rmi_9 : decode prog_56_method_1_code 9 = .ok (.dup, 1) := by decide +kernel
theorem d_rmi_10 : decode prog_56_method_1_code 10 = .ok (.iconst 0, 1) := by decide +kernel
theorem d_rmi_11 : decode prog_56_method_1_code 11 = .ok (.bipush 16, 2) := by decide +kernel
theorem d_rmi_13 : decode prog_56_method_1_code 13 = .ok (.newarray .int, 2) := by decide +kernel
theorem d_rmi_15 : decode prog_56_method_1_code 15 = .ok (.aastore, 1) := by decide +kernel
theorem d_rmi_16 : decode prog_56_method_1_code 16 = .ok (.putfield 11, 3) := by decide +kernel
theorem d_rmi_19 : decode prog_56_method_1_code 19 = .ok (.return_, 1) := by decide +kernel
theorem pn_rmi : plainName "com/example/guarantor/guarantor/lts/IntBlocks" = true := by first | (simp [plainName, overriddenIn]; done) | decide +kernel
theorem ef_rmi (m : MethodId) (a1 : Addr) : entryFrame m #[(.ref a1)] 1 = mkF m 0 #[.val (.ref a1)] [] := by first | (simp [entryFrame, mkF, argsToLocals, Value.category]; done) | rfl
def Q_rmi (Z : State) (a1 : Addr) (u1 : Value) (h0 : Heap) (n0 : Nat) (v : Option Value) (h : Heap) (L : List Loc) : Prop := ∃ (ob : Addr) (oc : Addr) (ok : ClassId) (oq : ClassId), v = none ∧ Fr n0 L ∧ Keep h0 h [a1] ∧ Exa Z h a1 "com/example/guarantor/guarantor/lts/IntBlocks" ∧ Fld Z h a1 "com/example/guarantor/guarantor/lts/IntBlocks" "size" "I" (.int (0 : Int32)) ∧ Fld Z h a1 "com/example/guarantor/guarantor/lts/IntBlocks" "blocks" "[[I" (.ref ob) ∧ Arv Z h ob ok (.array .int) (1 : Int32) [(.ref oc)] .null ∧ Arv Z h oc oq .int (16 : Int32) [(.int (0 : Int32)), (.int (0 : Int32)), (.int (0 : Int32)), (.int (0 : Int32)), (.int (0 : Int32)), (.int (0 : Int32)), (.int (0 : Int32)), (.int (0 : Int32)), (.int (0 : Int32)), (.int (0 : Int32)), (.int (0 : Int32)), (.int (0 : Int32)), (.int (0 : Int32)), (.int (0 : Int32)), (.int (0 : Int32)), (.int (0 : Int32))] (.int (0 : Int32)) ∧ n0 ≤ ob ∧ n0 ≤ oc ∧ h0.size ≤ ob ∧ h0.size ≤ oc ∧ a1 ≠ ob ∧ a1 ≠ oc ∧ ob ≠ oc
set_option maxRecDepth 65536 in
set_option maxHeartbeats 40000000 in
theorem rmi (l : Launch) (Z : State) (a0 : Array Value) (hw : ∀ d ∈ tables_1, d.before a0 Z = true) (ws : List Jvm.Cond) (a1 : Addr) (u1 : Value) (h0 : Heap) (n0 : Nat) (Z0 : n0 ≤ h0.size) (E1 : Exa Z h0 a1 "com/example/guarantor/guarantor/lts/IntBlocks") (G1 : n0 ≤ a1) (F1 : Fld Z h0 a1 "com/example/guarantor/guarantor/lts/IntBlocks" "blocks" "[[I" u1) (F2 : Fld Z h0 a1 "com/example/guarantor/guarantor/lts/IntBlocks" "size" "I" (.int (0 : Int32))) :
    MetFree l (⟨"com/example/guarantor/guarantor/lts/IntBlocks", "<init>", "()V"⟩ : MethodName) (head1 (Jvm.Cond.code (⟨"com/example/guarantor/guarantor/lts/IntBlocks", "<init>", "()V"⟩ : MethodName) prog_56_method_1_code 1 none :: ws) ({ frames := 1, cells := 2, slots := 17, locals := 12 } : Room)) (fun a U => a = #[(.ref a1)] ∧ Z.Warmed39 U.vm ∧ U.heap = h0) (fun _ _ _ _ _ => True) (fun _ U o U' => ∃ v L, o = .returned v ∧ Q_rmi Z a1 u1 h0 n0 v U'.heap L ∧ FrameEnd U o U' L ({ frames := 1, cells := 2, slots := 17, locals := 12 } : Room).cells ({ frames := 1, cells := 2, slots := 17, locals := 12 } : Room).slots) := by
  refine MetFree.of_bodySF (plainFor_of_name pn_rmi) hisR ?_
  intro p e s m args_ below meth c s₁ Bd hml0 hP hK
  obtain ⟨hargs, hZ, hh⟩ := hP
  have hx := Bd.exec
  have hby := Bd.bytes
  have hml : c.maxLocals = 1 := hml0
  have hown : s.vm.findClass "com/example/guarantor/guarantor/lts/IntBlocks" = some m.cls := findClass_of_methodNamed Bd.named
  have hnm := (name_of_methodNamed Bd.named Bd.method).1
  have X0 : Stand p l e ({ frames := 1, cells := 2, slots := 17, locals := 12 } : Room) s m args_ below meth c s₁ [] 0 0 := Stand.of_body Bd
  have e0 : s₁.heap = h0 := by rw [← hh, Bd.state]; rfl
  have N0 := Fr.nil n0
  have hv : ∀ (i : Nat) {d : Jvm.Cond}, tables_1[i]? = some d → d.before a0 Z = true := fun i d q => hw d (List.mem_of_getElem? q)
  have K0 : Keep h0 h0 [a1] := Keep.refl _ _
  have k0 : Go p e below m (s₁.setTop (entryFrame m args_ 1)) s₁ 0 #[.val (.ref a1)] [] := by rw [hargs]; exact fun t kt => castTop (ef_rmi m a1) kt
  obtain ⟨W, hWW⟩ : ∃ W, W = s₁.setTop (entryFrame m args_ 1) := ⟨_, rfl⟩
  rw [← hWW] at k0 ⊢
  show Done p e below s W (Q_rmi Z a1 u1 h0 n0) ({ frames := 1, cells := 2, slots := 17, locals := 12 } : Room).cells ({ frames := 1, cells := 2, slots := 17, locals := 12 } : Room).slots
  have k20 : Go p e below m W s₁ 1 #[.val (.ref a1)] [(.ref a1)] := k0.aloadN X0 hx (hb hby d_rmi_0) rfl rfl
  obtain ⟨T21, X21, e21, k21⟩ := k20.initO (Wd := 0) X0 hx hZ hown (by rw [hml]; rfl) (hv 7 rfl) (hv 8 rfl) (hv 9 rfl) e0 (hb hby d_rmi_1) (Nat.le_of_eq rfl) (by decide) (by decide)
  have k21 : Go p e below m W T21 4 #[.val (.ref a1)] [] := k21
  have k22 : Go p e below m W T21 6 #[.val (.ref a1)] [(.int (1 : Int32)), (.ref a1)] := (k21.aloadN X21 hx (hb hby d_rmi_4) rfl rfl).iconst X21 hx (hb hby d_rmi_5) (v := (1 : Int32)) rfl
  obtain ⟨T23, h23, b23, c23, X23, e23, g23, E23, A23, O23, Ex23, k23⟩ := k22.newRA (cap := 1) (cells' := 1) (slots' := 1) (ad := "[[I") X21 hx hZ hown rfl (hv 10 rfl) (hv 11 rfl) e21 (hb hby d_rmi_6) (by decide) (by decide) (by decide) rfl rfl (by decide) (by decide) rfl
  have k23 : Go p e below m W T23 9 #[.val (.ref a1)] [(.ref b23), (.ref a1)] := k23
  have Z23 : n0 ≤ h23.size := Nat.le_trans Z0 E23.1
  have ne23_a1 : a1 ≠ b23 := Nat.ne_of_lt (g23 ▸ E1.lt)
  have f24 := E1.ext E23
  have f25 := F1.ext E23
  have f26 := F2.ext E23
  have G23 : n0 ≤ b23 := g23 ▸ Z0
  have H23 : h0.size ≤ b23 := g23 ▸ K0.1
  have K23 : Keep h0 h23 [a1] := K0.ext E23
  have V23 : Arv Z h23 b23 c23 (.array .int) (1 : Int32) [.null] .null := A23 1
  have k27 : Go p e below m W T23 13 #[.val (.ref a1)] [(.int (16 : Int32)), (.int (0 : Int32)), (.ref b23), (.ref b23), (.ref a1)] := ((k23.dup X23 hx (hb hby d_rmi_9) rfl).iconst X23 hx (hb hby d_rmi_10) (v := (0 : Int32)) rfl).bipush X23 hx (hb hby d_rmi_11) (v := (16 : Int32)) rfl
  obtain ⟨T28, h28, b28, c28, X28, e28, g28, E28, A28, Ex28, k28⟩ := k27.newPE (cap := 16) (cells' := 2) (slots' := 17) (ad := "[I") X23 hx hZ (hv 12 rfl) e23 (hb hby d_rmi_13) (by decide) (by decide) (by decide) rfl rfl (by decide) (by decide) rfl
  have k28 : Go p e below m W T28 15 #[.val (.ref a1)] [(.ref b28), (.int (0 : Int32)), (.ref b23), (.ref b23), (.ref a1)] := k28
  have Z28 : n0 ≤ h28.size := Nat.le_trans Z23 E28.1
  have ne28_a1 : a1 ≠ b28 := Nat.ne_of_lt (g28 ▸ f24.lt)
  have ne28_b23 : b23 ≠ b28 := Nat.ne_of_lt (g28 ▸ V23.lt)
  have f29 := f24.ext E28
  have f30 := f25.ext E28
  have f31 := f26.ext E28
  have f32 := V23.ext E28
  have f33 := Ex23.ext E28
  have G28 : n0 ≤ b28 := g28 ▸ Z23
  have H28 : h0.size ≤ b28 := g28 ▸ K23.1
  have K28 : Keep h0 h28 [a1] := K23.ext E28
  have V28 : Arv Z h28 b28 c28 .int (16 : Int32) [(.int (0 : Int32)), (.int (0 : Int32)), (.int (0 : Int32)), (.int (0 : Int32)), (.int (0 : Int32)), (.int (0 : Int32)), (.int (0 : Int32)), (.int (0 : Int32)), (.int (0 : Int32)), (.int (0 : Int32)), (.int (0 : Int32)), (.int (0 : Int32)), (.int (0 : Int32)), (.int (0 : Int32)), (.int (0 : Int32)), (.int (0 : Int32))] (.int (0 : Int32)) := A28 16
  obtain ⟨T34, h34, l34, X34, e34, W34, V34, N34, k34⟩ := k28.aastoreA (i := 0) X28 hx hZ e28 f32 O23 (Or.inr ⟨_, rfl, (Ins.self Ex28)⟩) rfl rfl (by decide) (Nat.le_of_ble_eq_true rfl) N0 G23 (hb hby d_rmi_15)
  have k34 : Go p e below m W T34 16 #[.val (.ref a1)] [(.ref b23), (.ref a1)] := k34
  have Z34 : n0 ≤ h34.size := (Wr.size W34).symm ▸ Z28
  have f35 := f29.wr W34
  have f36 := f30.other W34 (Or.inl ne23_a1)
  have f37 := f31.other W34 (Or.inl ne23_a1)
  have f38 := f33.wr W34
  have f39 := V28.other W34 (Ne.symm ne28_b23)
  have f40 := Ex28.wr W34
  have V34 : Arv Z h34 b23 c23 (.array .int) (1 : Int32) [(.ref b28)] .null := V34
  have K34 : Keep h0 h34 [a1] := K28.wr W34 (Or.inr H23)
  obtain ⟨T41, h41, l41, X41, e41, W41, N41, k41⟩ := k34.putF X34 hx hZ hown (host := "") (Or.inl (hv 14 rfl)) Via.refl e34 f36 f35 (Or.inl (hv 15 rfl)) (hv 2 rfl) (ty := (.array (.array .int))) (by decide) rfl rfl N34 G1 (hb hby d_rmi_16)
  have k41 : Go p e below m W T41 19 #[.val (.ref a1)] [] := k41
  have Z41 : n0 ≤ h41.size := (Wr.size W41).symm ▸ Z34
  have f42 := f35.wr W41
  have f43 := f36.same W41
  have f44 := f37.other W41 (Or.inr (slot_ne (Or.inl (hv 22 rfl)) (Or.inl (hv 15 rfl)) (by decide) (by decide : parseFieldDescriptor "I" = some .int) (by decide : parseFieldDescriptor "[[I" = some (.array (.array .int)))))
  have f45 := f38.wr W41
  have f46 := f39.other W41 (Ne.symm ne28_a1)
  have f47 := f40.wr W41
  have f48 := V34.other W41 (Ne.symm ne23_a1)
  have K41 : Keep h0 h41 [a1] := K34.wr W41 (Or.inl (List.mem_of_getElem? (i := 0) rfl))
  exact k41.return_ X41 hx Bd.returns (hb hby d_rmi_19) (BodyLoose.notSynchronized Bd) (by rw [e41]; exact ⟨b23, b28, c23, c28, rfl, N41, K41, f42, f44, f43, f48, f46, G23, G28, H23, H28, ne23_a1, ne28_a1, ne28_b23⟩) (by decide) (by decide)

theorem d_rma0_0 : decode prog_56_method_4_code 0 = .ok (.aload_n 0, 1) := by decide +kernel
theorem d_rma0_1 : decode prog_56_method_4_code 1 = .ok (.getfield 20, 3) := by decide +kernel
theorem d_rma0_4 : decode prog_56_method_4_code 4 = .ok (.ldc 26, 2) := by decide +kernel
theorem d_rma0_6 : decode prog_56_method_4_code 6 = .ok (.if_icmp .ne 20, 3) := by decide +kernel
theorem d_rma0_26 : decode prog_56_method_4_code 26 = .ok (.aload_n 0, 1) := by decide +kernel
theorem d_rma0_27 : decode prog_56_method_4_code 27 = .ok (.getfield 20, 3) := by decide +kernel
theorem d_rma0_30 : decode prog_56_method_4_code 30 = .ok (.bipush 13, 2) := by decide +kernel
theorem d_rma0_32 : decode prog_56_method_4_code 32 = .ok (.iushr, 1) := by decide +kernel
theorem d_rma0_33 : decode prog_56_method_4_code 33 = .ok (.istore_n 2, 1) := by decide +kernel
theorem d_rma0_34 : decode prog_56_method_4_code 34 = .ok (.aload_n 0, 1) := by decide +kernel
theorem d_rma0_35 : decode prog_56_method_4_code 35 = .ok (.getfield 20, 3) := by decide +kernel
theorem d_rma0_38 : decode prog_56_method_4_code 38 = .ok (.sipush 8191, 3) := by decide +kernel
theorem d_rma0_41 : decode prog_56_method_4_code 41 = .ok (.iand, 1) := by decide +kernel
theorem d_rma0_42 : decode prog_56_method_4_code 42 = .ok (.istore_n 3, 1) := by decide +kernel
theorem d_rma0_43 : decode prog_56_method_4_code 43 = .ok (.iload_n 2, 1) := by decide +kernel
theorem d_rma0_44 : decode prog_56_method_4_code 44 = .ok (.aload_n 0, 1) := by decide +kernel
theorem d_rma0_45 : decode prog_56_method_4_code 45 = .ok (.getfield 11, 3) := by decide +kernel
theorem d_rma0_48 : decode prog_56_method_4_code 48 = .ok (.arraylength, 1) := by decide +kernel
theorem d_rma0_49 : decode prog_56_method_4_code 49 = .ok (.if_icmp .ne 24, 3) := by decide +kernel
theorem d_rma0_73 : decode prog_56_method_4_code 73 = .ok (.aload_n 0, 1) := by decide +kernel
theorem d_rma0_74 : decode prog_56_method_4_code 74 = .ok (.getfield 11, 3) := by decide +kernel
theorem d_rma0_77 : decode prog_56_method_4_code 77 = .ok (.iload_n 2, 1) := by decide +kernel
theorem d_rma0_78 : decode prog_56_method_4_code 78 = .ok (.aaload, 1) := by decide +kernel
theorem d_rma0_79 : decode prog_56_method_4_code 79 = .ok (.ifnonnull 17, 3) := by decide +kernel
theorem d_rma0_96 : decode prog_56_method_4_code 96 = .ok (.iload_n 3, 1) := by decide +kernel
theorem d_rma0_97 : decode prog_56_method_4_code 97 = .ok (.aload_n 0, 1) := by decide +kernel
theorem d_rma0_98 : decode prog_56_method_4_code 98 = .ok (.getfield 11, 3) := by decide +kernel
theorem d_rma0_101 : decode prog_56_method_4_code 101 = .ok (.iload_n 2, 1) := by decide +kernel
theorem d_rma0_102 : decode prog_56_method_4_code 102 = .ok (.aaload, 1) := by decide +kernel
theorem d_rma0_103 : decode prog_56_method_4_code 103 = .ok (.arraylength, 1) := by decide +kernel
theorem d_rma0_104 : decode prog_56_method_4_code 104 = .ok (.if_icmp .ne 21, 3) := by decide +kernel
theorem d_rma0_125 : decode prog_56_method_4_code 125 = .ok (.aload_n 0, 1) := by decide +kernel
theorem d_rma0_126 : decode prog_56_method_4_code 126 = .ok (.getfield 11, 3) := by decide +kernel
theorem d_rma0_129 : decode prog_56_method_4_code 129 = .ok (.iload_n 2, 1) := by decide +kernel
theorem d_rma0_130 : decode prog_56_method_4_code 130 = .ok (.aaload, 1) := by decide +kernel
theorem d_rma0_131 : decode prog_56_method_4_code 131 = .ok (.iload_n 3, 1) := by decide +kernel
theorem d_rma0_132 : decode prog_56_method_4_code 132 = .ok (.iload_n 1, 1) := by decide +kernel
theorem d_rma0_133 : decode prog_56_method_4_code 133 = .ok (.iastore, 1) := by decide +kernel
theorem d_rma0_134 : decode prog_56_method_4_code 134 = .ok (.aload_n 0, 1) := by decide +kernel
theorem d_rma0_135 : decode prog_56_method_4_code 135 = .ok (.dup, 1) := by decide +kernel
theorem d_rma0_136 : decode prog_56_method_4_code 136 = .ok (.getfield 20, 3) := by decide +kernel
theorem d_rma0_139 : decode prog_56_method_4_code 139 = .ok (.iconst 1, 1) := by decide +kernel
theorem d_rma0_140 : decode prog_56_method_4_code 140 = .ok (.iadd, 1) := by decide +kernel
theorem d_rma0_141 : decode prog_56_method_4_code 141 = .ok (.putfield 20, 3) := by decide +kernel
theorem d_rma0_144 : decode prog_56_method_4_code 144 = .ok (.return_, 1) := by decide +kernel
theorem pn_rma0 : plainName "com/example/guarantor/guarantor/lts/IntBlocks" = true := by first | (simp [plainName, overriddenIn]; done) | decide +kernel
theorem ef_rma0 (m : MethodId) (a1 : Addr) (p2 : Int32) : entryFrame m #[(.ref a1), (.int p2)] 4 = mkF m 0 #[.val (.ref a1), .val (.int p2), .unset, .unset] [] := by first | (simp [entryFrame, mkF, argsToLocals, Value.category]; done) | rfl
def Q_rma0 (Z : State) (a1 : Addr) (b1 : Addr) (c1 : Addr) (k1 : ClassId) (k2 : ClassId) (p2 : Int32) (h0 : Heap) (n0 : Nat) (v : Option Value) (h : Heap) (L : List Loc) : Prop := v = none ∧ Fr n0 L ∧ Keep h0 h [a1, c1] ∧ Exa Z h a1 "com/example/guarantor/guarantor/lts/IntBlocks" ∧ Fld Z h a1 "com/example/guarantor/guarantor/lts/IntBlocks" "size" "I" (.int (1 : Int32)) ∧ Fld Z h a1 "com/example/guarantor/guarantor/lts/IntBlocks" "blocks" "[[I" (.ref b1) ∧ Arv Z h c1 k2 .int (16 : Int32) [(.int p2), (.int (0 : Int32)), (.int (0 : Int32)), (.int (0 : Int32)), (.int (0 : Int32)), (.int (0 : Int32)), (.int (0 : Int32)), (.int (0 : Int32)), (.int (0 : Int32)), (.int (0 : Int32)), (.int (0 : Int32)), (.int (0 : Int32)), (.int (0 : Int32)), (.int (0 : Int32)), (.int (0 : Int32)), (.int (0 : Int32))] (.int (0 : Int32))
set_option maxRecDepth 65536 in
set_option maxHeartbeats 40000000 in
theorem rma0 (l : Launch) (Z : State) (a0 : Array Value) (hw : ∀ d ∈ tables_1, d.before a0 Z = true) (ws : List Jvm.Cond) (a1 : Addr) (b1 : Addr) (c1 : Addr) (k1 : ClassId) (k2 : ClassId) (p2 : Int32) (h0 : Heap) (n0 : Nat) (Z0 : n0 ≤ h0.size) (E1 : Exa Z h0 a1 "com/example/guarantor/guarantor/lts/IntBlocks") (F1 : Fld Z h0 a1 "com/example/guarantor/guarantor/lts/IntBlocks" "size" "I" (.int (0 : Int32))) (F2 : Fld Z h0 a1 "com/example/guarantor/guarantor/lts/IntBlocks" "blocks" "[[I" (.ref b1)) (V1 : Arv Z h0 b1 k1 (.array .int) (1 : Int32) [(.ref c1)] .null) (V2 : Arv Z h0 c1 k2 .int (16 : Int32) [(.int (0 : Int32)), (.int (0 : Int32)), (.int (0 : Int32)), (.int (0 : Int32)), (.int (0 : Int32)), (.int (0 : Int32)), (.int (0 : Int32)), (.int (0 : Int32)), (.int (0 : Int32)), (.int (0 : Int32)), (.int (0 : Int32)), (.int (0 : Int32)), (.int (0 : Int32)), (.int (0 : Int32)), (.int (0 : Int32)), (.int (0 : Int32))] (.int (0 : Int32))) (G1 : n0 ≤ a1) (G3 : n0 ≤ c1) (n12 : a1 ≠ b1) (n13 : a1 ≠ c1) (n23 : b1 ≠ c1) :
    MetFree l (⟨"com/example/guarantor/guarantor/lts/IntBlocks", "add", "(I)V"⟩ : MethodName) (head1 (Jvm.Cond.code (⟨"com/example/guarantor/guarantor/lts/IntBlocks", "add", "(I)V"⟩ : MethodName) prog_56_method_4_code 4 none :: ws) ({ frames := 0, cells := 0, slots := 0, locals := 0 } : Room)) (fun a U => a = #[(.ref a1), (.int p2)] ∧ Z.Warmed39 U.vm ∧ U.heap = h0) (fun _ _ _ _ _ => True) (fun _ U o U' => ∃ v L, o = .returned v ∧ Q_rma0 Z a1 b1 c1 k1 k2 p2 h0 n0 v U'.heap L ∧ FrameEnd U o U' L ({ frames := 0, cells := 0, slots := 0, locals := 0 } : Room).cells ({ frames := 0, cells := 0, slots := 0, locals := 0 } : Room).slots) := by
  refine MetFree.of_bodySF (plainFor_of_name pn_rma0) hisR ?_
  intro p e s m args_ below meth c s₁ Bd hml0 hP hK
  obtain ⟨hargs, hZ, hh⟩ := hP
  have hx := Bd.exec
  have hby := Bd.bytes
  have hml : c.maxLocals = 4 := hml0
  have hown : s.vm.findClass "com/example/guarantor/guarantor/lts/IntBlocks" = some m.cls := findClass_of_methodNamed Bd.named
  have hnm := (name_of_methodNamed Bd.named Bd.method).1
  have X0 : Stand p l e ({ frames := 0, cells := 0, slots := 0, locals := 0 } : Room) s m args_ below meth c s₁ [] 0 0 := Stand.of_body Bd
  have e0 : s₁.heap = h0 := by rw [← hh, Bd.state]; rfl
  have N0 := Fr.nil n0
  have hv : ∀ (i : Nat) {d : Jvm.Cond}, tables_1[i]? = some d → d.before a0 Z = true := fun i d q => hw d (List.mem_of_getElem? q)
  have K0 : Keep h0 h0 [a1, c1] := Keep.refl _ _
  have k0 : Go p e below m (s₁.setTop (entryFrame m args_ 4)) s₁ 0 #[.val (.ref a1), .val (.int p2), .unset, .unset] [] := by rw [hargs]; exact fun t kt => castTop (ef_rma0 m a1 p2) kt
  obtain ⟨W, hWW⟩ : ∃ W, W = s₁.setTop (entryFrame m args_ 4) := ⟨_, rfl⟩
  rw [← hWW] at k0 ⊢
  show Done p e below s W (Q_rma0 Z a1 b1 c1 k1 k2 p2 h0 n0) ({ frames := 0, cells := 0, slots := 0, locals := 0 } : Room).cells ({ frames := 0, cells := 0, slots := 0, locals := 0 } : Room).slots
  have k20 : Go p e below m W s₁ 1 #[.val (.ref a1), .val (.int p2), .unset, .unset] [(.ref a1)] := k0.aloadN X0 hx (hb hby d_rma0_0) rfl rfl
  obtain ⟨T21, X21, e21, k21⟩ := k20.getF X0 hx hZ hown (host := "") (Or.inl (hv 21 rfl)) Via.refl e0 F1 (hb hby d_rma0_1)
  have k21 : Go p e below m W T21 4 #[.val (.ref a1), .val (.int p2), .unset, .unset] [(.int (0 : Int32))] := k21
  have k22 : Go p e below m W T21 27 #[.val (.ref a1), .val (.int p2), .unset, .unset] [(.ref a1)] := ((k21.ldcI X21 hx hZ hown (hv 23 rfl) (hb hby d_rma0_4)).icmpYes X21 hx (hb hby d_rma0_6) (XT.ii_ne_t (by decide)) (by decide) (by decide)).aloadN X21 hx (hb hby d_rma0_26) rfl rfl
  obtain ⟨T23, X23, e23, k23⟩ := k22.getF X21 hx hZ hown (host := "") (Or.inl (hv 21 rfl)) Via.refl e21 F1 (hb hby d_rma0_27)
  have k23 : Go p e below m W T23 30 #[.val (.ref a1), .val (.int p2), .unset, .unset] [(.int (0 : Int32))] := k23
  have k24 : Go p e below m W T23 34 #[.val (.ref a1), .val (.int p2), .val (.int (0 : Int32)), .unset] [] := (((k23.bipush X23 hx (hb hby d_rma0_30) (v := (13 : Int32)) rfl).iushr X23 hx (hb hby d_rma0_32)).cast (y := (0 : Int32)) (by decide)).istoreN X23 hx (hb hby d_rma0_33) rfl
  have k25 : Go p e below m W T23 35 #[.val (.ref a1), .val (.int p2), .val (.int (0 : Int32)), .unset] [(.ref a1)] := k24.aloadN X23 hx (hb hby d_rma0_34) rfl rfl
  obtain ⟨T26, X26, e26, k26⟩ := k25.getF X23 hx hZ hown (host := "") (Or.inl (hv 21 rfl)) Via.refl e23 F1 (hb hby d_rma0_35)
  have k26 : Go p e below m W T26 38 #[.val (.ref a1), .val (.int p2), .val (.int (0 : Int32)), .unset] [(.int (0 : Int32))] := k26
  have k27 : Go p e below m W T26 43 #[.val (.ref a1), .val (.int p2), .val (.int (0 : Int32)), .val (.int (0 : Int32))] [] := (((k26.sipush X26 hx (hb hby d_rma0_38) (v := (8191 : Int32)) rfl).iand X26 hx (hb hby d_rma0_41)).cast (y := (0 : Int32)) (by decide)).istoreN X26 hx (hb hby d_rma0_42) rfl
  have k28 : Go p e below m W T26 45 #[.val (.ref a1), .val (.int p2), .val (.int (0 : Int32)), .val (.int (0 : Int32))] [(.ref a1), (.int (0 : Int32))] := (k27.iloadN X26 hx (hb hby d_rma0_43) rfl).aloadN X26 hx (hb hby d_rma0_44) rfl rfl
  obtain ⟨T29, X29, e29, k29⟩ := k28.getF X26 hx hZ hown (host := "") (Or.inl (hv 14 rfl)) Via.refl e26 F2 (hb hby d_rma0_45)
  have k29 : Go p e below m W T29 48 #[.val (.ref a1), .val (.int p2), .val (.int (0 : Int32)), .val (.int (0 : Int32))] [(.ref b1), (.int (0 : Int32))] := k29
  have k30 : Go p e below m W T29 74 #[.val (.ref a1), .val (.int p2), .val (.int (0 : Int32)), .val (.int (0 : Int32))] [(.ref a1)] := ((k29.arraylength X29 hx hZ e29 V1 (hb hby d_rma0_48)).icmpYes X29 hx (hb hby d_rma0_49) (XT.ii_ne_t (by decide)) (by decide) (by decide)).aloadN X29 hx (hb hby d_rma0_73) rfl rfl
  obtain ⟨T31, X31, e31, k31⟩ := k30.getF X29 hx hZ hown (host := "") (Or.inl (hv 14 rfl)) Via.refl e29 F2 (hb hby d_rma0_74)
  have k31 : Go p e below m W T31 77 #[.val (.ref a1), .val (.int p2), .val (.int (0 : Int32)), .val (.int (0 : Int32))] [(.ref b1)] := k31
  have k32 : Go p e below m W T31 78 #[.val (.ref a1), .val (.int p2), .val (.int (0 : Int32)), .val (.int (0 : Int32))] [(.int (0 : Int32)), (.ref b1)] := k31.iloadN X31 hx (hb hby d_rma0_77) rfl
  have k33 : Go p e below m W T31 98 #[.val (.ref a1), .val (.int p2), .val (.int (0 : Int32)), .val (.int (0 : Int32))] [(.ref a1), (.int (0 : Int32))] := (((k32.aaload (i := 0) (n := 1) X31 hx hZ e31 V1 rfl rfl (by decide) (by decide) rfl rfl (hb hby d_rma0_78)).nonnullYes X31 hx (hb hby d_rma0_79) rfl (fun q => by cases q) (by decide) (by decide)).iloadN X31 hx (hb hby d_rma0_96) rfl).aloadN X31 hx (hb hby d_rma0_97) rfl rfl
  obtain ⟨T34, X34, e34, k34⟩ := k33.getF X31 hx hZ hown (host := "") (Or.inl (hv 14 rfl)) Via.refl e31 F2 (hb hby d_rma0_98)
  have k34 : Go p e below m W T34 101 #[.val (.ref a1), .val (.int p2), .val (.int (0 : Int32)), .val (.int (0 : Int32))] [(.ref b1), (.int (0 : Int32))] := k34
  have k35 : Go p e below m W T34 102 #[.val (.ref a1), .val (.int p2), .val (.int (0 : Int32)), .val (.int (0 : Int32))] [(.int (0 : Int32)), (.ref b1), (.int (0 : Int32))] := k34.iloadN X34 hx (hb hby d_rma0_101) rfl
  have k36 : Go p e below m W T34 103 #[.val (.ref a1), .val (.int p2), .val (.int (0 : Int32)), .val (.int (0 : Int32))] [(.ref c1), (.int (0 : Int32))] := k35.aaload (i := 0) (n := 1) X34 hx hZ e34 V1 rfl rfl (by decide) (by decide) rfl rfl (hb hby d_rma0_102)
  have k37 : Go p e below m W T34 126 #[.val (.ref a1), .val (.int p2), .val (.int (0 : Int32)), .val (.int (0 : Int32))] [(.ref a1)] := ((k36.arraylength X34 hx hZ e34 V2 (hb hby d_rma0_103)).icmpYes X34 hx (hb hby d_rma0_104) (XT.ii_ne_t (by decide)) (by decide) (by decide)).aloadN X34 hx (hb hby d_rma0_125) rfl rfl
  obtain ⟨T38, X38, e38, k38⟩ := k37.getF X34 hx hZ hown (host := "") (Or.inl (hv 14 rfl)) Via.refl e34 F2 (hb hby d_rma0_126)
  have k38 : Go p e below m W T38 129 #[.val (.ref a1), .val (.int p2), .val (.int (0 : Int32)), .val (.int (0 : Int32))] [(.ref b1)] := k38
  have k39 : Go p e below m W T38 130 #[.val (.ref a1), .val (.int p2), .val (.int (0 : Int32)), .val (.int (0 : Int32))] [(.int (0 : Int32)), (.ref b1)] := k38.iloadN X38 hx (hb hby d_rma0_129) rfl
  have k40 : Go p e below m W T38 133 #[.val (.ref a1), .val (.int p2), .val (.int (0 : Int32)), .val (.int (0 : Int32))] [(.int p2), (.int (0 : Int32)), (.ref c1)] := ((k39.aaload (i := 0) (n := 1) X38 hx hZ e38 V1 rfl rfl (by decide) (by decide) rfl rfl (hb hby d_rma0_130)).iloadN X38 hx (hb hby d_rma0_131) rfl).iloadN X38 hx (hb hby d_rma0_132) rfl
  obtain ⟨T41, h41, l41, X41, e41, W41, V41, N41, k41⟩ := k40.iastore (i := 0) X38 hx hZ e38 V2 rfl rfl (by decide) (Nat.le_of_ble_eq_true rfl) N0 G3 (hb hby d_rma0_133)
  have k41 : Go p e below m W T41 134 #[.val (.ref a1), .val (.int p2), .val (.int (0 : Int32)), .val (.int (0 : Int32))] [] := k41
  have Z41 : n0 ≤ h41.size := (Wr.size W41).symm ▸ Z0
  have f42 := E1.wr W41
  have f43 := F1.other W41 (Or.inl n13)
  have f44 := F2.other W41 (Or.inl n13)
  have f45 := V1.other W41 n23
  have V41 : Arv Z h41 c1 k2 .int (16 : Int32) [(.int p2), (.int (0 : Int32)), (.int (0 : Int32)), (.int (0 : Int32)), (.int (0 : Int32)), (.int (0 : Int32)), (.int (0 : Int32)), (.int (0 : Int32)), (.int (0 : Int32)), (.int (0 : Int32)), (.int (0 : Int32)), (.int (0 : Int32)), (.int (0 : Int32)), (.int (0 : Int32)), (.int (0 : Int32)), (.int (0 : Int32))] (.int (0 : Int32)) := V41
  have K41 : Keep h0 h41 [a1, c1] := K0.wr W41 (Or.inl (List.mem_of_getElem? (i := 1) rfl))
  have k46 : Go p e below m W T41 136 #[.val (.ref a1), .val (.int p2), .val (.int (0 : Int32)), .val (.int (0 : Int32))] [(.ref a1), (.ref a1)] := (k41.aloadN X41 hx (hb hby d_rma0_134) rfl rfl).dup X41 hx (hb hby d_rma0_135) rfl
  obtain ⟨T47, X47, e47, k47⟩ := k46.getF X41 hx hZ hown (host := "") (Or.inl (hv 21 rfl)) Via.refl e41 f43 (hb hby d_rma0_136)
  have k47 : Go p e below m W T47 139 #[.val (.ref a1), .val (.int p2), .val (.int (0 : Int32)), .val (.int (0 : Int32))] [(.int (0 : Int32)), (.ref a1)] := k47
  have k48 : Go p e below m W T47 141 #[.val (.ref a1), .val (.int p2), .val (.int (0 : Int32)), .val (.int (0 : Int32))] [(.int (1 : Int32)), (.ref a1)] := ((k47.iconst X47 hx (hb hby d_rma0_139) (v := (1 : Int32)) rfl).iadd X47 hx (hb hby d_rma0_140)).cast (y := (1 : Int32)) (by decide)
  obtain ⟨T49, h49, l49, X49, e49, W49, N49, k49⟩ := k48.putF X47 hx hZ hown (host := "") (Or.inl (hv 21 rfl)) Via.refl e47 f43 f42 (Or.inl (hv 22 rfl)) (hv 2 rfl) (ty := .int) (by decide) rfl rfl N41 G1 (hb hby d_rma0_141)
  have k49 : Go p e below m W T49 144 #[.val (.ref a1), .val (.int p2), .val (.int (0 : Int32)), .val (.int (0 : Int32))] [] := k49
  have Z49 : n0 ≤ h49.size := (Wr.size W49).symm ▸ Z41
  have f50 := f42.wr W49
  have f51 := f43.same W49
  have f52 := f44.other W49 (Or.inr (slot_ne (Or.inl (hv 15 rfl)) (Or.inl (hv 22 rfl)) (by decide) (by decide : parseFieldDescriptor "[[I" = some (.array (.array .int))) (by decide : parseFieldDescriptor "I" = some .int)))
  have f53 := f45.other W49 (Ne.symm n12)
  have f54 := V41.other W49 (Ne.symm n13)
  have K49 : Keep h0 h49 [a1, c1] := K41.wr W49 (Or.inl (List.mem_of_getElem? (i := 0) rfl))
  exact k49.return_ X49 hx Bd.returns (hb hby d_rma0_144) (BodyLoose.notSynchronized Bd) (by rw [e49]; exact ⟨rfl, N49, K49, f50, f51, f52, f54⟩) (by decide) (by decide)

theorem d_rma1_0 : decode prog_56_method_4_code 0 = .ok (.aload_n 0, 1) := by decide +kernel
theorem d_rma1_1 : decode prog_56_method_4_code 1 = .ok (.getfield 20, 3) := by decide +kernel
theorem d_rma1_4 : decode prog_56_method_4_code 4 = .ok (.ldc 26, 2) := by decide +kernel
theorem d_rma1_6 : decode prog_56_method_4_code 6 = .ok (.if_icmp .ne 20, 3) := by decide +kernel
theorem d_rma1_26 : decode prog_56_method_4_code 26 = .ok (.aload_n 0, 1) := by decide +kernel
theorem d_rma1_27 : decode prog_56_method_4_code 27 = .ok (.getfield 20, 3) := by decide +kernel
theorem d_rma1_30 : decode prog_56_method_4_code 30 = .ok (.bipush 13, 2) := by decide +kernel
theorem d_rma1_32 : decode prog_56_method_4_code 32 = .ok (.iushr, 1) := by decide +kernel
theorem d_rma1_33 : decode prog_56_method_4_code 33 = .ok (.istore_n 2, 1) := by decide +kernel
theorem d_rma1_34 : decode prog_56_method_4_code 34 = .ok (.aload_n 0, 1) := by decide +kernel
theorem d_rma1_35 : decode prog_56_method_4_code 35 = .ok (.getfield 20, 3) := by decide +kernel
theorem d_rma1_38 : decode prog_56_method_4_code 38 = .ok (.sipush 8191, 3) := by decide +kernel
theorem d_rma1_41 : decode prog_56_method_4_code 41 = .ok (.iand, 1) := by decide +kernel
theorem d_rma1_42 : decode prog_56_method_4_code 42 = .ok (.istore_n 3, 1) := by decide +kernel
theorem d_rma1_43 : decode prog_56_method_4_code 43 = .ok (.iload_n 2, 1) := by decide +kernel
theorem d_rma1_44 : decode prog_56_method_4_code 44 = .ok (.aload_n 0, 1) := by decide +kernel
theorem d_rma1_45 : decode prog_56_method_4_code 45 = .ok (.getfield 11, 3) := by decide +kernel
theorem d_rma1_48 : decode prog_56_method_4_code 48 = .ok (.arraylength, 1) := by decide +kernel
theorem d_rma1_49 : decode prog_56_method_4_code 49 = .ok (.if_icmp .ne 24, 3) := by decide +kernel
theorem d_rma1_73 : decode prog_56_method_4_code 73 = .ok (.aload_n 0, 1) := by decide +kernel
theorem d_rma1_74 : decode prog_56_method_4_code 74 = .ok (.getfield 11, 3) := by decide +kernel
theorem d_rma1_77 : decode prog_56_method_4_code 77 = .ok (.iload_n 2, 1) := by decide +kernel
theorem d_rma1_78 : decode prog_56_method_4_code 78 = .ok (.aaload, 1) := by decide +kernel
theorem d_rma1_79 : decode prog_56_method_4_code 79 = .ok (.ifnonnull 17, 3) := by decide +kernel
theorem d_rma1_96 : decode prog_56_method_4_code 96 = .ok (.iload_n 3, 1) := by decide +kernel
theorem d_rma1_97 : decode prog_56_method_4_code 97 = .ok (.aload_n 0, 1) := by decide +kernel
theorem d_rma1_98 : decode prog_56_method_4_code 98 = .ok (.getfield 11, 3) := by decide +kernel
theorem d_rma1_101 : decode prog_56_method_4_code 101 = .ok (.iload_n 2, 1) := by decide +kernel
theorem d_rma1_102 : decode prog_56_method_4_code 102 = .ok (.aaload, 1) := by decide +kernel
theorem d_rma1_103 : decode prog_56_method_4_code 103 = .ok (.arraylength, 1) := by decide +kernel
theorem d_rma1_104 : decode prog_56_method_4_code 104 = .ok (.if_icmp .ne 21, 3) := by decide +kernel
theorem d_rma1_125 : decode prog_56_method_4_code 125 = .ok (.aload_n 0, 1) := by decide +kernel
theorem d_rma1_126 : decode prog_56_method_4_code 126 = .ok (.getfield 11, 3) := by decide +kernel
theorem d_rma1_129 : decode prog_56_method_4_code 129 = .ok (.iload_n 2, 1) := by decide +kernel
theorem d_rma1_130 : decode prog_56_method_4_code 130 = .ok (.aaload, 1) := by decide +kernel
theorem d_rma1_131 : decode prog_56_method_4_code 131 = .ok (.iload_n 3, 1) := by decide +kernel
theorem d_rma1_132 : decode prog_56_method_4_code 132 = .ok (.iload_n 1, 1) := by decide +kernel
theorem d_rma1_133 : decode prog_56_method_4_code 133 = .ok (.iastore, 1) := by decide +kernel
theorem d_rma1_134 : decode prog_56_method_4_code 134 = .ok (.aload_n 0, 1) := by decide +kernel
theorem d_rma1_135 : decode prog_56_method_4_code 135 = .ok (.dup, 1) := by decide +kernel
theorem d_rma1_136 : decode prog_56_method_4_code 136 = .ok (.getfield 20, 3) := by decide +kernel
theorem d_rma1_139 : decode prog_56_method_4_code 139 = .ok (.iconst 1, 1) := by decide +kernel
theorem d_rma1_140 : decode prog_56_method_4_code 140 = .ok (.iadd, 1) := by decide +kernel
theorem d_rma1_141 : decode prog_56_method_4_code 141 = .ok (.putfield 20, 3) := by decide +kernel
theorem d_rma1_144 : decode prog_56_method_4_code 144 = .ok (.return_, 1) := by decide +kernel
theorem pn_rma1 : plainName "com/example/guarantor/guarantor/lts/IntBlocks" = true := by first | (simp [plainName, overriddenIn]; done) | decide +kernel
theorem ef_rma1 (m : MethodId) (a1 : Addr) (p2 : Int32) : entryFrame m #[(.ref a1), (.int p2)] 4 = mkF m 0 #[.val (.ref a1), .val (.int p2), .unset, .unset] [] := by first | (simp [entryFrame, mkF, argsToLocals, Value.category]; done) | rfl
def Q_rma1 (Z : State) (a1 : Addr) (b1 : Addr) (c1 : Addr) (k1 : ClassId) (k2 : ClassId) (p2 : Int32) (v0 : Int32) (h0 : Heap) (n0 : Nat) (v : Option Value) (h : Heap) (L : List Loc) : Prop := v = none ∧ Fr n0 L ∧ Keep h0 h [a1, c1] ∧ Exa Z h a1 "com/example/guarantor/guarantor/lts/IntBlocks" ∧ Fld Z h a1 "com/example/guarantor/guarantor/lts/IntBlocks" "size" "I" (.int (2 : Int32)) ∧ Fld Z h a1 "com/example/guarantor/guarantor/lts/IntBlocks" "blocks" "[[I" (.ref b1) ∧ Arv Z h c1 k2 .int (16 : Int32) [(.int v0), (.int p2), (.int (0 : Int32)), (.int (0 : Int32)), (.int (0 : Int32)), (.int (0 : Int32)), (.int (0 : Int32)), (.int (0 : Int32)), (.int (0 : Int32)), (.int (0 : Int32)), (.int (0 : Int32)), (.int (0 : Int32)), (.int (0 : Int32)), (.int (0 : Int32)), (.int (0 : Int32)), (.int (0 : Int32))] (.int (0 : Int32))
set_option maxRecDepth 65536 in
set_option maxHeartbeats 40000000 in
theorem rma1 (l : Launch) (Z : State) (a0 : Array Value) (hw : ∀ d ∈ tables_1, d.before a0 Z = true) (ws : List Jvm.Cond) (a1 : Addr) (b1 : Addr) (c1 : Addr) (k1 : ClassId) (k2 : ClassId) (p2 : Int32) (v0 : Int32) (h0 : Heap) (n0 : Nat) (Z0 : n0 ≤ h0.size) (E1 : Exa Z h0 a1 "com/example/guarantor/guarantor/lts/IntBlocks") (F1 : Fld Z h0 a1 "com/example/guarantor/guarantor/lts/IntBlocks" "size" "I" (.int (1 : Int32))) (F2 : Fld Z h0 a1 "com/example/guarantor/guarantor/lts/IntBlocks" "blocks" "[[I" (.ref b1)) (V1 : Arv Z h0 b1 k1 (.array .int) (1 : Int32) [(.ref c1)] .null) (V2 : Arv Z h0 c1 k2 .int (16 : Int32) [(.int v0), (.int (0 : Int32)), (.int (0 : Int32)), (.int (0 : Int32)), (.int (0 : Int32)), (.int (0 : Int32)), (.int (0 : Int32)), (.int (0 : Int32)), (.int (0 : Int32)), (.int (0 : Int32)), (.int (0 : Int32)), (.int (0 : Int32)), (.int (0 : Int32)), (.int (0 : Int32)), (.int (0 : Int32)), (.int (0 : Int32))] (.int (0 : Int32))) (G1 : n0 ≤ a1) (G3 : n0 ≤ c1) (n12 : a1 ≠ b1) (n13 : a1 ≠ c1) (n23 : b1 ≠ c1) :
    MetFree l (⟨"com/example/guarantor/guarantor/lts/IntBlocks", "add", "(I)V"⟩ : MethodName) (head1 (Jvm.Cond.code (⟨"com/example/guarantor/guarantor/lts/IntBlocks", "add", "(I)V"⟩ : MethodName) prog_56_method_4_code 4 none :: ws) ({ frames := 0, cells := 0, slots := 0, locals := 0 } : Room)) (fun a U => a = #[(.ref a1), (.int p2)] ∧ Z.Warmed39 U.vm ∧ U.heap = h0) (fun _ _ _ _ _ => True) (fun _ U o U' => ∃ v L, o = .returned v ∧ Q_rma1 Z a1 b1 c1 k1 k2 p2 v0 h0 n0 v U'.heap L ∧ FrameEnd U o U' L ({ frames := 0, cells := 0, slots := 0, locals := 0 } : Room).cells ({ frames := 0, cells := 0, slots := 0, locals := 0 } : Room).slots) := by
  refine MetFree.of_bodySF (plainFor_of_name pn_rma1) hisR ?_
  intro p e s m args_ below meth c s₁ Bd hml0 hP hK
  obtain ⟨hargs, hZ, hh⟩ := hP
  have hx := Bd.exec
  have hby := Bd.bytes
  have hml : c.maxLocals = 4 := hml0
  have hown : s.vm.findClass "com/example/guarantor/guarantor/lts/IntBlocks" = some m.cls := findClass_of_methodNamed Bd.named
  have hnm := (name_of_methodNamed Bd.named Bd.method).1
  have X0 : Stand p l e ({ frames := 0, cells := 0, slots := 0, locals := 0 } : Room) s m args_ below meth c s₁ [] 0 0 := Stand.of_body Bd
  have e0 : s₁.heap = h0 := by rw [← hh, Bd.state]; rfl
  have N0 := Fr.nil n0
  have hv : ∀ (i : Nat) {d : Jvm.Cond}, tables_1[i]? = some d → d.before a0 Z = true := fun i d q => hw d (List.mem_of_getElem? q)
  have K0 : Keep h0 h0 [a1, c1] := Keep.refl _ _
  have k0 : Go p e below m (s₁.setTop (entryFrame m args_ 4)) s₁ 0 #[.val (.ref a1), .val (.int p2), .unset, .unset] [] := by rw [hargs]; exact fun t kt => castTop (ef_rma1 m a1 p2) kt
  obtain ⟨W, hWW⟩ : ∃ W, W = s₁.setTop (entryFrame m args_ 4) := ⟨_, rfl⟩
  rw [← hWW] at k0 ⊢
  show Done p e below s W (Q_rma1 Z a1 b1 c1 k1 k2 p2 v0 h0 n0) ({ frames := 0, cells := 0, slots := 0, locals := 0 } : Room).cells ({ frames := 0, cells := 0, slots := 0, locals := 0 } : Room).slots
  have k20 : Go p e below m W s₁ 1 #[.val (.ref a1), .val (.int p2), .unset, .unset] [(.ref a1)] := k0.aloadN X0 hx (hb hby d_rma1_0) rfl rfl
  obtain ⟨T21, X21, e21, k21⟩ := k20.getF X0 hx hZ hown (host := "") (Or.inl (hv 21 rfl)) Via.refl e0 F1 (hb hby d_rma1_1)
  have k21 : Go p e below m W T21 4 #[.val (.ref a1), .val (.int p2), .unset, .unset] [(.int (1 : Int32))] := k21
  have k22 : Go p e below m W T21 27 #[.val (.ref a1), .val (.int p2), .unset, .unset] [(.ref a1)] := ((k21.ldcI X21 hx hZ hown (hv 23 rfl) (hb hby d_rma1_4)).icmpYes X21 hx (hb hby d_rma1_6) (XT.ii_ne_t (by decide)) (by decide) (by decide)).aloadN X21 hx (hb hby d_rma1_26) rfl rfl
  obtain ⟨T23, X23, e23, k23⟩ := k22.getF X21 hx hZ hown (host := "") (Or.inl (hv 21 rfl)) Via.refl e21 F1 (hb hby d_rma1_27)
  have k23 : Go p e below m W T23 30 #[.val (.ref a1), .val (.int p2), .unset, .unset] [(.int (1 : Int32))] := k23
  have k24 : Go p e below m W T23 34 #[.val (.ref a1), .val (.int p2), .val (.int (0 : Int32)), .unset] [] := (((k23.bipush X23 hx (hb hby d_rma1_30) (v := (13 : Int32)) rfl).iushr X23 hx (hb hby d_rma1_32)).cast (y := (0 : Int32)) (by decide)).istoreN X23 hx (hb hby d_rma1_33) rfl
  have k25 : Go p e below m W T23 35 #[.val (.ref a1), .val (.int p2), .val (.int (0 : Int32)), .unset] [(.ref a1)] := k24.aloadN X23 hx (hb hby d_rma1_34) rfl rfl
  obtain ⟨T26, X26, e26, k26⟩ := k25.getF X23 hx hZ hown (host := "") (Or.inl (hv 21 rfl)) Via.refl e23 F1 (hb hby d_rma1_35)
  have k26 : Go p e below m W T26 38 #[.val (.ref a1), .val (.int p2), .val (.int (0 : Int32)), .unset] [(.int (1 : Int32))] := k26
  have k27 : Go p e below m W T26 43 #[.val (.ref a1), .val (.int p2), .val (.int (0 : Int32)), .val (.int (1 : Int32))] [] := (((k26.sipush X26 hx (hb hby d_rma1_38) (v := (8191 : Int32)) rfl).iand X26 hx (hb hby d_rma1_41)).cast (y := (1 : Int32)) (by decide)).istoreN X26 hx (hb hby d_rma1_42) rfl
  have k28 : Go p e below m W T26 45 #[.val (.ref a1), .val (.int p2), .val (.int (0 : Int32)), .val (.int (1 : Int32))] [(.ref a1), (.int (0 : Int32))] := (k27.iloadN X26 hx (hb hby d_rma1_43) rfl).aloadN X26 hx (hb hby d_rma1_44) rfl rfl
  obtain ⟨T29, X29, e29, k29⟩ := k28.getF X26 hx hZ hown (host := "") (Or.inl (hv 14 rfl)) Via.refl e26 F2 (hb hby d_rma1_45)
  have k29 : Go p e below m W T29 48 #[.val (.ref a1), .val (.int p2), .val (.int (0 : Int32)), .val (.int (1 : Int32))] [(.ref b1), (.int (0 : Int32))] := k29
  have k30 : Go p e below m W T29 74 #[.val (.ref a1), .val (.int p2), .val (.int (0 : Int32)), .val (.int (1 : Int32))] [(.ref a1)] := ((k29.arraylength X29 hx hZ e29 V1 (hb hby d_rma1_48)).icmpYes X29 hx (hb hby d_rma1_49) (XT.ii_ne_t (by decide)) (by decide) (by decide)).aloadN X29 hx (hb hby d_rma1_73) rfl rfl
  obtain ⟨T31, X31, e31, k31⟩ := k30.getF X29 hx hZ hown (host := "") (Or.inl (hv 14 rfl)) Via.refl e29 F2 (hb hby d_rma1_74)
  have k31 : Go p e below m W T31 77 #[.val (.ref a1), .val (.int p2), .val (.int (0 : Int32)), .val (.int (1 : Int32))] [(.ref b1)] := k31
  have k32 : Go p e below m W T31 78 #[.val (.ref a1), .val (.int p2), .val (.int (0 : Int32)), .val (.int (1 : Int32))] [(.int (0 : Int32)), (.ref b1)] := k31.iloadN X31 hx (hb hby d_rma1_77) rfl
  have k33 : Go p e below m W T31 98 #[.val (.ref a1), .val (.int p2), .val (.int (0 : Int32)), .val (.int (1 : Int32))] [(.ref a1), (.int (1 : Int32))] := (((k32.aaload (i := 0) (n := 1) X31 hx hZ e31 V1 rfl rfl (by decide) (by decide) rfl rfl (hb hby d_rma1_78)).nonnullYes X31 hx (hb hby d_rma1_79) rfl (fun q => by cases q) (by decide) (by decide)).iloadN X31 hx (hb hby d_rma1_96) rfl).aloadN X31 hx (hb hby d_rma1_97) rfl rfl
  obtain ⟨T34, X34, e34, k34⟩ := k33.getF X31 hx hZ hown (host := "") (Or.inl (hv 14 rfl)) Via.refl e31 F2 (hb hby d_rma1_98)
  have k34 : Go p e below m W T34 101 #[.val (.ref a1), .val (.int p2), .val (.int (0 : Int32)), .val (.int (1 : Int32))] [(.ref b1), (.int (1 : Int32))] := k34
  have k35 : Go p e below m W T34 102 #[.val (.ref a1), .val (.int p2), .val (.int (0 : Int32)), .val (.int (1 : Int32))] [(.int (0 : Int32)), (.ref b1), (.int (1 : Int32))] := k34.iloadN X34 hx (hb hby d_rma1_101) rfl
  have k36 : Go p e below m W T34 103 #[.val (.ref a1), .val (.int p2), .val (.int (0 : Int32)), .val (.int (1 : Int32))] [(.ref c1), (.int (1 : Int32))] := k35.aaload (i := 0) (n := 1) X34 hx hZ e34 V1 rfl rfl (by decide) (by decide) rfl rfl (hb hby d_rma1_102)
  have k37 : Go p e below m W T34 126 #[.val (.ref a1), .val (.int p2), .val (.int (0 : Int32)), .val (.int (1 : Int32))] [(.ref a1)] := ((k36.arraylength X34 hx hZ e34 V2 (hb hby d_rma1_103)).icmpYes X34 hx (hb hby d_rma1_104) (XT.ii_ne_t (by decide)) (by decide) (by decide)).aloadN X34 hx (hb hby d_rma1_125) rfl rfl
  obtain ⟨T38, X38, e38, k38⟩ := k37.getF X34 hx hZ hown (host := "") (Or.inl (hv 14 rfl)) Via.refl e34 F2 (hb hby d_rma1_126)
  have k38 : Go p e below m W T38 129 #[.val (.ref a1), .val (.int p2), .val (.int (0 : Int32)), .val (.int (1 : Int32))] [(.ref b1)] := k38
  have k39 : Go p e below m W T38 130 #[.val (.ref a1), .val (.int p2), .val (.int (0 : Int32)), .val (.int (1 : Int32))] [(.int (0 : Int32)), (.ref b1)] := k38.iloadN X38 hx (hb hby d_rma1_129) rfl
  have k40 : Go p e below m W T38 133 #[.val (.ref a1), .val (.int p2), .val (.int (0 : Int32)), .val (.int (1 : Int32))] [(.int p2), (.int (1 : Int32)), (.ref c1)] := ((k39.aaload (i := 0) (n := 1) X38 hx hZ e38 V1 rfl rfl (by decide) (by decide) rfl rfl (hb hby d_rma1_130)).iloadN X38 hx (hb hby d_rma1_131) rfl).iloadN X38 hx (hb hby d_rma1_132) rfl
  obtain ⟨T41, h41, l41, X41, e41, W41, V41, N41, k41⟩ := k40.iastore (i := 1) X38 hx hZ e38 V2 rfl rfl (by decide) (Nat.le_of_ble_eq_true rfl) N0 G3 (hb hby d_rma1_133)
  have k41 : Go p e below m W T41 134 #[.val (.ref a1), .val (.int p2), .val (.int (0 : Int32)), .val (.int (1 : Int32))] [] := k41
  have Z41 : n0 ≤ h41.size := (Wr.size W41).symm ▸ Z0
  have f42 := E1.wr W41
  have f43 := F1.other W41 (Or.inl n13)
  have f44 := F2.other W41 (Or.inl n13)
  have f45 := V1.other W41 n23
  have V41 : Arv Z h41 c1 k2 .int (16 : Int32) [(.int v0), (.int p2), (.int (0 : Int32)), (.int (0 : Int32)), (.int (0 : Int32)), (.int (0 : Int32)), (.int (0 : Int32)), (.int (0 : Int32)), (.int (0 : Int32)), (.int (0 : Int32)), (.int (0 : Int32)), (.int (0 : Int32)), (.int (0 : Int32)), (.int (0 : Int32)), (.int (0 : Int32)), (.int (0 : Int32))] (.int (0 : Int32)) := V41
  have K41 : Keep h0 h41 [a1, c1] := K0.wr W41 (Or.inl (List.mem_of_getElem? (i := 1) rfl))
  have k46 : Go p e below m W T41 136 #[.val (.ref a1), .val (.int p2), .val (.int (0 : Int32)), .val (.int (1 : Int32))] [(.ref a1), (.ref a1)] := (k41.aloadN X41 hx (hb hby d_rma1_134) rfl rfl).dup X41 hx (hb hby d_rma1_135) rfl
  obtain ⟨T47, X47, e47, k47⟩ := k46.getF X41 hx hZ hown (host := "") (Or.inl (hv 21 rfl)) Via.refl e41 f43 (hb hby d_rma1_136)
  have k47 : Go p e below m W T47 139 #[.val (.ref a1), .val (.int p2), .val (.int (0 : Int32)), .val (.int (1 : Int32))] [(.int (1 : Int32)), (.ref a1)] := k47
  have k48 : Go p e below m W T47 141 #[.val (.ref a1), .val (.int p2), .val (.int (0 : Int32)), .val (.int (1 : Int32))] [(.int (2 : Int32)), (.ref a1)] := ((k47.iconst X47 hx (hb hby d_rma1_139) (v := (1 : Int32)) rfl).iadd X47 hx (hb hby d_rma1_140)).cast (y := (2 : Int32)) (by decide)
  obtain ⟨T49, h49, l49, X49, e49, W49, N49, k49⟩ := k48.putF X47 hx hZ hown (host := "") (Or.inl (hv 21 rfl)) Via.refl e47 f43 f42 (Or.inl (hv 22 rfl)) (hv 2 rfl) (ty := .int) (by decide) rfl rfl N41 G1 (hb hby d_rma1_141)
  have k49 : Go p e below m W T49 144 #[.val (.ref a1), .val (.int p2), .val (.int (0 : Int32)), .val (.int (1 : Int32))] [] := k49
  have Z49 : n0 ≤ h49.size := (Wr.size W49).symm ▸ Z41
  have f50 := f42.wr W49
  have f51 := f43.same W49
  have f52 := f44.other W49 (Or.inr (slot_ne (Or.inl (hv 15 rfl)) (Or.inl (hv 22 rfl)) (by decide) (by decide : parseFieldDescriptor "[[I" = some (.array (.array .int))) (by decide : parseFieldDescriptor "I" = some .int)))
  have f53 := f45.other W49 (Ne.symm n12)
  have f54 := V41.other W49 (Ne.symm n13)
  have K49 : Keep h0 h49 [a1, c1] := K41.wr W49 (Or.inl (List.mem_of_getElem? (i := 0) rfl))
  exact k49.return_ X49 hx Bd.returns (hb hby d_rma1_144) (BodyLoose.notSynchronized Bd) (by rw [e49]; exact ⟨rfl, N49, K49, f50, f51, f52, f54⟩) (by decide) (by decide)

theorem d_rma2_0 : decode prog_56_method_4_code 0 = .ok (.aload_n 0, 1) := by decide +kernel
theorem d_rma2_1 : decode prog_56_method_4_code 1 = .ok (.getfield 20, 3) := by decide +kernel
theorem d_rma2_4 : decode prog_56_method_4_code 4 = .ok (.ldc 26, 2) := by decide +kernel
theorem d_rma2_6 : decode prog_56_method_4_code 6 = .ok (.if_icmp .ne 20, 3) := by decide +kernel
theorem d_rma2_26 : decode prog_56_method_4_code 26 = .ok (.aload_n 0, 1) := by decide +kernel
theorem d_rma2_27 : decode prog_56_method_4_code 27 = .ok (.getfield 20, 3) := by decide +kernel
theorem d_rma2_30 : decode prog_56_method_4_code 30 = .ok (.bipush 13, 2) := by decide +kernel
theorem d_rma2_32 : decode prog_56_method_4_code 32 = .ok (.iushr, 1) := by decide +kernel
theorem d_rma2_33 : decode prog_56_method_4_code 33 = .ok (.istore_n 2, 1) := by decide +kernel
theorem d_rma2_34 : decode prog_56_method_4_code 34 = .ok (.aload_n 0, 1) := by decide +kernel
theorem d_rma2_35 : decode prog_56_method_4_code 35 = .ok (.getfield 20, 3) := by decide +kernel
theorem d_rma2_38 : decode prog_56_method_4_code 38 = .ok (.sipush 8191, 3) := by decide +kernel
theorem d_rma2_41 : decode prog_56_method_4_code 41 = .ok (.iand, 1) := by decide +kernel
theorem d_rma2_42 : decode prog_56_method_4_code 42 = .ok (.istore_n 3, 1) := by decide +kernel
theorem d_rma2_43 : decode prog_56_method_4_code 43 = .ok (.iload_n 2, 1) := by decide +kernel
theorem d_rma2_44 : decode prog_56_method_4_code 44 = .ok (.aload_n 0, 1) := by decide +kernel
theorem d_rma2_45 : decode prog_56_method_4_code 45 = .ok (.getfield 11, 3) := by decide +kernel
theorem d_rma2_48 : decode prog_56_method_4_code 48 = .ok (.arraylength, 1) := by decide +kernel
theorem d_rma2_49 : decode prog_56_method_4_code 49 = .ok (.if_icmp .ne 24, 3) := by decide +kernel
theorem d_rma2_73 : decode prog_56_method_4_code 73 = .ok (.aload_n 0, 1) := by decide +kernel
theorem d_rma2_74 : decode prog_56_method_4_code 74 = .ok (.getfield 11, 3) := by decide +kernel
theorem d_rma2_77 : decode prog_56_method_4_code 77 = .ok (.iload_n 2, 1) := by decide +kernel
theorem d_rma2_78 : decode prog_56_method_4_code 78 = .ok (.aaload, 1) := by decide +kernel
theorem d_rma2_79 : decode prog_56_method_4_code 79 = .ok (.ifnonnull 17, 3) := by decide +kernel
theorem d_rma2_96 : decode prog_56_method_4_code 96 = .ok (.iload_n 3, 1) := by decide +kernel
theorem d_rma2_97 : decode prog_56_method_4_code 97 = .ok (.aload_n 0, 1) := by decide +kernel
theorem d_rma2_98 : decode prog_56_method_4_code 98 = .ok (.getfield 11, 3) := by decide +kernel
theorem d_rma2_101 : decode prog_56_method_4_code 101 = .ok (.iload_n 2, 1) := by decide +kernel
theorem d_rma2_102 : decode prog_56_method_4_code 102 = .ok (.aaload, 1) := by decide +kernel
theorem d_rma2_103 : decode prog_56_method_4_code 103 = .ok (.arraylength, 1) := by decide +kernel
theorem d_rma2_104 : decode prog_56_method_4_code 104 = .ok (.if_icmp .ne 21, 3) := by decide +kernel
theorem d_rma2_125 : decode prog_56_method_4_code 125 = .ok (.aload_n 0, 1) := by decide +kernel
theorem d_rma2_126 : decode prog_56_method_4_code 126 = .ok (.getfield 11, 3) := by decide +kernel
theorem d_rma2_129 : decode prog_56_method_4_code 129 = .ok (.iload_n 2, 1) := by decide +kernel
theorem d_rma2_130 : decode prog_56_method_4_code 130 = .ok (.aaload, 1) := by decide +kernel
theorem d_rma2_131 : decode prog_56_method_4_code 131 = .ok (.iload_n 3, 1) := by decide +kernel
theorem d_rma2_132 : decode prog_56_method_4_code 132 = .ok (.iload_n 1, 1) := by decide +kernel
theorem d_rma2_133 : decode prog_56_method_4_code 133 = .ok (.iastore, 1) := by decide +kernel
theorem d_rma2_134 : decode prog_56_method_4_code 134 = .ok (.aload_n 0, 1) := by decide +kernel
theorem d_rma2_135 : decode prog_56_method_4_code 135 = .ok (.dup, 1) := by decide +kernel
theorem d_rma2_136 : decode prog_56_method_4_code 136 = .ok (.getfield 20, 3) := by decide +kernel
theorem d_rma2_139 : decode prog_56_method_4_code 139 = .ok (.iconst 1, 1) := by decide +kernel
theorem d_rma2_140 : decode prog_56_method_4_code 140 = .ok (.iadd, 1) := by decide +kernel
theorem d_rma2_141 : decode prog_56_method_4_code 141 = .ok (.putfield 20, 3) := by decide +kernel
theorem d_rma2_144 : decode prog_56_method_4_code 144 = .ok (.return_, 1) := by decide +kernel
theorem pn_rma2 : plainName "com/example/guarantor/guarantor/lts/IntBlocks" = true := by first | (simp [plainName, overriddenIn]; done) | decide +kernel
theorem ef_rma2 (m : MethodId) (a1 : Addr) (p2 : Int32) : entryFrame m #[(.ref a1), (.int p2)] 4 = mkF m 0 #[.val (.ref a1), .val (.int p2), .unset, .unset] [] := by first | (simp [entryFrame, mkF, argsToLocals, Value.category]; done) | rfl
def Q_rma2 (Z : State) (a1 : Addr) (b1 : Addr) (c1 : Addr) (k1 : ClassId) (k2 : ClassId) (p2 : Int32) (v0 : Int32) (v1 : Int32) (h0 : Heap) (n0 : Nat) (v : Option Value) (h : Heap) (L : List Loc) : Prop := v = none ∧ Fr n0 L ∧ Keep h0 h [a1, c1] ∧ Exa Z h a1 "com/example/guarantor/guarantor/lts/IntBlocks" ∧ Fld Z h a1 "com/example/guarantor/guarantor/lts/IntBlocks" "size" "I" (.int (3 : Int32)) ∧ Fld Z h a1 "com/example/guarantor/guarantor/lts/IntBlocks" "blocks" "[[I" (.ref b1) ∧ Arv Z h c1 k2 .int (16 : Int32) [(.int v0), (.int v1), (.int p2), (.int (0 : Int32)), (.int (0 : Int32)), (.int (0 : Int32)), (.int (0 : Int32)), (.int (0 : Int32)), (.int (0 : Int32)), (.int (0 : Int32)), (.int (0 : Int32)), (.int (0 : Int32)), (.int (0 : Int32)), (.int (0 : Int32)), (.int (0 : Int32)), (.int (0 : Int32))] (.int (0 : Int32))
set_option maxRecDepth 65536 in
set_option maxHeartbeats 40000000 in
theorem rma2 (l : Launch) (Z : State) (a0 : Array Value) (hw : ∀ d ∈ tables_1, d.before a0 Z = true) (ws : List Jvm.Cond) (a1 : Addr) (b1 : Addr) (c1 : Addr) (k1 : ClassId) (k2 : ClassId) (p2 : Int32) (v0 : Int32) (v1 : Int32) (h0 : Heap) (n0 : Nat) (Z0 : n0 ≤ h0.size) (E1 : Exa Z h0 a1 "com/example/guarantor/guarantor/lts/IntBlocks") (F1 : Fld Z h0 a1 "com/example/guarantor/guarantor/lts/IntBlocks" "size" "I" (.int (2 : Int32))) (F2 : Fld Z h0 a1 "com/example/guarantor/guarantor/lts/IntBlocks" "blocks" "[[I" (.ref b1)) (V1 : Arv Z h0 b1 k1 (.array .int) (1 : Int32) [(.ref c1)] .null) (V2 : Arv Z h0 c1 k2 .int (16 : Int32) [(.int v0), (.int v1), (.int (0 : Int32)), (.int (0 : Int32)), (.int (0 : Int32)), (.int (0 : Int32)), (.int (0 : Int32)), (.int (0 : Int32)), (.int (0 : Int32)), (.int (0 : Int32)), (.int (0 : Int32)), (.int (0 : Int32)), (.int (0 : Int32)), (.int (0 : Int32)), (.int (0 : Int32)), (.int (0 : Int32))] (.int (0 : Int32))) (G1 : n0 ≤ a1) (G3 : n0 ≤ c1) (n12 : a1 ≠ b1) (n13 : a1 ≠ c1) (n23 : b1 ≠ c1) :
    MetFree l (⟨"com/example/guarantor/guarantor/lts/IntBlocks", "add", "(I)V"⟩ : MethodName) (head1 (Jvm.Cond.code (⟨"com/example/guarantor/guarantor/lts/IntBlocks", "add", "(I)V"⟩ : MethodName) prog_56_method_4_code 4 none :: ws) ({ frames := 0, cells := 0, slots := 0, locals := 0 } : Room)) (fun a U => a = #[(.ref a1), (.int p2)] ∧ Z.Warmed39 U.vm ∧ U.heap = h0) (fun _ _ _ _ _ => True) (fun _ U o U' => ∃ v L, o = .returned v ∧ Q_rma2 Z a1 b1 c1 k1 k2 p2 v0 v1 h0 n0 v U'.heap L ∧ FrameEnd U o U' L ({ frames := 0, cells := 0, slots := 0, locals := 0 } : Room).cells ({ frames := 0, cells := 0, slots := 0, locals := 0 } : Room).slots) := by
  refine MetFree.of_bodySF (plainFor_of_name pn_rma2) hisR ?_
  intro p e s m args_ below meth c s₁ Bd hml0 hP hK
  obtain ⟨hargs, hZ, hh⟩ := hP
  have hx := Bd.exec
  have hby := Bd.bytes
  have hml : c.maxLocals = 4 := hml0
  have hown : s.vm.findClass "com/example/guarantor/guarantor/lts/IntBlocks" = some m.cls := findClass_of_methodNamed Bd.named
  have hnm := (name_of_methodNamed Bd.named Bd.method).1
  have X0 : Stand p l e ({ frames := 0, cells := 0, slots := 0, locals := 0 } : Room) s m args_ below meth c s₁ [] 0 0 := Stand.of_body Bd
  have e0 : s₁.heap = h0 := by rw [← hh, Bd.state]; rfl
  have N0 := Fr.nil n0
  have hv : ∀ (i : Nat) {d : Jvm.Cond}, tables_1[i]? = some d → d.before a0 Z = true := fun i d q => hw d (List.mem_of_getElem? q)
  have K0 : Keep h0 h0 [a1, c1] := Keep.refl _ _
  have k0 : Go p e below m (s₁.setTop (entryFrame m args_ 4)) s₁ 0 #[.val (.ref a1), .val (.int p2), .unset, .unset] [] := by rw [hargs]; exact fun t kt => castTop (ef_rma2 m a1 p2) kt
  obtain ⟨W, hWW⟩ : ∃ W, W = s₁.setTop (entryFrame m args_ 4) := ⟨_, rfl⟩
  rw [← hWW] at k0 ⊢
  show Done p e below s W (Q_rma2 Z a1 b1 c1 k1 k2 p2 v0 v1 h0 n0) ({ frames := 0, cells := 0, slots := 0, locals := 0 } : Room).cells ({ frames := 0, cells := 0, slots := 0, locals := 0 } : Room).slots
  have k20 : Go p e below m W s₁ 1 #[.val (.ref a1), .val (.int p2), .unset, .unset] [(.ref a1)] := k0.aloadN X0 hx (hb hby d_rma2_0) rfl rfl
  obtain ⟨T21, X21, e21, k21⟩ := k20.getF X0 hx hZ hown (host := "") (Or.inl (hv 21 rfl)) Via.refl e0 F1 (hb hby d_rma2_1)
  have k21 : Go p e below m W T21 4 #[.val (.ref a1), .val (.int p2), .unset, .unset] [(.int (2 : Int32))] := k21
  have k22 : Go p e below m W T21 27 #[.val (.ref a1), .val (.int p2), .unset, .unset] [(.ref a1)] := ((k21.ldcI X21 hx hZ hown (hv 23 rfl) (hb hby d_rma2_4)).icmpYes X21 hx (hb hby d_rma2_6) (XT.ii_ne_t (by decide)) (by decide) (by decide)).aloadN X21 hx (hb hby d_rma2_26) rfl rfl
  obtain ⟨T23, X23, e23, k23⟩ := k22.getF X21 hx hZ hown (host := "") (Or.inl (hv 21 rfl)) Via.refl e21 F1 (hb hby d_rma2_27)
  have k23 : Go p e below m W T23 30 #[.val (.ref a1), .val (.int p2), .unset, .unset] [(.int (2 : Int32))] := k23
  have k24 : Go p e below m W T23 34 #[.val (.ref a1), .val (.int p2), .val (.int (0 : Int32)), .unset] [] := (((k23.bipush X23 hx (hb hby d_rma2_30) (v := (13 : Int32)) rfl).iushr X23 hx (hb hby d_rma2_32)).cast (y := (0 : Int32)) (by decide)).istoreN X23 hx (hb hby d_rma2_33) rfl
  have k25 : Go p e below m W T23 35 #[.val (.ref a1), .val (.int p2), .val (.int (0 : Int32)), .unset] [(.ref a1)] := k24.aloadN X23 hx (hb hby d_rma2_34) rfl rfl
  obtain ⟨T26, X26, e26, k26⟩ := k25.getF X23 hx hZ hown (host := "") (Or.inl (hv 21 rfl)) Via.refl e23 F1 (hb hby d_rma2_35)
  have k26 : Go p e below m W T26 38 #[.val (.ref a1), .val (.int p2), .val (.int (0 : Int32)), .unset] [(.int (2 : Int32))] := k26
  have k27 : Go p e below m W T26 43 #[.val (.ref a1), .val (.int p2), .val (.int (0 : Int32)), .val (.int (2 : Int32))] [] := (((k26.sipush X26 hx (hb hby d_rma2_38) (v := (8191 : Int32)) rfl).iand X26 hx (hb hby d_rma2_41)).cast (y := (2 : Int32)) (by decide)).istoreN X26 hx (hb hby d_rma2_42) rfl
  have k28 : Go p e below m W T26 45 #[.val (.ref a1), .val (.int p2), .val (.int (0 : Int32)), .val (.int (2 : Int32))] [(.ref a1), (.int (0 : Int32))] := (k27.iloadN X26 hx (hb hby d_rma2_43) rfl).aloadN X26 hx (hb hby d_rma2_44) rfl rfl
  obtain ⟨T29, X29, e29, k29⟩ := k28.getF X26 hx hZ hown (host := "") (Or.inl (hv 14 rfl)) Via.refl e26 F2 (hb hby d_rma2_45)
  have k29 : Go p e below m W T29 48 #[.val (.ref a1), .val (.int p2), .val (.int (0 : Int32)), .val (.int (2 : Int32))] [(.ref b1), (.int (0 : Int32))] := k29
  have k30 : Go p e below m W T29 74 #[.val (.ref a1), .val (.int p2), .val (.int (0 : Int32)), .val (.int (2 : Int32))] [(.ref a1)] := ((k29.arraylength X29 hx hZ e29 V1 (hb hby d_rma2_48)).icmpYes X29 hx (hb hby d_rma2_49) (XT.ii_ne_t (by decide)) (by decide) (by decide)).aloadN X29 hx (hb hby d_rma2_73) rfl rfl
  obtain ⟨T31, X31, e31, k31⟩ := k30.getF X29 hx hZ hown (host := "") (Or.inl (hv 14 rfl)) Via.refl e29 F2 (hb hby d_rma2_74)
  have k31 : Go p e below m W T31 77 #[.val (.ref a1), .val (.int p2), .val (.int (0 : Int32)), .val (.int (2 : Int32))] [(.ref b1)] := k31
  have k32 : Go p e below m W T31 78 #[.val (.ref a1), .val (.int p2), .val (.int (0 : Int32)), .val (.int (2 : Int32))] [(.int (0 : Int32)), (.ref b1)] := k31.iloadN X31 hx (hb hby d_rma2_77) rfl
  have k33 : Go p e below m W T31 98 #[.val (.ref a1), .val (.int p2), .val (.int (0 : Int32)), .val (.int (2 : Int32))] [(.ref a1), (.int (2 : Int32))] := (((k32.aaload (i := 0) (n := 1) X31 hx hZ e31 V1 rfl rfl (by decide) (by decide) rfl rfl (hb hby d_rma2_78)).nonnullYes X31 hx (hb hby d_rma2_79) rfl (fun q => by cases q) (by decide) (by decide)).iloadN X31 hx (hb hby d_rma2_96) rfl).aloadN X31 hx (hb hby d_rma2_97) rfl rfl
  obtain ⟨T34, X34, e34, k34⟩ := k33.getF X31 hx hZ hown (host := "") (Or.inl (hv 14 rfl)) Via.refl e31 F2 (hb hby d_rma2_98)
  have k34 : Go p e below m W T34 101 #[.val (.ref a1), .val (.int p2), .val (.int (0 : Int32)), .val (.int (2 : Int32))] [(.ref b1), (.int (2 : Int32))] := k34
  have k35 : Go p e below m W T34 102 #[.val (.ref a1), .val (.int p2), .val (.int (0 : Int32)), .val (.int (2 : Int32))] [(.int (0 : Int32)), (.ref b1), (.int (2 : Int32))] := k34.iloadN X34 hx (hb hby d_rma2_101) rfl
  have k36 : Go p e below m W T34 103 #[.val (.ref a1), .val (.int p2), .val (.int (0 : Int32)), .val (.int (2 : Int32))] [(.ref c1), (.int (2 : Int32))] := k35.aaload (i := 0) (n := 1) X34 hx hZ e34 V1 rfl rfl (by decide) (by decide) rfl rfl (hb hby d_rma2_102)
  have k37 : Go p e below m W T34 126 #[.val (.ref a1), .val (.int p2), .val (.int (0 : Int32)), .val (.int (2 : Int32))] [(.ref a1)] := ((k36.arraylength X34 hx hZ e34 V2 (hb hby d_rma2_103)).icmpYes X34 hx (hb hby d_rma2_104) (XT.ii_ne_t (by decide)) (by decide) (by decide)).aloadN X34 hx (hb hby d_rma2_125) rfl rfl
  obtain ⟨T38, X38, e38, k38⟩ := k37.getF X34 hx hZ hown (host := "") (Or.inl (hv 14 rfl)) Via.refl e34 F2 (hb hby d_rma2_126)
  have k38 : Go p e below m W T38 129 #[.val (.ref a1), .val (.int p2), .val (.int (0 : Int32)), .val (.int (2 : Int32))] [(.ref b1)] := k38
  have k39 : Go p e below m W T38 130 #[.val (.ref a1), .val (.int p2), .val (.int (0 : Int32)), .val (.int (2 : Int32))] [(.int (0 : Int32)), (.ref b1)] := k38.iloadN X38 hx (hb hby d_rma2_129) rfl
  have k40 : Go p e below m W T38 133 #[.val (.ref a1), .val (.int p2), .val (.int (0 : Int32)), .val (.int (2 : Int32))] [(.int p2), (.int (2 : Int32)), (.ref c1)] := ((k39.aaload (i := 0) (n := 1) X38 hx hZ e38 V1 rfl rfl (by decide) (by decide) rfl rfl (hb hby d_rma2_130)).iloadN X38 hx (hb hby d_rma2_131) rfl).iloadN X38 hx (hb hby d_rma2_132) rfl
  obtain ⟨T41, h41, l41, X41, e41, W41, V41, N41, k41⟩ := k40.iastore (i := 2) X38 hx hZ e38 V2 rfl rfl (by decide) (Nat.le_of_ble_eq_true rfl) N0 G3 (hb hby d_rma2_133)
  have k41 : Go p e below m W T41 134 #[.val (.ref a1), .val (.int p2), .val (.int (0 : Int32)), .val (.int (2 : Int32))] [] := k41
  have Z41 : n0 ≤ h41.size := (Wr.size W41).symm ▸ Z0
  have f42 := E1.wr W41
  have f43 := F1.other W41 (Or.inl n13)
  have f44 := F2.other W41 (Or.inl n13)
  have f45 := V1.other W41 n23
  have V41 : Arv Z h41 c1 k2 .int (16 : Int32) [(.int v0), (.int v1), (.int p2), (.int (0 : Int32)), (.int (0 : Int32)), (.int (0 : Int32)), (.int (0 : Int32)), (.int (0 : Int32)), (.int (0 : Int32)), (.int (0 : Int32)), (.int (0 : Int32)), (.int (0 : Int32)), (.int (0 : Int32)), (.int (0 : Int32)), (.int (0 : Int32)), (.int (0 : Int32))] (.int (0 : Int32)) := V41
  have K41 : Keep h0 h41 [a1, c1] := K0.wr W41 (Or.inl (List.mem_of_getElem? (i := 1) rfl))
  have k46 : Go p e below m W T41 136 #[.val (.ref a1), .val (.int p2), .val (.int (0 : Int32)), .val (.int (2 : Int32))] [(.ref a1), (.ref a1)] := (k41.aloadN X41 hx (hb hby d_rma2_134) rfl rfl).dup X41 hx (hb hby d_rma2_135) rfl
  obtain ⟨T47, X47, e47, k47⟩ := k46.getF X41 hx hZ hown (host := "") (Or.inl (hv 21 rfl)) Via.refl e41 f43 (hb hby d_rma2_136)
  have k47 : Go p e below m W T47 139 #[.val (.ref a1), .val (.int p2), .val (.int (0 : Int32)), .val (.int (2 : Int32))] [(.int (2 : Int32)), (.ref a1)] := k47
  have k48 : Go p e below m W T47 141 #[.val (.ref a1), .val (.int p2), .val (.int (0 : Int32)), .val (.int (2 : Int32))] [(.int (3 : Int32)), (.ref a1)] := ((k47.iconst X47 hx (hb hby d_rma2_139) (v := (1 : Int32)) rfl).iadd X47 hx (hb hby d_rma2_140)).cast (y := (3 : Int32)) (by decide)
  obtain ⟨T49, h49, l49, X49, e49, W49, N49, k49⟩ := k48.putF X47 hx hZ hown (host := "") (Or.inl (hv 21 rfl)) Via.refl e47 f43 f42 (Or.inl (hv 22 rfl)) (hv 2 rfl) (ty := .int) (by decide) rfl rfl N41 G1 (hb hby d_rma2_141)
  have k49 : Go p e below m W T49 144 #[.val (.ref a1), .val (.int p2), .val (.int (0 : Int32)), .val (.int (2 : Int32))] [] := k49
  have Z49 : n0 ≤ h49.size := (Wr.size W49).symm ▸ Z41
  have f50 := f42.wr W49
  have f51 := f43.same W49
  have f52 := f44.other W49 (Or.inr (slot_ne (Or.inl (hv 15 rfl)) (Or.inl (hv 22 rfl)) (by decide) (by decide : parseFieldDescriptor "[[I" = some (.array (.array .int))) (by decide : parseFieldDescriptor "I" = some .int)))
  have f53 := f45.other W49 (Ne.symm n12)
  have f54 := V41.other W49 (Ne.symm n13)
  have K49 : Keep h0 h49 [a1, c1] := K41.wr W49 (Or.inl (List.mem_of_getElem? (i := 0) rfl))
  exact k49.return_ X49 hx Bd.returns (hb hby d_rma2_144) (BodyLoose.notSynchronized Bd) (by rw [e49]; exact ⟨rfl, N49, K49, f50, f51, f52, f54⟩) (by decide) (by decide)

theorem d_rms10_0 : decode prog_56_method_6_code 0 = .ok (.iload_n 1, 1) := by decide +kernel
theorem d_rms10_1 : decode prog_56_method_6_code 1 = .ok (.aload_n 0, 1) := by decide +kernel
theorem d_rms10_2 : decode prog_56_method_6_code 2 = .ok (.getfield 20, 3) := by decide +kernel
theorem d_rms10_5 : decode prog_56_method_6_code 5 = .ok (.invokestatic 46, 3) := by decide +kernel
theorem d_rms10_8 : decode prog_56_method_6_code 8 = .ok (.pop, 1) := by decide +kernel
theorem d_rms10_9 : decode prog_56_method_6_code 9 = .ok (.aload_n 0, 1) := by decide +kernel
theorem d_rms10_10 : decode prog_56_method_6_code 10 = .ok (.getfield 11, 3) := by decide +kernel
theorem d_rms10_13 : decode prog_56_method_6_code 13 = .ok (.iload_n 1, 1) := by decide +kernel
theorem d_rms10_14 : decode prog_56_method_6_code 14 = .ok (.bipush 13, 2) := by decide +kernel
theorem d_rms10_16 : decode prog_56_method_6_code 16 = .ok (.iushr, 1) := by decide +kernel
theorem d_rms10_17 : decode prog_56_method_6_code 17 = .ok (.aaload, 1) := by decide +kernel
theorem d_rms10_18 : decode prog_56_method_6_code 18 = .ok (.iload_n 1, 1) := by decide +kernel
theorem d_rms10_19 : decode prog_56_method_6_code 19 = .ok (.sipush 8191, 3) := by decide +kernel
theorem d_rms10_22 : decode prog_56_method_6_code 22 = .ok (.iand, 1) := by decide +kernel
theorem d_rms10_23 : decode prog_56_method_6_code 23 = .ok (.iload_n 2, 1) := by decide +kernel
theorem d_rms10_24 : decode prog_56_method_6_code 24 = .ok (.iastore, 1) := by decide +kernel
theorem d_rms10_25 : decode prog_56_method_6_code 25 = .ok (.return_, 1) := by decide +kernel
theorem pn_rms10 : plainName "com/example/guarantor/guarantor/lts/IntBlocks" = true := by first | (simp [plainName, overriddenIn]; done) | decide +kernel
theorem pd_rms10_0 : parseMethodDescriptor "(II)I" = some ⟨[.int, .int], (some .int)⟩ := by decide +kernel
theorem ef_rms10 (m : MethodId) (a1 : Addr) (p2 : Int32) : entryFrame m #[(.ref a1), (.int (0 : Int32)), (.int p2)] 3 = mkF m 0 #[.val (.ref a1), .val (.int (0 : Int32)), .val (.int p2)] [] := by first | (simp [entryFrame, mkF, argsToLocals, Value.category]; done) | rfl
def Q_rms10 (Z : State) (a1 : Addr) (b1 : Addr) (c1 : Addr) (k1 : ClassId) (k2 : ClassId) (p2 : Int32) (v0 : Int32) (h0 : Heap) (n0 : Nat) (v : Option Value) (h : Heap) (L : List Loc) : Prop := v = none ∧ Fr n0 L ∧ Keep h0 h [c1] ∧ Arv Z h c1 k2 .int (16 : Int32) [(.int p2), (.int (0 : Int32)), (.int (0 : Int32)), (.int (0 : Int32)), (.int (0 : Int32)), (.int (0 : Int32)), (.int (0 : Int32)), (.int (0 : Int32)), (.int (0 : Int32)), (.int (0 : Int32)), (.int (0 : Int32)), (.int (0 : Int32)), (.int (0 : Int32)), (.int (0 : Int32)), (.int (0 : Int32)), (.int (0 : Int32))] (.int (0 : Int32))
set_option maxRecDepth 65536 in
set_option maxHeartbeats 40000000 in
theorem rms10 (l : Launch) (Z : State) (a0 : Array Value) (hw : ∀ d ∈ tables_1, d.before a0 Z = true) (ws : List Jvm.Cond) (a1 : Addr) (b1 : Addr) (c1 : Addr) (k1 : ClassId) (k2 : ClassId) (p2 : Int32) (v0 : Int32) (h0 : Heap) (n0 : Nat) (Z0 : n0 ≤ h0.size) (E1 : Exa Z h0 a1 "com/example/guarantor/guarantor/lts/IntBlocks") (F1 : Fld Z h0 a1 "com/example/guarantor/guarantor/lts/IntBlocks" "size" "I" (.int (1 : Int32))) (F2 : Fld Z h0 a1 "com/example/guarantor/guarantor/lts/IntBlocks" "blocks" "[[I" (.ref b1)) (V1 : Arv Z h0 b1 k1 (.array .int) (1 : Int32) [(.ref c1)] .null) (V2 : Arv Z h0 c1 k2 .int (16 : Int32) [(.int v0), (.int (0 : Int32)), (.int (0 : Int32)), (.int (0 : Int32)), (.int (0 : Int32)), (.int (0 : Int32)), (.int (0 : Int32)), (.int (0 : Int32)), (.int (0 : Int32)), (.int (0 : Int32)), (.int (0 : Int32)), (.int (0 : Int32)), (.int (0 : Int32)), (.int (0 : Int32)), (.int (0 : Int32)), (.int (0 : Int32))] (.int (0 : Int32))) (G1 : n0 ≤ a1) (G3 : n0 ≤ c1) (n12 : a1 ≠ b1) (n13 : a1 ≠ c1) (n23 : b1 ≠ c1) :
    MetFree l (⟨"com/example/guarantor/guarantor/lts/IntBlocks", "set", "(II)V"⟩ : MethodName) (head1 (Jvm.Cond.code (⟨"com/example/guarantor/guarantor/lts/IntBlocks", "set", "(II)V"⟩ : MethodName) prog_56_method_6_code 3 none :: ws) ({ frames := 2, cells := 0, slots := 0, locals := 27 } : Room)) (fun a U => a = #[(.ref a1), (.int (0 : Int32)), (.int p2)] ∧ Z.Warmed39 U.vm ∧ U.heap = h0) (fun _ _ _ _ _ => True) (fun _ U o U' => ∃ v L, o = .returned v ∧ Q_rms10 Z a1 b1 c1 k1 k2 p2 v0 h0 n0 v U'.heap L ∧ FrameEnd U o U' L ({ frames := 2, cells := 0, slots := 0, locals := 27 } : Room).cells ({ frames := 2, cells := 0, slots := 0, locals := 27 } : Room).slots) := by
  refine MetFree.of_bodySF (plainFor_of_name pn_rms10) hisR ?_
  intro p e s m args_ below meth c s₁ Bd hml0 hP hK
  obtain ⟨hargs, hZ, hh⟩ := hP
  have hx := Bd.exec
  have hby := Bd.bytes
  have hml : c.maxLocals = 3 := hml0
  have hown : s.vm.findClass "com/example/guarantor/guarantor/lts/IntBlocks" = some m.cls := findClass_of_methodNamed Bd.named
  have hnm := (name_of_methodNamed Bd.named Bd.method).1
  have X0 : Stand p l e ({ frames := 2, cells := 0, slots := 0, locals := 27 } : Room) s m args_ below meth c s₁ [] 0 0 := Stand.of_body Bd
  have e0 : s₁.heap = h0 := by rw [← hh, Bd.state]; rfl
  have N0 := Fr.nil n0
  have hv : ∀ (i : Nat) {d : Jvm.Cond}, tables_1[i]? = some d → d.before a0 Z = true := fun i d q => hw d (List.mem_of_getElem? q)
  have K0 : Keep h0 h0 [c1] := Keep.refl _ _
  have k0 : Go p e below m (s₁.setTop (entryFrame m args_ 3)) s₁ 0 #[.val (.ref a1), .val (.int (0 : Int32)), .val (.int p2)] [] := by rw [hargs]; exact fun t kt => castTop (ef_rms10 m a1 p2) kt
  obtain ⟨W, hWW⟩ : ∃ W, W = s₁.setTop (entryFrame m args_ 3) := ⟨_, rfl⟩
  rw [← hWW] at k0 ⊢
  show Done p e below s W (Q_rms10 Z a1 b1 c1 k1 k2 p2 v0 h0 n0) ({ frames := 2, cells := 0, slots := 0, locals := 27 } : Room).cells ({ frames := 2, cells := 0, slots := 0, locals := 27 } : Room).slots
  have k20 : Go p e below m W s₁ 2 #[.val (.ref a1), .val (.int (0 : Int32)), .val (.int p2)] [(.ref a1), (.int (0 : Int32))] := (k0.iloadN X0 hx (hb hby d_rms10_0) rfl).aloadN X0 hx (hb hby d_rms10_1) rfl rfl
  obtain ⟨T21, X21, e21, k21⟩ := k20.getF X0 hx hZ hown (host := "") (Or.inl (hv 21 rfl)) Via.refl e0 F1 (hb hby d_rms10_2)
  have k21 : Go p e below m W T21 5 #[.val (.ref a1), .val (.int (0 : Int32)), .val (.int p2)] [(.int (1 : Int32)), (.int (0 : Int32))] := k21
  obtain ⟨T22, v22, L22, X22, Q22, k22⟩ := k21.stat (y := (⟨"java/util/Objects", "checkIndex", "(II)I"⟩ : MethodName)) (Wd := 0) (cells' := 0) (slots' := 0) (argsL := [(.int (0 : Int32)), (.int (1 : Int32))]) (rest := []) X21 hx hZ hown (by rw [hml]; rfl) (hv 29 rfl) (hv 30 rfl) (hv 32 rfl) (hv 31 rfl) (hb hby d_rms10_5) (by decide) (rmo l Z a0 hw [] (0 : Int32) (1 : Int32) h0 n0 Z0 (by decide) (by decide)) e21 rfl rfl pd_rms10_0 rfl (Nat.le_of_eq rfl) (by decide) (by decide) rfl rfl (by decide) (by decide)
  obtain ⟨rfl, Nq22, e22q⟩ := Q22
  have N22 := Fr.app N0 Nq22
  have e22 : T22.heap = h0 := e22q
  have k22 : Go p e below m W T22 8 #[.val (.ref a1), .val (.int (0 : Int32)), .val (.int p2)] [(.int (0 : Int32))] := k22
  have k23 : Go p e below m W T22 10 #[.val (.ref a1), .val (.int (0 : Int32)), .val (.int p2)] [(.ref a1)] := (k22.pop X22 hx (hb hby d_rms10_8) rfl).aloadN X22 hx (hb hby d_rms10_9) rfl rfl
  obtain ⟨T24, X24, e24, k24⟩ := k23.getF X22 hx hZ hown (host := "") (Or.inl (hv 14 rfl)) Via.refl e22 F2 (hb hby d_rms10_10)
  have k24 : Go p e below m W T24 13 #[.val (.ref a1), .val (.int (0 : Int32)), .val (.int p2)] [(.ref b1)] := k24
  have k25 : Go p e below m W T24 17 #[.val (.ref a1), .val (.int (0 : Int32)), .val (.int p2)] [(.int (0 : Int32)), (.ref b1)] := (((k24.iloadN X24 hx (hb hby d_rms10_13) rfl).bipush X24 hx (hb hby d_rms10_14) (v := (13 : Int32)) rfl).iushr X24 hx (hb hby d_rms10_16)).cast (y := (0 : Int32)) (by decide)
  have k26 : Go p e below m W T24 24 #[.val (.ref a1), .val (.int (0 : Int32)), .val (.int p2)] [(.int p2), (.int (0 : Int32)), (.ref c1)] := (((((k25.aaload (i := 0) (n := 1) X24 hx hZ e24 V1 rfl rfl (by decide) (by decide) rfl rfl (hb hby d_rms10_17)).iloadN X24 hx (hb hby d_rms10_18) rfl).sipush X24 hx (hb hby d_rms10_19) (v := (8191 : Int32)) rfl).iand X24 hx (hb hby d_rms10_22)).cast (y := (0 : Int32)) (by decide)).iloadN X24 hx (hb hby d_rms10_23) rfl
  obtain ⟨T27, h27, l27, X27, e27, W27, V27, N27, k27⟩ := k26.iastore (i := 0) X24 hx hZ e24 V2 rfl rfl (by decide) (Nat.le_of_ble_eq_true rfl) N22 G3 (hb hby d_rms10_24)
  have k27 : Go p e below m W T27 25 #[.val (.ref a1), .val (.int (0 : Int32)), .val (.int p2)] [] := k27
  have Z27 : n0 ≤ h27.size := (Wr.size W27).symm ▸ Z0
  have f28 := E1.wr W27
  have f29 := F1.other W27 (Or.inl n13)
  have f30 := F2.other W27 (Or.inl n13)
  have f31 := V1.other W27 n23
  have V27 : Arv Z h27 c1 k2 .int (16 : Int32) [(.int p2), (.int (0 : Int32)), (.int (0 : Int32)), (.int (0 : Int32)), (.int (0 : Int32)), (.int (0 : Int32)), (.int (0 : Int32)), (.int (0 : Int32)), (.int (0 : Int32)), (.int (0 : Int32)), (.int (0 : Int32)), (.int (0 : Int32)), (.int (0 : Int32)), (.int (0 : Int32)), (.int (0 : Int32)), (.int (0 : Int32))] (.int (0 : Int32)) := V27
  have K27 : Keep h0 h27 [c1] := K0.wr W27 (Or.inl (List.mem_of_getElem? (i := 0) rfl))
  exact k27.return_ X27 hx Bd.returns (hb hby d_rms10_25) (BodyLoose.notSynchronized Bd) (by rw [e27]; exact ⟨rfl, N27, K27, V27⟩) (by decide) (by decide)

theorem d_rmg10_0 : decode prog_56_method_5_code 0 = .ok (.iload_n 1, 1) := by decide +kernel
theorem d_rmg10_1 : decode prog_56_method_5_code 1 = .ok (.aload_n 0, 1) := by decide +kernel
theorem d_rmg10_2 : decode prog_56_method_5_code 2 = .ok (.getfield 20, 3) := by decide +kernel
theorem d_rmg10_5 : decode prog_56_method_5_code 5 = .ok (.invokestatic 46, 3) := by decide +kernel
theorem d_rmg10_8 : decode prog_56_method_5_code 8 = .ok (.pop, 1) := by decide +kernel
theorem d_rmg10_9 : decode prog_56_method_5_code 9 = .ok (.aload_n 0, 1) := by decide +kernel
theorem d_rmg10_10 : decode prog_56_method_5_code 10 = .ok (.getfield 11, 3) := by decide +kernel
theorem d_rmg10_13 : decode prog_56_method_5_code 13 = .ok (.iload_n 1, 1) := by decide +kernel
theorem d_rmg10_14 : decode prog_56_method_5_code 14 = .ok (.bipush 13, 2) := by decide +kernel
theorem d_rmg10_16 : decode prog_56_method_5_code 16 = .ok (.iushr, 1) := by decide +kernel
theorem d_rmg10_17 : decode prog_56_method_5_code 17 = .ok (.aaload, 1) := by decide +kernel
theorem d_rmg10_18 : decode prog_56_method_5_code 18 = .ok (.iload_n 1, 1) := by decide +kernel
theorem d_rmg10_19 : decode prog_56_method_5_code 19 = .ok (.sipush 8191, 3) := by decide +kernel
theorem d_rmg10_22 : decode prog_56_method_5_code 22 = .ok (.iand, 1) := by decide +kernel
theorem d_rmg10_23 : decode prog_56_method_5_code 23 = .ok (.iaload, 1) := by decide +kernel
theorem d_rmg10_24 : decode prog_56_method_5_code 24 = .ok (.ireturn, 1) := by decide +kernel
theorem pn_rmg10 : plainName "com/example/guarantor/guarantor/lts/IntBlocks" = true := by first | (simp [plainName, overriddenIn]; done) | decide +kernel
theorem pd_rmg10_0 : parseMethodDescriptor "(II)I" = some ⟨[.int, .int], (some .int)⟩ := by decide +kernel
theorem ef_rmg10 (m : MethodId) (a1 : Addr) : entryFrame m #[(.ref a1), (.int (0 : Int32))] 2 = mkF m 0 #[.val (.ref a1), .val (.int (0 : Int32))] [] := by first | (simp [entryFrame, mkF, argsToLocals, Value.category]; done) | rfl
def Q_rmg10 (Z : State) (a1 : Addr) (b1 : Addr) (c1 : Addr) (k1 : ClassId) (k2 : ClassId) (v0 : Int32) (h0 : Heap) (n0 : Nat) (v : Option Value) (h : Heap) (L : List Loc) : Prop := v = some (.int v0) ∧ Fr n0 L ∧ h = h0
set_option maxRecDepth 65536 in
set_option maxHeartbeats 40000000 in
theorem rmg10 (l : Launch) (Z : State) (a0 : Array Value) (hw : ∀ d ∈ tables_1, d.before a0 Z = true) (ws : List Jvm.Cond) (a1 : Addr) (b1 : Addr) (c1 : Addr) (k1 : ClassId) (k2 : ClassId) (v0 : Int32) (h0 : Heap) (n0 : Nat) (Z0 : n0 ≤ h0.size) (E1 : Exa Z h0 a1 "com/example/guarantor/guarantor/lts/IntBlocks") (F1 : Fld Z h0 a1 "com/example/guarantor/guarantor/lts/IntBlocks" "size" "I" (.int (1 : Int32))) (F2 : Fld Z h0 a1 "com/example/guarantor/guarantor/lts/IntBlocks" "blocks" "[[I" (.ref b1)) (V1 : Arv Z h0 b1 k1 (.array .int) (1 : Int32) [(.ref c1)] .null) (V2 : Arv Z h0 c1 k2 .int (16 : Int32) [(.int v0), (.int (0 : Int32)), (.int (0 : Int32)), (.int (0 : Int32)), (.int (0 : Int32)), (.int (0 : Int32)), (.int (0 : Int32)), (.int (0 : Int32)), (.int (0 : Int32)), (.int (0 : Int32)), (.int (0 : Int32)), (.int (0 : Int32)), (.int (0 : Int32)), (.int (0 : Int32)), (.int (0 : Int32)), (.int (0 : Int32))] (.int (0 : Int32))) :
    MetFree l (⟨"com/example/guarantor/guarantor/lts/IntBlocks", "get", "(I)I"⟩ : MethodName) (head1 (Jvm.Cond.code (⟨"com/example/guarantor/guarantor/lts/IntBlocks", "get", "(I)I"⟩ : MethodName) prog_56_method_5_code 2 (some .int) :: ws) ({ frames := 2, cells := 0, slots := 0, locals := 27 } : Room)) (fun a U => a = #[(.ref a1), (.int (0 : Int32))] ∧ Z.Warmed39 U.vm ∧ U.heap = h0) (fun _ _ _ _ _ => True) (fun _ U o U' => ∃ v L, o = .returned v ∧ Q_rmg10 Z a1 b1 c1 k1 k2 v0 h0 n0 v U'.heap L ∧ FrameEnd U o U' L ({ frames := 2, cells := 0, slots := 0, locals := 27 } : Room).cells ({ frames := 2, cells := 0, slots := 0, locals := 27 } : Room).slots) := by
  refine MetFree.of_bodySF (plainFor_of_name pn_rmg10) hisR ?_
  intro p e s m args_ below meth c s₁ Bd hml0 hP hK
  obtain ⟨hargs, hZ, hh⟩ := hP
  have hx := Bd.exec
  have hby := Bd.bytes
  have hml : c.maxLocals = 2 := hml0
  have hown : s.vm.findClass "com/example/guarantor/guarantor/lts/IntBlocks" = some m.cls := findClass_of_methodNamed Bd.named
  have hnm := (name_of_methodNamed Bd.named Bd.method).1
  have X0 : Stand p l e ({ frames := 2, cells := 0, slots := 0, locals := 27 } : Room) s m args_ below meth c s₁ [] 0 0 := Stand.of_body Bd
  have e0 : s₁.heap = h0 := by rw [← hh, Bd.state]; rfl
  have N0 := Fr.nil n0
  have hv : ∀ (i : Nat) {d : Jvm.Cond}, tables_1[i]? = some d → d.before a0 Z = true := fun i d q => hw d (List.mem_of_getElem? q)
  have k0 : Go p e below m (s₁.setTop (entryFrame m args_ 2)) s₁ 0 #[.val (.ref a1), .val (.int (0 : Int32))] [] := by rw [hargs]; exact fun t kt => castTop (ef_rmg10 m a1) kt
  obtain ⟨W, hWW⟩ : ∃ W, W = s₁.setTop (entryFrame m args_ 2) := ⟨_, rfl⟩
  rw [← hWW] at k0 ⊢
  show Done p e below s W (Q_rmg10 Z a1 b1 c1 k1 k2 v0 h0 n0) ({ frames := 2, cells := 0, slots := 0, locals := 27 } : Room).cells ({ frames := 2, cells := 0, slots := 0, locals := 27 } : Room).slots
  have k20 : Go p e below m W s₁ 2 #[.val (.ref a1), .val (.int (0 : Int32))] [(.ref a1), (.int (0 : Int32))] := (k0.iloadN X0 hx (hb hby d_rmg10_0) rfl).aloadN X0 hx (hb hby d_rmg10_1) rfl rfl
  obtain ⟨T21, X21, e21, k21⟩ := k20.getF X0 hx hZ hown (host := "") (Or.inl (hv 21 rfl)) Via.refl e0 F1 (hb hby d_rmg10_2)
  have k21 : Go p e below m W T21 5 #[.val (.ref a1), .val (.int (0 : Int32))] [(.int (1 : Int32)), (.int (0 : Int32))] := k21
  obtain ⟨T22, v22, L22, X22, Q22, k22⟩ := k21.stat (y := (⟨"java/util/Objects", "checkIndex", "(II)I"⟩ : MethodName)) (Wd := 0) (cells' := 0) (slots' := 0) (argsL := [(.int (0 : Int32)), (.int (1 : Int32))]) (rest := []) X21 hx hZ hown (by rw [hml]; rfl) (hv 29 rfl) (hv 30 rfl) (hv 32 rfl) (hv 31 rfl) (hb hby d_rmg10_5) (by decide) (rmo l Z a0 hw [] (0 : Int32) (1 : Int32) h0 n0 Z0 (by decide) (by decide)) e21 rfl rfl pd_rmg10_0 rfl (Nat.le_of_eq rfl) (by decide) (by decide) rfl rfl (by decide) (by decide)
  obtain ⟨rfl, Nq22, e22q⟩ := Q22
  have N22 := Fr.app N0 Nq22
  have e22 : T22.heap = h0 := e22q
  have k22 : Go p e below m W T22 8 #[.val (.ref a1), .val (.int (0 : Int32))] [(.int (0 : Int32))] := k22
  have k23 : Go p e below m W T22 10 #[.val (.ref a1), .val (.int (0 : Int32))] [(.ref a1)] := (k22.pop X22 hx (hb hby d_rmg10_8) rfl).aloadN X22 hx (hb hby d_rmg10_9) rfl rfl
  obtain ⟨T24, X24, e24, k24⟩ := k23.getF X22 hx hZ hown (host := "") (Or.inl (hv 14 rfl)) Via.refl e22 F2 (hb hby d_rmg10_10)
  have k24 : Go p e below m W T24 13 #[.val (.ref a1), .val (.int (0 : Int32))] [(.ref b1)] := k24
  have k25 : Go p e below m W T24 17 #[.val (.ref a1), .val (.int (0 : Int32))] [(.int (0 : Int32)), (.ref b1)] := (((k24.iloadN X24 hx (hb hby d_rmg10_13) rfl).bipush X24 hx (hb hby d_rmg10_14) (v := (13 : Int32)) rfl).iushr X24 hx (hb hby d_rmg10_16)).cast (y := (0 : Int32)) (by decide)
  have k26 : Go p e below m W T24 23 #[.val (.ref a1), .val (.int (0 : Int32))] [(.int (0 : Int32)), (.ref c1)] := ((((k25.aaload (i := 0) (n := 1) X24 hx hZ e24 V1 rfl rfl (by decide) (by decide) rfl rfl (hb hby d_rmg10_17)).iloadN X24 hx (hb hby d_rmg10_18) rfl).sipush X24 hx (hb hby d_rmg10_19) (v := (8191 : Int32)) rfl).iand X24 hx (hb hby d_rmg10_22)).cast (y := (0 : Int32)) (by decide)
  have k27 : Go p e below m W T24 24 #[.val (.ref a1), .val (.int (0 : Int32))] [(.int v0)] := k26.iaload (i := 0) (n := 16) X24 hx hZ e24 V2 rfl rfl (by decide) (by decide) rfl (hb hby d_rmg10_23)
  exact k27.ireturnI X24 hx Bd.returns (hb hby d_rmg10_24) (BodyLoose.notSynchronized Bd) (by rw [e24]; exact ⟨rfl, N22, rfl⟩) (by decide) (by decide)

theorem d_rms20_0 : decode prog_56_method_6_code 0 = .ok (.iload_n 1, 1) := by decide +kernel
theorem d_rms20_1 : decode prog_56_method_6_code 1 = .ok (.aload_n 0, 1) := by decide +kernel
theorem d_rms20_2 : decode prog_56_method_6_code 2 = .ok (.getfield 20, 3) := by decide +kernel
theorem d_rms20_5 : decode prog_56_method_6_code 5 = .ok (.invokestatic 46, 3) := by decide +kernel
theorem d_rms20_8 : decode prog_56_method_6_code 8 = .ok (.pop, 1) := by decide +kernel
theorem d_rms20_9 : decode prog_56_method_6_code 9 = .ok (.aload_n 0, 1) := by decide +kernel
theorem d_rms20_10 : decode prog_56_method_6_code 10 = .ok (.getfield 11, 3) := by decide +kernel
theorem d_rms20_13 : decode prog_56_method_6_code 13 = .ok (.iload_n 1, 1) := by decide +kernel
theorem d_rms20_14 : decode prog_56_method_6_code 14 = .ok (.bipush 13, 2) := by decide +kernel
theorem d_rms20_16 : decode prog_56_method_6_code 16 = .ok (.iushr, 1) := by decide +kernel
theorem d_rms20_17 : decode prog_56_method_6_code 17 = .ok (.aaload, 1) := by decide +kernel
theorem d_rms20_18 : decode prog_56_method_6_code 18 = .ok (.iload_n 1, 1) := by decide +kernel
theorem d_rms20_19 : decode prog_56_method_6_code 19 = .ok (.sipush 8191, 3) := by decide +kernel
theorem d_rms20_22 : decode prog_56_method_6_code 22 = .ok (.iand, 1) := by decide +kernel
theorem d_rms20_23 : decode prog_56_method_6_code 23 = .ok (.iload_n 2, 1) := by decide +kernel
theorem d_rms20_24 : decode prog_56_method_6_code 24 = .ok (.iastore, 1) := by decide +kernel
theorem d_rms20_25 : decode prog_56_method_6_code 25 = .ok (.return_, 1) := by decide +kernel
theorem pn_rms20 : plainName "com/example/guarantor/guarantor/lts/IntBlocks" = true := by first | (simp [plainName, overriddenIn]; done) | decide +kernel
theorem pd_rms20_0 : parseMethodDescriptor "(II)I" = some ⟨[.int, .int], (some .int)⟩ := by decide +kernel
theorem ef_rms20 (m : MethodId) (a1 : Addr) (p2 : Int32) : entryFrame m #[(.ref a1), (.int (0 : Int32)), (.int p2)] 3 = mkF m 0 #[.val (.ref a1), .val (.int (0 : Int32)), .val (.int p2)] [] := by first | (simp [entryFrame, mkF, argsToLocals, Value.category]; done) | rfl
def Q_rms20 (Z : State) (a1 : Addr) (b1 : Addr) (c1 : Addr) (k1 : ClassId) (k2 : ClassId) (p2 : Int32) (v0 : Int32) (v1 : Int32) (h0 : Heap) (n0 : Nat) (v : Option Value) (h : Heap) (L : List Loc) : Prop := v = none ∧ Fr n0 L ∧ Keep h0 h [c1] ∧ Arv Z h c1 k2 .int (16 : Int32) [(.int p2), (.int v1), (.int (0 : Int32)), (.int (0 : Int32)), (.int (0 : Int32)), (.int (0 : Int32)), (.int (0 : Int32)), (.int (0 : Int32)), (.int (0 : Int32)), (.int (0 : Int32)), (.int (0 : Int32)), (.int (0 : Int32)), (.int (0 : Int32)), (.int (0 : Int32)), (.int (0 : Int32)), (.int (0 : Int32))] (.int (0 : Int32))
set_option maxRecDepth 65536 in
set_option maxHeartbeats 40000000 in
theorem rms20 (l : Launch) (Z : State) (a0 : Array Value) (hw : ∀ d ∈ tables_1, d.before a0 Z = true) (ws : List Jvm.Cond) (a1 : Addr) (b1 : Addr) (c1 : Addr) (k1 : ClassId) (k2 : ClassId) (p2 : Int32) (v0 : Int32) (v1 : Int32) (h0 : Heap) (n0 : Nat) (Z0 : n0 ≤ h0.size) (E1 : Exa Z h0 a1 "com/example/guarantor/guarantor/lts/IntBlocks") (F1 : Fld Z h0 a1 "com/example/guarantor/guarantor/lts/IntBlocks" "size" "I" (.int (2 : Int32))) (F2 : Fld Z h0 a1 "com/example/guarantor/guarantor/lts/IntBlocks" "blocks" "[[I" (.ref b1)) (V1 : Arv Z h0 b1 k1 (.array .int) (1 : Int32) [(.ref c1)] .null) (V2 : Arv Z h0 c1 k2 .int (16 : Int32) [(.int v0), (.int v1), (.int (0 : Int32)), (.int (0 : Int32)), (.int (0 : Int32)), (.int (0 : Int32)), (.int (0 : Int32)), (.int (0 : Int32)), (.int (0 : Int32)), (.int (0 : Int32)), (.int (0 : Int32)), (.int (0 : Int32)), (.int (0 : Int32)), (.int (0 : Int32)), (.int (0 : Int32)), (.int (0 : Int32))] (.int (0 : Int32))) (G1 : n0 ≤ a1) (G3 : n0 ≤ c1) (n12 : a1 ≠ b1) (n13 : a1 ≠ c1) (n23 : b1 ≠ c1) :
    MetFree l (⟨"com/example/guarantor/guarantor/lts/IntBlocks", "set", "(II)V"⟩ : MethodName) (head1 (Jvm.Cond.code (⟨"com/example/guarantor/guarantor/lts/IntBlocks", "set", "(II)V"⟩ : MethodName) prog_56_method_6_code 3 none :: ws) ({ frames := 2, cells := 0, slots := 0, locals := 27 } : Room)) (fun a U => a = #[(.ref a1), (.int (0 : Int32)), (.int p2)] ∧ Z.Warmed39 U.vm ∧ U.heap = h0) (fun _ _ _ _ _ => True) (fun _ U o U' => ∃ v L, o = .returned v ∧ Q_rms20 Z a1 b1 c1 k1 k2 p2 v0 v1 h0 n0 v U'.heap L ∧ FrameEnd U o U' L ({ frames := 2, cells := 0, slots := 0, locals := 27 } : Room).cells ({ frames := 2, cells := 0, slots := 0, locals := 27 } : Room).slots) := by
  refine MetFree.of_bodySF (plainFor_of_name pn_rms20) hisR ?_
  intro p e s m args_ below meth c s₁ Bd hml0 hP hK
  obtain ⟨hargs, hZ, hh⟩ := hP
  have hx := Bd.exec
  have hby := Bd.bytes
  have hml : c.maxLocals = 3 := hml0
  have hown : s.vm.findClass "com/example/guarantor/guarantor/lts/IntBlocks" = some m.cls := findClass_of_methodNamed Bd.named
  have hnm := (name_of_methodNamed Bd.named Bd.method).1
  have X0 : Stand p l e ({ frames := 2, cells := 0, slots := 0, locals := 27 } : Room) s m args_ below meth c s₁ [] 0 0 := Stand.of_body Bd
  have e0 : s₁.heap = h0 := by rw [← hh, Bd.state]; rfl
  have N0 := Fr.nil n0
  have hv : ∀ (i : Nat) {d : Jvm.Cond}, tables_1[i]? = some d → d.before a0 Z = true := fun i d q => hw d (List.mem_of_getElem? q)
  have K0 : Keep h0 h0 [c1] := Keep.refl _ _
  have k0 : Go p e below m (s₁.setTop (entryFrame m args_ 3)) s₁ 0 #[.val (.ref a1), .val (.int (0 : Int32)), .val (.int p2)] [] := by rw [hargs]; exact fun t kt => castTop (ef_rms20 m a1 p2) kt
  obtain ⟨W, hWW⟩ : ∃ W, W = s₁.setTop (entryFrame m args_ 3) := ⟨_, rfl⟩
  rw [← hWW] at k0 ⊢
  show Done p e below s W (Q_rms20 Z a1 b1 c1 k1 k2 p2 v0 v1 h0 n0) ({ frames := 2, cells := 0, slots := 0, locals := 27 } : Room).cells ({ frames := 2, cells := 0, slots := 0, locals := 27 } : Room).slots
  have k20 : Go p e below m W s₁ 2 #[.val (.ref a1), .val (.int (0 : Int32)), .val (.int p2)] [(.ref a1), (.int (0 : Int32))] := (k0.iloadN X0 hx (hb hby d_rms20_0) rfl).aloadN X0 hx (hb hby d_rms20_1) rfl rfl
  obtain ⟨T21, X21, e21, k21⟩ := k20.getF X0 hx hZ hown (host := "") (Or.inl (hv 21 rfl)) Via.refl e0 F1 (hb hby d_rms20_2)
  have k21 : Go p e below m W T21 5 #[.val (.ref a1), .val (.int (0 : Int32)), .val (.int p2)] [(.int (2 : Int32)), (.int (0 : Int32))] := k21
  obtain ⟨T22, v22, L22, X22, Q22, k22⟩ := k21.stat (y := (⟨"java/util/Objects", "checkIndex", "(II)I"⟩ : MethodName)) (Wd := 0) (cells' := 0) (slots' := 0) (argsL := [(.int (0 : Int32)), (.int (2 : Int32))]) (rest := []) X21 hx hZ hown (by rw [hml]; rfl) (hv 29 rfl) (hv 30 rfl) (hv 32 rfl) (hv 31 rfl) (hb hby d_rms20_5) (by decide) (rmo l Z a0 hw [] (0 : Int32) (2 : Int32) h0 n0 Z0 (by decide) (by decide)) e21 rfl rfl pd_rms20_0 rfl (Nat.le_of_eq rfl) (by decide) (by decide) rfl rfl (by decide) (by decide)
  obtain ⟨rfl, Nq22, e22q⟩ := Q22
  have N22 := Fr.app N0 Nq22
  have e22 : T22.heap = h0 := e22q
  have k22 : Go p e below m W T22 8 #[.val (.ref a1), .val (.int (0 : Int32)), .val (.int p2)] [(.int (0 : Int32))] := k22
  have k23 : Go p e below m W T22 10 #[.val (.ref a1), .val (.int (0 : Int32)), .val (.int p2)] [(.ref a1)] := (k22.pop X22 hx (hb hby d_rms20_8) rfl).aloadN X22 hx (hb hby d_rms20_9) rfl rfl
  obtain ⟨T24, X24, e24, k24⟩ := k23.getF X22 hx hZ hown (host := "") (Or.inl (hv 14 rfl)) Via.refl e22 F2 (hb hby d_rms20_10)
  have k24 : Go p e below m W T24 13 #[.val (.ref a1), .val (.int (0 : Int32)), .val (.int p2)] [(.ref b1)] := k24
  have k25 : Go p e below m W T24 17 #[.val (.ref a1), .val (.int (0 : Int32)), .val (.int p2)] [(.int (0 : Int32)), (.ref b1)] := (((k24.iloadN X24 hx (hb hby d_rms20_13) rfl).bipush X24 hx (hb hby d_rms20_14) (v := (13 : Int32)) rfl).iushr X24 hx (hb hby d_rms20_16)).cast (y := (0 : Int32)) (by decide)
  have k26 : Go p e below m W T24 24 #[.val (.ref a1), .val (.int (0 : Int32)), .val (.int p2)] [(.int p2), (.int (0 : Int32)), (.ref c1)] := (((((k25.aaload (i := 0) (n := 1) X24 hx hZ e24 V1 rfl rfl (by decide) (by decide) rfl rfl (hb hby d_rms20_17)).iloadN X24 hx (hb hby d_rms20_18) rfl).sipush X24 hx (hb hby d_rms20_19) (v := (8191 : Int32)) rfl).iand X24 hx (hb hby d_rms20_22)).cast (y := (0 : Int32)) (by decide)).iloadN X24 hx (hb hby d_rms20_23) rfl
  obtain ⟨T27, h27, l27, X27, e27, W27, V27, N27, k27⟩ := k26.iastore (i := 0) X24 hx hZ e24 V2 rfl rfl (by decide) (Nat.le_of_ble_eq_true rfl) N22 G3 (hb hby d_rms20_24)
  have k27 : Go p e below m W T27 25 #[.val (.ref a1), .val (.int (0 : Int32)), .val (.int p2)] [] := k27
  have Z27 : n0 ≤ h27.size := (Wr.size W27).symm ▸ Z0
  have f28 := E1.wr W27
  have f29 := F1.other W27 (Or.inl n13)
  have f30 := F2.other W27 (Or.inl n13)
  have f31 := V1.other W27 n23
  have V27 : Arv Z h27 c1 k2 .int (16 : Int32) [(.int p2), (.int v1), (.int (0 : Int32)), (.int (0 : Int32)), (.int (0 : Int32)), (.int (0 : Int32)), (.int (0 : Int32)), (.int (0 : Int32)), (.int (0 : Int32)), (.int (0 : Int32)), (.int (0 : Int32)), (.int (0 : Int32)), (.int (0 : Int32)), (.int (0 : Int32)), (.int (0 : Int32)), (.int (0 : Int32))] (.int (0 : Int32)) := V27
  have K27 : Keep h0 h27 [c1] := K0.wr W27 (Or.inl (List.mem_of_getElem? (i := 0) rfl))
  exact k27.return_ X27 hx Bd.returns (hb hby d_rms20_25) (BodyLoose.notSynchronized Bd) (by rw [e27]; exact ⟨rfl, N27, K27, V27⟩) (by decide) (by decide)

theorem d_rmg20_0 : decode prog_56_method_5_code 0 = .ok (.iload_n 1, 1) := by decide +kernel
theorem d_rmg20_1 : decode prog_56_method_5_code 1 = .ok (.aload_n 0, 1) := by decide +kernel
theorem d_rmg20_2 : decode prog_56_method_5_code 2 = .ok (.getfield 20, 3) := by decide +kernel
theorem d_rmg20_5 : decode prog_56_method_5_code 5 = .ok (.invokestatic 46, 3) := by decide +kernel
theorem d_rmg20_8 : decode prog_56_method_5_code 8 = .ok (.pop, 1) := by decide +kernel
theorem d_rmg20_9 : decode prog_56_method_5_code 9 = .ok (.aload_n 0, 1) := by decide +kernel
theorem d_rmg20_10 : decode prog_56_method_5_code 10 = .ok (.getfield 11, 3) := by decide +kernel
theorem d_rmg20_13 : decode prog_56_method_5_code 13 = .ok (.iload_n 1, 1) := by decide +kernel
theorem d_rmg20_14 : decode prog_56_method_5_code 14 = .ok (.bipush 13, 2) := by decide +kernel
theorem d_rmg20_16 : decode prog_56_method_5_code 16 = .ok (.iushr, 1) := by decide +kernel
theorem d_rmg20_17 : decode prog_56_method_5_code 17 = .ok (.aaload, 1) := by decide +kernel
theorem d_rmg20_18 : decode prog_56_method_5_code 18 = .ok (.iload_n 1, 1) := by decide +kernel
theorem d_rmg20_19 : decode prog_56_method_5_code 19 = .ok (.sipush 8191, 3) := by decide +kernel
theorem d_rmg20_22 : decode prog_56_method_5_code 22 = .ok (.iand, 1) := by decide +kernel
theorem d_rmg20_23 : decode prog_56_method_5_code 23 = .ok (.iaload, 1) := by decide +kernel
theorem d_rmg20_24 : decode prog_56_method_5_code 24 = .ok (.ireturn, 1) := by decide +kernel
theorem pn_rmg20 : plainName "com/example/guarantor/guarantor/lts/IntBlocks" = true := by first | (simp [plainName, overriddenIn]; done) | decide +kernel
theorem pd_rmg20_0 : parseMethodDescriptor "(II)I" = some ⟨[.int, .int], (some .int)⟩ := by decide +kernel
theorem ef_rmg20 (m : MethodId) (a1 : Addr) : entryFrame m #[(.ref a1), (.int (0 : Int32))] 2 = mkF m 0 #[.val (.ref a1), .val (.int (0 : Int32))] [] := by first | (simp [entryFrame, mkF, argsToLocals, Value.category]; done) | rfl
def Q_rmg20 (Z : State) (a1 : Addr) (b1 : Addr) (c1 : Addr) (k1 : ClassId) (k2 : ClassId) (v0 : Int32) (v1 : Int32) (h0 : Heap) (n0 : Nat) (v : Option Value) (h : Heap) (L : List Loc) : Prop := v = some (.int v0) ∧ Fr n0 L ∧ h = h0
set_option maxRecDepth 65536 in
set_option maxHeartbeats 40000000 in
theorem rmg20 (l : Launch) (Z : State) (a0 : Array Value) (hw : ∀ d ∈ tables_1, d.before a0 Z = true) (ws : List Jvm.Cond) (a1 : Addr) (b1 : Addr) (c1 : Addr) (k1 : ClassId) (k2 : ClassId) (v0 : Int32) (v1 : Int32) (h0 : Heap) (n0 : Nat) (Z0 : n0 ≤ h0.size) (E1 : Exa Z h0 a1 "com/example/guarantor/guarantor/lts/IntBlocks") (F1 : Fld Z h0 a1 "com/example/guarantor/guarantor/lts/IntBlocks" "size" "I" (.int (2 : Int32))) (F2 : Fld Z h0 a1 "com/example/guarantor/guarantor/lts/IntBlocks" "blocks" "[[I" (.ref b1)) (V1 : Arv Z h0 b1 k1 (.array .int) (1 : Int32) [(.ref c1)] .null) (V2 : Arv Z h0 c1 k2 .int (16 : Int32) [(.int v0), (.int v1), (.int (0 : Int32)), (.int (0 : Int32)), (.int (0 : Int32)), (.int (0 : Int32)), (.int (0 : Int32)), (.int (0 : Int32)), (.int (0 : Int32)), (.int (0 : Int32)), (.int (0 : Int32)), (.int (0 : Int32)), (.int (0 : Int32)), (.int (0 : Int32)), (.int (0 : Int32)), (.int (0 : Int32))] (.int (0 : Int32))) :
    MetFree l (⟨"com/example/guarantor/guarantor/lts/IntBlocks", "get", "(I)I"⟩ : MethodName) (head1 (Jvm.Cond.code (⟨"com/example/guarantor/guarantor/lts/IntBlocks", "get", "(I)I"⟩ : MethodName) prog_56_method_5_code 2 (some .int) :: ws) ({ frames := 2, cells := 0, slots := 0, locals := 27 } : Room)) (fun a U => a = #[(.ref a1), (.int (0 : Int32))] ∧ Z.Warmed39 U.vm ∧ U.heap = h0) (fun _ _ _ _ _ => True) (fun _ U o U' => ∃ v L, o = .returned v ∧ Q_rmg20 Z a1 b1 c1 k1 k2 v0 v1 h0 n0 v U'.heap L ∧ FrameEnd U o U' L ({ frames := 2, cells := 0, slots := 0, locals := 27 } : Room).cells ({ frames := 2, cells := 0, slots := 0, locals := 27 } : Room).slots) := by
  refine MetFree.of_bodySF (plainFor_of_name pn_rmg20) hisR ?_
  intro p e s m args_ below meth c s₁ Bd hml0 hP hK
  obtain ⟨hargs, hZ, hh⟩ := hP
  have hx := Bd.exec
  have hby := Bd.bytes
  have hml : c.maxLocals = 2 := hml0
  have hown : s.vm.findClass "com/example/guarantor/guarantor/lts/IntBlocks" = some m.cls := findClass_of_methodNamed Bd.named
  have hnm := (name_of_methodNamed Bd.named Bd.method).1
  have X0 : Stand p l e ({ frames := 2, cells := 0, slots := 0, locals := 27 } : Room) s m args_ below meth c s₁ [] 0 0 := Stand.of_body Bd
  have e0 : s₁.heap = h0 := by rw [← hh, Bd.state]; rfl
  have N0 := Fr.nil n0
  have hv : ∀ (i : Nat) {d : Jvm.Cond}, tables_1[i]? = some d → d.before a0 Z = true := fun i d q => hw d (List.mem_of_getElem? q)
  have k0 : Go p e below m (s₁.setTop (entryFrame m args_ 2)) s₁ 0 #[.val (.ref a1), .val (.int (0 : Int32))] [] := by rw [hargs]; exact fun t kt => castTop (ef_rmg20 m a1) kt
  obtain ⟨W, hWW⟩ : ∃ W, W = s₁.setTop (entryFrame m args_ 2) := ⟨_, rfl⟩
  rw [← hWW] at k0 ⊢
  show Done p e below s W (Q_rmg20 Z a1 b1 c1 k1 k2 v0 v1 h0 n0) ({ frames := 2, cells := 0, slots := 0, locals := 27 } : Room).cells ({ frames := 2, cells := 0, slots := 0, locals := 27 } : Room).slots
  have k20 : Go p e below m W s₁ 2 #[.val (.ref a1), .val (.int (0 : Int32))] [(.ref a1), (.int (0 : Int32))] := (k0.iloadN X0 hx (hb hby d_rmg20_0) rfl).aloadN X0 hx (hb hby d_rmg20_1) rfl rfl
  obtain ⟨T21, X21, e21, k21⟩ := k20.getF X0 hx hZ hown (host := "") (Or.inl (hv 21 rfl)) Via.refl e0 F1 (hb hby d_rmg20_2)
  have k21 : Go p e below m W T21 5 #[.val (.ref a1), .val (.int (0 : Int32))] [(.int (2 : Int32)), (.int (0 : Int32))] := k21
  obtain ⟨T22, v22, L22, X22, Q22, k22⟩ := k21.stat (y := (⟨"java/util/Objects", "checkIndex", "(II)I"⟩ : MethodName)) (Wd := 0) (cells' := 0) (slots' := 0) (argsL := [(.int (0 : Int32)), (.int (2 : Int32))]) (rest := []) X21 hx hZ hown (by rw [hml]; rfl) (hv 29 rfl) (hv 30 rfl) (hv 32 rfl) (hv 31 rfl) (hb hby d_rmg20_5) (by decide) (rmo l Z a0 hw [] (0 : Int32) (2 : Int32) h0 n0 Z0 (by decide) (by decide)) e21 rfl rfl pd_rmg20_0 rfl (Nat.le_of_eq rfl) (by decide) (by decide) rfl rfl (by decide) (by decide)
  obtain ⟨rfl, Nq22, e22q⟩ := Q22
  have N22 := Fr.app N0 Nq22
  have e22 : T22.heap = h0 := e22q
  have k22 : Go p e below m W T22 8 #[.val (.ref a1), .val (.int (0 : Int32))] [(.int (0 : Int32))] := k22
  have k23 : Go p e below m W T22 10 #[.val (.ref a1), .val (.int (0 : Int32))] [(.ref a1)] := (k22.pop X22 hx (hb hby d_rmg20_8) rfl).aloadN X22 hx (hb hby d_rmg20_9) rfl rfl
  obtain ⟨T24, X24, e24, k24⟩ := k23.getF X22 hx hZ hown (host := "") (Or.inl (hv 14 rfl)) Via.refl e22 F2 (hb hby d_rmg20_10)
  have k24 : Go p e below m W T24 13 #[.val (.ref a1), .val (.int (0 : Int32))] [(.ref b1)] := k24
  have k25 : Go p e below m W T24 17 #[.val (.ref a1), .val (.int (0 : Int32))] [(.int (0 : Int32)), (.ref b1)] := (((k24.iloadN X24 hx (hb hby d_rmg20_13) rfl).bipush X24 hx (hb hby d_rmg20_14) (v := (13 : Int32)) rfl).iushr X24 hx (hb hby d_rmg20_16)).cast (y := (0 : Int32)) (by decide)
  have k26 : Go p e below m W T24 23 #[.val (.ref a1), .val (.int (0 : Int32))] [(.int (0 : Int32)), (.ref c1)] := ((((k25.aaload (i := 0) (n := 1) X24 hx hZ e24 V1 rfl rfl (by decide) (by decide) rfl rfl (hb hby d_rmg20_17)).iloadN X24 hx (hb hby d_rmg20_18) rfl).sipush X24 hx (hb hby d_rmg20_19) (v := (8191 : Int32)) rfl).iand X24 hx (hb hby d_rmg20_22)).cast (y := (0 : Int32)) (by decide)
  have k27 : Go p e below m W T24 24 #[.val (.ref a1), .val (.int (0 : Int32))] [(.int v0)] := k26.iaload (i := 0) (n := 16) X24 hx hZ e24 V2 rfl rfl (by decide) (by decide) rfl (hb hby d_rmg20_23)
  exact k27.ireturnI X24 hx Bd.returns (hb hby d_rmg20_24) (BodyLoose.notSynchronized Bd) (by rw [e24]; exact ⟨rfl, N22, rfl⟩) (by decide) (by decide)

theorem d_rms21_0 : decode prog_56_method_6_code 0 = .ok (.iload_n 1, 1) := by decide +kernel
theorem d_rms21_1 : decode prog_56_method_6_code 1 = .ok (.aload_n 0, 1) := by decide +kernel
theorem d_rms21_2 : decode prog_56_method_6_code 2 = .ok (.getfield 20, 3) := by decide +kernel
theorem d_rms21_5 : decode prog_56_method_6_code 5 = .ok (.invokestatic 46, 3) := by decide +kernel
theorem d_rms21_8 : decode prog_56_method_6_code 8 = .ok (.pop, 1) := by decide +kernel
theorem d_rms21_9 : decode prog_56_method_6_code 9 = .ok (.aload_n 0, 1) := by decide +kernel
theorem d_rms21_10 : decode prog_56_method_6_code 10 = .ok (.getfield 11, 3) := by decide +kernel
theorem d_rms21_13 : decode prog_56_method_6_code 13 = .ok (.iload_n 1, 1) := by decide +kernel
theorem d_rms21_14 : decode prog_56_method_6_code 14 = .ok (.bipush 13, 2) := by decide +kernel
theorem d_rms21_16 : decode prog_56_method_6_code 16 = .ok (.iushr, 1) := by decide +kernel
theorem d_rms21_17 : decode prog_56_method_6_code 17 = .ok (.aaload, 1) := by decide +kernel
theorem d_rms21_18 : decode prog_56_method_6_code 18 = .ok (.iload_n 1, 1) := by decide +kernel
theorem d_rms21_19 : decode prog_56_method_6_code 19 = .ok (.sipush 8191, 3) := by decide +kernel
theorem d_rms21_22 : decode prog_56_method_6_code 22 = .ok (.iand, 1) := by decide +kernel
theorem d_rms21_23 : decode prog_56_method_6_code 23 = .ok (.iload_n 2, 1) := by decide +kernel
theorem d_rms21_24 : decode prog_56_method_6_code 24 = .ok (.iastore, 1) := by decide +kernel
theorem d_rms21_25 : decode prog_56_method_6_code 25 = .ok (.return_, 1) := by decide +kernel
theorem pn_rms21 : plainName "com/example/guarantor/guarantor/lts/IntBlocks" = true := by first | (simp [plainName, overriddenIn]; done) | decide +kernel
theorem pd_rms21_0 : parseMethodDescriptor "(II)I" = some ⟨[.int, .int], (some .int)⟩ := by decide +kernel
theorem ef_rms21 (m : MethodId) (a1 : Addr) (p2 : Int32) : entryFrame m #[(.ref a1), (.int (1 : Int32)), (.int p2)] 3 = mkF m 0 #[.val (.ref a1), .val (.int (1 : Int32)), .val (.int p2)] [] := by first | (simp [entryFrame, mkF, argsToLocals, Value.category]; done) | rfl
def Q_rms21 (Z : State) (a1 : Addr) (b1 : Addr) (c1 : Addr) (k1 : ClassId) (k2 : ClassId) (p2 : Int32) (v0 : Int32) (v1 : Int32) (h0 : Heap) (n0 : Nat) (v : Option Value) (h : Heap) (L : List Loc) : Prop := v = none ∧ Fr n0 L ∧ Keep h0 h [c1] ∧ Arv Z h c1 k2 .int (16 : Int32) [(.int v0), (.int p2), (.int (0 : Int32)), (.int (0 : Int32)), (.int (0 : Int32)), (.int (0 : Int32)), (.int (0 : Int32)), (.int (0 : Int32)), (.int (0 : Int32)), (.int (0 : Int32)), (.int (0 : Int32)), (.int (0 : Int32)), (.int (0 : Int32)), (.int (0 : Int32)), (.int (0 : Int32)), (.int (0 : Int32))] (.int (0 : Int32))
set_option maxRecDepth 65536 in
set_option maxHeartbeats 40000000 in
theorem rms21 (l : Launch) (Z : State) (a0 : Array Value) (hw : ∀ d ∈ tables_1, d.before a0 Z = true) (ws : List Jvm.Cond) (a1 : Addr) (b1 : Addr) (c1 : Addr) (k1 : ClassId) (k2 : ClassId) (p2 : Int32) (v0 : Int32) (v1 : Int32) (h0 : Heap) (n0 : Nat) (Z0 : n0 ≤ h0.size) (E1 : Exa Z h0 a1 "com/example/guarantor/guarantor/lts/IntBlocks") (F1 : Fld Z h0 a1 "com/example/guarantor/guarantor/lts/IntBlocks" "size" "I" (.int (2 : Int32))) (F2 : Fld Z h0 a1 "com/example/guarantor/guarantor/lts/IntBlocks" "blocks" "[[I" (.ref b1)) (V1 : Arv Z h0 b1 k1 (.array .int) (1 : Int32) [(.ref c1)] .null) (V2 : Arv Z h0 c1 k2 .int (16 : Int32) [(.int v0), (.int v1), (.int (0 : Int32)), (.int (0 : Int32)), (.int (0 : Int32)), (.int (0 : Int32)), (.int (0 : Int32)), (.int (0 : Int32)), (.int (0 : Int32)), (.int (0 : Int32)), (.int (0 : Int32)), (.int (0 : Int32)), (.int (0 : Int32)), (.int (0 : Int32)), (.int (0 : Int32)), (.int (0 : Int32))] (.int (0 : Int32))) (G1 : n0 ≤ a1) (G3 : n0 ≤ c1) (n12 : a1 ≠ b1) (n13 : a1 ≠ c1) (n23 : b1 ≠ c1) :
    MetFree l (⟨"com/example/guarantor/guarantor/lts/IntBlocks", "set", "(II)V"⟩ : MethodName) (head1 (Jvm.Cond.code (⟨"com/example/guarantor/guarantor/lts/IntBlocks", "set", "(II)V"⟩ : MethodName) prog_56_method_6_code 3 none :: ws) ({ frames := 2, cells := 0, slots := 0, locals := 27 } : Room)) (fun a U => a = #[(.ref a1), (.int (1 : Int32)), (.int p2)] ∧ Z.Warmed39 U.vm ∧ U.heap = h0) (fun _ _ _ _ _ => True) (fun _ U o U' => ∃ v L, o = .returned v ∧ Q_rms21 Z a1 b1 c1 k1 k2 p2 v0 v1 h0 n0 v U'.heap L ∧ FrameEnd U o U' L ({ frames := 2, cells := 0, slots := 0, locals := 27 } : Room).cells ({ frames := 2, cells := 0, slots := 0, locals := 27 } : Room).slots) := by
  refine MetFree.of_bodySF (plainFor_of_name pn_rms21) hisR ?_
  intro p e s m args_ below meth c s₁ Bd hml0 hP hK
  obtain ⟨hargs, hZ, hh⟩ := hP
  have hx := Bd.exec
  have hby := Bd.bytes
  have hml : c.maxLocals = 3 := hml0
  have hown : s.vm.findClass "com/example/guarantor/guarantor/lts/IntBlocks" = some m.cls := findClass_of_methodNamed Bd.named
  have hnm := (name_of_methodNamed Bd.named Bd.method).1
  have X0 : Stand p l e ({ frames := 2, cells := 0, slots := 0, locals := 27 } : Room) s m args_ below meth c s₁ [] 0 0 := Stand.of_body Bd
  have e0 : s₁.heap = h0 := by rw [← hh, Bd.state]; rfl
  have N0 := Fr.nil n0
  have hv : ∀ (i : Nat) {d : Jvm.Cond}, tables_1[i]? = some d → d.before a0 Z = true := fun i d q => hw d (List.mem_of_getElem? q)
  have K0 : Keep h0 h0 [c1] := Keep.refl _ _
  have k0 : Go p e below m (s₁.setTop (entryFrame m args_ 3)) s₁ 0 #[.val (.ref a1), .val (.int (1 : Int32)), .val (.int p2)] [] := by rw [hargs]; exact fun t kt => castTop (ef_rms21 m a1 p2) kt
  obtain ⟨W, hWW⟩ : ∃ W, W = s₁.setTop (entryFrame m args_ 3) := ⟨_, rfl⟩
  rw [← hWW] at k0 ⊢
  show Done p e below s W (Q_rms21 Z a1 b1 c1 k1 k2 p2 v0 v1 h0 n0) ({ frames := 2, cells := 0, slots := 0, locals := 27 } : Room).cells ({ frames := 2, cells := 0, slots := 0, locals := 27 } : Room).slots
  have k20 : Go p e below m W s₁ 2 #[.val (.ref a1), .val (.int (1 : Int32)), .val (.int p2)] [(.ref a1), (.int (1 : Int32))] := (k0.iloadN X0 hx (hb hby d_rms21_0) rfl).aloadN X0 hx (hb hby d_rms21_1) rfl rfl
  obtain ⟨T21, X21, e21, k21⟩ := k20.getF X0 hx hZ hown (host := "") (Or.inl (hv 21 rfl)) Via.refl e0 F1 (hb hby d_rms21_2)
  have k21 : Go p e below m W T21 5 #[.val (.ref a1), .val (.int (1 : Int32)), .val (.int p2)] [(.int (2 : Int32)), (.int (1 : Int32))] := k21
  obtain ⟨T22, v22, L22, X22, Q22, k22⟩ := k21.stat (y := (⟨"java/util/Objects", "checkIndex", "(II)I"⟩ : MethodName)) (Wd := 0) (cells' := 0) (slots' := 0) (argsL := [(.int (1 : Int32)), (.int (2 : Int32))]) (rest := []) X21 hx hZ hown (by rw [hml]; rfl) (hv 29 rfl) (hv 30 rfl) (hv 32 rfl) (hv 31 rfl) (hb hby d_rms21_5) (by decide) (rmo l Z a0 hw [] (1 : Int32) (2 : Int32) h0 n0 Z0 (by decide) (by decide)) e21 rfl rfl pd_rms21_0 rfl (Nat.le_of_eq rfl) (by decide) (by decide) rfl rfl (by decide) (by decide)
  obtain ⟨rfl, Nq22, e22q⟩ := Q22
  have N22 := Fr.app N0 Nq22
  have e22 : T22.heap = h0 := e22q
  have k22 : Go p e below m W T22 8 #[.val (.ref a1), .val (.int (1 : Int32)), .val (.int p2)] [(.int (1 : Int32))] := k22
  have k23 : Go p e below m W T22 10 #[.val (.ref a1), .val (.int (1 : Int32)), .val (.int p2)] [(.ref a1)] := (k22.pop X22 hx (hb hby d_rms21_8) rfl).aloadN X22 hx (hb hby d_rms21_9) rfl rfl
  obtain ⟨T24, X24, e24, k24⟩ := k23.getF X22 hx hZ hown (host := "") (Or.inl (hv 14 rfl)) Via.refl e22 F2 (hb hby d_rms21_10)
  have k24 : Go p e below m W T24 13 #[.val (.ref a1), .val (.int (1 : Int32)), .val (.int p2)] [(.ref b1)] := k24
  have k25 : Go p e below m W T24 17 #[.val (.ref a1), .val (.int (1 : Int32)), .val (.int p2)] [(.int (0 : Int32)), (.ref b1)] := (((k24.iloadN X24 hx (hb hby d_rms21_13) rfl).bipush X24 hx (hb hby d_rms21_14) (v := (13 : Int32)) rfl).iushr X24 hx (hb hby d_rms21_16)).cast (y := (0 : Int32)) (by decide)
  have k26 : Go p e below m W T24 24 #[.val (.ref a1), .val (.int (1 : Int32)), .val (.int p2)] [(.int p2), (.int (1 : Int32)), (.ref c1)] := (((((k25.aaload (i := 0) (n := 1) X24 hx hZ e24 V1 rfl rfl (by decide) (by decide) rfl rfl (hb hby d_rms21_17)).iloadN X24 hx (hb hby d_rms21_18) rfl).sipush X24 hx (hb hby d_rms21_19) (v := (8191 : Int32)) rfl).iand X24 hx (hb hby d_rms21_22)).cast (y := (1 : Int32)) (by decide)).iloadN X24 hx (hb hby d_rms21_23) rfl
  obtain ⟨T27, h27, l27, X27, e27, W27, V27, N27, k27⟩ := k26.iastore (i := 1) X24 hx hZ e24 V2 rfl rfl (by decide) (Nat.le_of_ble_eq_true rfl) N22 G3 (hb hby d_rms21_24)
  have k27 : Go p e below m W T27 25 #[.val (.ref a1), .val (.int (1 : Int32)), .val (.int p2)] [] := k27
  have Z27 : n0 ≤ h27.size := (Wr.size W27).symm ▸ Z0
  have f28 := E1.wr W27
  have f29 := F1.other W27 (Or.inl n13)
  have f30 := F2.other W27 (Or.inl n13)
  have f31 := V1.other W27 n23
  have V27 : Arv Z h27 c1 k2 .int (16 : Int32) [(.int v0), (.int p2), (.int (0 : Int32)), (.int (0 : Int32)), (.int (0 : Int32)), (.int (0 : Int32)), (.int (0 : Int32)), (.int (0 : Int32)), (.int (0 : Int32)), (.int (0 : Int32)), (.int (0 : Int32)), (.int (0 : Int32)), (.int (0 : Int32)), (.int (0 : Int32)), (.int (0 : Int32)), (.int (0 : Int32))] (.int (0 : Int32)) := V27
  have K27 : Keep h0 h27 [c1] := K0.wr W27 (Or.inl (List.mem_of_getElem? (i := 0) rfl))
  exact k27.return_ X27 hx Bd.returns (hb hby d_rms21_25) (BodyLoose.notSynchronized Bd) (by rw [e27]; exact ⟨rfl, N27, K27, V27⟩) (by decide) (by decide)

theorem d_rmg21_0 : decode prog_56_method_5_code 0 = .ok (.iload_n 1, 1) := by decide +kernel
theorem d_rmg21_1 : decode prog_56_method_5_code 1 = .ok (.aload_n 0, 1) := by decide +kernel
theorem d_rmg21_2 : decode prog_56_method_5_code 2 = .ok (.getfield 20, 3) := by decide +kernel
theorem d_rmg21_5 : decode prog_56_method_5_code 5 = .ok (.invokestatic 46, 3) := by decide +kernel
theorem d_rmg21_8 : decode prog_56_method_5_code 8 = .ok (.pop, 1) := by decide +kernel
theorem d_rmg21_9 : decode prog_56_method_5_code 9 = .ok (.aload_n 0, 1) := by decide +kernel
theorem d_rmg21_10 : decode prog_56_method_5_code 10 = .ok (.getfield 11, 3) := by decide +kernel
theorem d_rmg21_13 : decode prog_56_method_5_code 13 = .ok (.iload_n 1, 1) := by decide +kernel
theorem d_rmg21_14 : decode prog_56_method_5_code 14 = .ok (.bipush 13, 2) := by decide +kernel
theorem d_rmg21_16 : decode prog_56_method_5_code 16 = .ok (.iushr, 1) := by decide +kernel
theorem d_rmg21_17 : decode prog_56_method_5_code 17 = .ok (.aaload, 1) := by decide +kernel
theorem d_rmg21_18 : decode prog_56_method_5_code 18 = .ok (.iload_n 1, 1) := by decide +kernel
theorem d_rmg21_19 : decode prog_56_method_5_code 19 = .ok (.sipush 8191, 3) := by decide +kernel
theorem d_rmg21_22 : decode prog_56_method_5_code 22 = .ok (.iand, 1) := by decide +kernel
theorem d_rmg21_23 : decode prog_56_method_5_code 23 = .ok (.iaload, 1) := by decide +kernel
theorem d_rmg21_24 : decode prog_56_method_5_code 24 = .ok (.ireturn, 1) := by decide +kernel
theorem pn_rmg21 : plainName "com/example/guarantor/guarantor/lts/IntBlocks" = true := by first | (simp [plainName, overriddenIn]; done) | decide +kernel
theorem pd_rmg21_0 : parseMethodDescriptor "(II)I" = some ⟨[.int, .int], (some .int)⟩ := by decide +kernel
theorem ef_rmg21 (m : MethodId) (a1 : Addr) : entryFrame m #[(.ref a1), (.int (1 : Int32))] 2 = mkF m 0 #[.val (.ref a1), .val (.int (1 : Int32))] [] := by first | (simp [entryFrame, mkF, argsToLocals, Value.category]; done) | rfl
def Q_rmg21 (Z : State) (a1 : Addr) (b1 : Addr) (c1 : Addr) (k1 : ClassId) (k2 : ClassId) (v0 : Int32) (v1 : Int32) (h0 : Heap) (n0 : Nat) (v : Option Value) (h : Heap) (L : List Loc) : Prop := v = some (.int v1) ∧ Fr n0 L ∧ h = h0
set_option maxRecDepth 65536 in
set_option maxHeartbeats 40000000 in
theorem rmg21 (l : Launch) (Z : State) (a0 : Array Value) (hw : ∀ d ∈ tables_1, d.before a0 Z = true) (ws : List Jvm.Cond) (a1 : Addr) (b1 : Addr) (c1 : Addr) (k1 : ClassId) (k2 : ClassId) (v0 : Int32) (v1 : Int32) (h0 : Heap) (n0 : Nat) (Z0 : n0 ≤ h0.size) (E1 : Exa Z h0 a1 "com/example/guarantor/guarantor/lts/IntBlocks") (F1 : Fld Z h0 a1 "com/example/guarantor/guarantor/lts/IntBlocks" "size" "I" (.int (2 : Int32))) (F2 : Fld Z h0 a1 "com/example/guarantor/guarantor/lts/IntBlocks" "blocks" "[[I" (.ref b1)) (V1 : Arv Z h0 b1 k1 (.array .int) (1 : Int32) [(.ref c1)] .null) (V2 : Arv Z h0 c1 k2 .int (16 : Int32) [(.int v0), (.int v1), (.int (0 : Int32)), (.int (0 : Int32)), (.int (0 : Int32)), (.int (0 : Int32)), (.int (0 : Int32)), (.int (0 : Int32)), (.int (0 : Int32)), (.int (0 : Int32)), (.int (0 : Int32)), (.int (0 : Int32)), (.int (0 : Int32)), (.int (0 : Int32)), (.int (0 : Int32)), (.int (0 : Int32))] (.int (0 : Int32))) :
    MetFree l (⟨"com/example/guarantor/guarantor/lts/IntBlocks", "get", "(I)I"⟩ : MethodName) (head1 (Jvm.Cond.code (⟨"com/example/guarantor/guarantor/lts/IntBlocks", "get", "(I)I"⟩ : MethodName) prog_56_method_5_code 2 (some .int) :: ws) ({ frames := 2, cells := 0, slots := 0, locals := 27 } : Room)) (fun a U => a = #[(.ref a1), (.int (1 : Int32))] ∧ Z.Warmed39 U.vm ∧ U.heap = h0) (fun _ _ _ _ _ => True) (fun _ U o U' => ∃ v L, o = .returned v ∧ Q_rmg21 Z a1 b1 c1 k1 k2 v0 v1 h0 n0 v U'.heap L ∧ FrameEnd U o U' L ({ frames := 2, cells := 0, slots := 0, locals := 27 } : Room).cells ({ frames := 2, cells := 0, slots := 0, locals := 27 } : Room).slots) := by
  refine MetFree.of_bodySF (plainFor_of_name pn_rmg21) hisR ?_
  intro p e s m args_ below meth c s₁ Bd hml0 hP hK
  obtain ⟨hargs, hZ, hh⟩ := hP
  have hx := Bd.exec
  have hby := Bd.bytes
  have hml : c.maxLocals = 2 := hml0
  have hown : s.vm.findClass "com/example/guarantor/guarantor/lts/IntBlocks" = some m.cls := findClass_of_methodNamed Bd.named
  have hnm := (name_of_methodNamed Bd.named Bd.method).1
  have X0 : Stand p l e ({ frames := 2, cells := 0, slots := 0, locals := 27 } : Room) s m args_ below meth c s₁ [] 0 0 := Stand.of_body Bd
  have e0 : s₁.heap = h0 := by rw [← hh, Bd.state]; rfl
  have N0 := Fr.nil n0
  have hv : ∀ (i : Nat) {d : Jvm.Cond}, tables_1[i]? = some d → d.before a0 Z = true := fun i d q => hw d (List.mem_of_getElem? q)
  have k0 : Go p e below m (s₁.setTop (entryFrame m args_ 2)) s₁ 0 #[.val (.ref a1), .val (.int (1 : Int32))] [] := by rw [hargs]; exact fun t kt => castTop (ef_rmg21 m a1) kt
  obtain ⟨W, hWW⟩ : ∃ W, W = s₁.setTop (entryFrame m args_ 2) := ⟨_, rfl⟩
  rw [← hWW] at k0 ⊢
  show Done p e below s W (Q_rmg21 Z a1 b1 c1 k1 k2 v0 v1 h0 n0) ({ frames := 2, cells := 0, slots := 0, locals := 27 } : Room).cells ({ frames := 2, cells := 0, slots := 0, locals := 27 } : Room).slots
  have k20 : Go p e below m W s₁ 2 #[.val (.ref a1), .val (.int (1 : Int32))] [(.ref a1), (.int (1 : Int32))] := (k0.iloadN X0 hx (hb hby d_rmg21_0) rfl).aloadN X0 hx (hb hby d_rmg21_1) rfl rfl
  obtain ⟨T21, X21, e21, k21⟩ := k20.getF X0 hx hZ hown (host := "") (Or.inl (hv 21 rfl)) Via.refl e0 F1 (hb hby d_rmg21_2)
  have k21 : Go p e below m W T21 5 #[.val (.ref a1), .val (.int (1 : Int32))] [(.int (2 : Int32)), (.int (1 : Int32))] := k21
  obtain ⟨T22, v22, L22, X22, Q22, k22⟩ := k21.stat (y := (⟨"java/util/Objects", "checkIndex", "(II)I"⟩ : MethodName)) (Wd := 0) (cells' := 0) (slots' := 0) (argsL := [(.int (1 : Int32)), (.int (2 : Int32))]) (rest := []) X21 hx hZ hown (by rw [hml]; rfl) (hv 29 rfl) (hv 30 rfl) (hv 32 rfl) (hv 31 rfl) (hb hby d_rmg21_5) (by decide) (rmo l Z a0 hw [] (1 : Int32) (2 : Int32) h0 n0 Z0 (by decide) (by decide)) e21 rfl rfl pd_rmg21_0 rfl (Nat.le_of_eq rfl) (by decide) (by decide) rfl rfl (by decide) (by decide)
  obtain ⟨rfl, Nq22, e22q⟩ := Q22
  have N22 := Fr.app N0 Nq22
  have e22 : T22.heap = h0 := e22q
  have k22 : Go p e below m W T22 8 #[.val (.ref a1), .val (.int (1 : Int32))] [(.int (1 : Int32))] := k22
  have k23 : Go p e below m W T22 10 #[.val (.ref a1), .val (.int (1 : Int32))] [(.ref a1)] := (k22.pop X22 hx (hb hby d_rmg21_8) rfl).aloadN X22 hx (hb hby d_rmg21_9) rfl rfl
  obtain ⟨T24, X24, e24, k24⟩ := k23.getF X22 hx hZ hown (host := "") (Or.inl (hv 14 rfl)) Via.refl e22 F2 (hb hby d_rmg21_10)
  have k24 : Go p e below m W T24 13 #[.val (.ref a1), .val (.int (1 : Int32))] [(.ref b1)] := k24
  have k25 : Go p e below m W T24 17 #[.val (.ref a1), .val (.int (1 : Int32))] [(.int (0 : Int32)), (.ref b1)] := (((k24.iloadN X24 hx (hb hby d_rmg21_13) rfl).bipush X24 hx (hb hby d_rmg21_14) (v := (13 : Int32)) rfl).iushr X24 hx (hb hby d_rmg21_16)).cast (y := (0 : Int32)) (by decide)
  have k26 : Go p e below m W T24 23 #[.val (.ref a1), .val (.int (1 : Int32))] [(.int (1 : Int32)), (.ref c1)] := ((((k25.aaload (i := 0) (n := 1) X24 hx hZ e24 V1 rfl rfl (by decide) (by decide) rfl rfl (hb hby d_rmg21_17)).iloadN X24 hx (hb hby d_rmg21_18) rfl).sipush X24 hx (hb hby d_rmg21_19) (v := (8191 : Int32)) rfl).iand X24 hx (hb hby d_rmg21_22)).cast (y := (1 : Int32)) (by decide)
  have k27 : Go p e below m W T24 24 #[.val (.ref a1), .val (.int (1 : Int32))] [(.int v1)] := k26.iaload (i := 1) (n := 16) X24 hx hZ e24 V2 rfl rfl (by decide) (by decide) rfl (hb hby d_rmg21_23)
  exact k27.ireturnI X24 hx Bd.returns (hb hby d_rmg21_24) (BodyLoose.notSynchronized Bd) (by rw [e24]; exact ⟨rfl, N22, rfl⟩) (by decide) (by decide)

theorem d_rms30_0 : decode prog_56_method_6_code 0 = .ok (.iload_n 1, 1) := by decide +kernel
theorem d_rms30_1 : decode prog_56_method_6_code 1 = .ok (.aload_n 0, 1) := by decide +kernel
theorem d_rms30_2 : decode prog_56_method_6_code 2 = .ok (.getfield 20, 3) := by decide +kernel
theorem d_rms30_5 : decode prog_56_method_6_code 5 = .ok (.invokestatic 46, 3) := by decide +kernel
theorem d_rms30_8 : decode prog_56_method_6_code 8 = .ok (.pop, 1) := by decide +kernel
theorem d_rms30_9 : decode prog_56_method_6_code 9 = .ok (.aload_n 0, 1) := by decide +kernel
theorem d_rms30_10 : decode prog_56_method_6_code 10 = .ok (.getfield 11, 3) := by decide +kernel
theorem d_rms30_13 : decode prog_56_method_6_code 13 = .ok (.iload_n 1, 1) := by decide +kernel
theorem d_rms30_14 : decode prog_56_method_6_code 14 = .ok (.bipush 13, 2) := by decide +kernel
theorem d_rms30_16 : decode prog_56_method_6_code 16 = .ok (.iushr, 1) := by decide +kernel
theorem d_rms30_17 : decode prog_56_method_6_code 17 = .ok (.aaload, 1) := by decide +kernel
theorem d_rms30_18 : decode prog_56_method_6_code 18 = .ok (.iload_n 1, 1) := by decide +kernel
theorem d_rms30_19 : decode prog_56_method_6_code 19 = .ok (.sipush 8191, 3) := by decide +kernel
theorem d_rms30_22 : decode prog_56_method_6_code 22 = .ok (.iand, 1) := by decide +kernel
theorem d_rms30_23 : decode prog_56_method_6_code 23 = .ok (.iload_n 2, 1) := by decide +kernel
theorem d_rms30_24 : decode prog_56_method_6_code 24 = .ok (.iastore, 1) := by decide +kernel
theorem d_rms30_25 : decode prog_56_method_6_code 25 = .ok (.return_, 1) := by decide +kernel
theorem pn_rms30 : plainName "com/example/guarantor/guarantor/lts/IntBlocks" = true := by first | (simp [plainName, overriddenIn]; done) | decide +kernel
theorem pd_rms30_0 : parseMethodDescriptor "(II)I" = some ⟨[.int, .int], (some .int)⟩ := by decide +kernel
theorem ef_rms30 (m : MethodId) (a1 : Addr) (p2 : Int32) : entryFrame m #[(.ref a1), (.int (0 : Int32)), (.int p2)] 3 = mkF m 0 #[.val (.ref a1), .val (.int (0 : Int32)), .val (.int p2)] [] := by first | (simp [entryFrame, mkF, argsToLocals, Value.category]; done) | rfl
def Q_rms30 (Z : State) (a1 : Addr) (b1 : Addr) (c1 : Addr) (k1 : ClassId) (k2 : ClassId) (p2 : Int32) (v0 : Int32) (v1 : Int32) (v2 : Int32) (h0 : Heap) (n0 : Nat) (v : Option Value) (h : Heap) (L : List Loc) : Prop := v = none ∧ Fr n0 L ∧ Keep h0 h [c1] ∧ Arv Z h c1 k2 .int (16 : Int32) [(.int p2), (.int v1), (.int v2), (.int (0 : Int32)), (.int (0 : Int32)), (.int (0 : Int32)), (.int (0 : Int32)), (.int (0 : Int32)), (.int (0 : Int32)), (.int (0 : Int32)), (.int (0 : Int32)), (.int (0 : Int32)), (.int (0 : Int32)), (.int (0 : Int32)), (.int (0 : Int32)), (.int (0 : Int32))] (.int (0 : Int32))
set_option maxRecDepth 65536 in
set_option maxHeartbeats 40000000 in
theorem rms30 (l : Launch) (Z : State) (a0 : Array Value) (hw : ∀ d ∈ tables_1, d.before a0 Z = true) (ws : List Jvm.Cond) (a1 : Addr) (b1 : Addr) (c1 : Addr) (k1 : ClassId) (k2 : ClassId) (p2 : Int32) (v0 : Int32) (v1 : Int32) (v2 : Int32) (h0 : Heap) (n0 : Nat) (Z0 : n0 ≤ h0.size) (E1 : Exa Z h0 a1 "com/example/guarantor/guarantor/lts/IntBlocks") (F1 : Fld Z h0 a1 "com/example/guarantor/guarantor/lts/IntBlocks" "size" "I" (.int (3 : Int32))) (F2 : Fld Z h0 a1 "com/example/guarantor/guarantor/lts/IntBlocks" "blocks" "[[I" (.ref b1)) (V1 : Arv Z h0 b1 k1 (.array .int) (1 : Int32) [(.ref c1)] .null) (V2 : Arv Z h0 c1 k2 .int (16 : Int32) [(.int v0), (.int v1), (.int v2), (.int (0 : Int32)), (.int (0 : Int32)), (.int (0 : Int32)), (.int (0 : Int32)), (.int (0 : Int32)), (.int (0 : Int32)), (.int (0 : Int32)), (.int (0 : Int32)), (.int (0 : Int32)), (.int (0 : Int32)), (.int (0 : Int32)), (.int (0 : Int32)), (.int (0 : Int32))] (.int (0 : Int32))) (G1 : n0 ≤ a1) (G3 : n0 ≤ c1) (n12 : a1 ≠ b1) (n13 : a1 ≠ c1) (n23 : b1 ≠ c1) :
    MetFree l (⟨"com/example/guarantor/guarantor/lts/IntBlocks", "set", "(II)V"⟩ : MethodName) (head1 (Jvm.Cond.code (⟨"com/example/guarantor/guarantor/lts/IntBlocks", "set", "(II)V"⟩ : MethodName) prog_56_method_6_code 3 none :: ws) ({ frames := 2, cells := 0, slots := 0, locals := 27 } : Room)) (fun a U => a = #[(.ref a1), (.int (0 : Int32)), (.int p2)] ∧ Z.Warmed39 U.vm ∧ U.heap = h0) (fun _ _ _ _ _ => True) (fun _ U o U' => ∃ v L, o = .returned v ∧ Q_rms30 Z a1 b1 c1 k1 k2 p2 v0 v1 v2 h0 n0 v U'.heap L ∧ FrameEnd U o U' L ({ frames := 2, cells := 0, slots := 0, locals := 27 } : Room).cells ({ frames := 2, cells := 0, slots := 0, locals := 27 } : Room).slots) := by
  refine MetFree.of_bodySF (plainFor_of_name pn_rms30) hisR ?_
  intro p e s m args_ below meth c s₁ Bd hml0 hP hK
  obtain ⟨hargs, hZ, hh⟩ := hP
  have hx := Bd.exec
  have hby := Bd.bytes
  have hml : c.maxLocals = 3 := hml0
  have hown : s.vm.findClass "com/example/guarantor/guarantor/lts/IntBlocks" = some m.cls := findClass_of_methodNamed Bd.named
  have hnm := (name_of_methodNamed Bd.named Bd.method).1
  have X0 : Stand p l e ({ frames := 2, cells := 0, slots := 0, locals := 27 } : Room) s m args_ below meth c s₁ [] 0 0 := Stand.of_body Bd
  have e0 : s₁.heap = h0 := by rw [← hh, Bd.state]; rfl
  have N0 := Fr.nil n0
  have hv : ∀ (i : Nat) {d : Jvm.Cond}, tables_1[i]? = some d → d.before a0 Z = true := fun i d q => hw d (List.mem_of_getElem? q)
  have K0 : Keep h0 h0 [c1] := Keep.refl _ _
  have k0 : Go p e below m (s₁.setTop (entryFrame m args_ 3)) s₁ 0 #[.val (.ref a1), .val (.int (0 : Int32)), .val (.int p2)] [] := by rw [hargs]; exact fun t kt => castTop (ef_rms30 m a1 p2) kt
  obtain ⟨W, hWW⟩ : ∃ W, W = s₁.setTop (entryFrame m args_ 3) := ⟨_, rfl⟩
  rw [← hWW] at k0 ⊢
  show Done p e below s W (Q_rms30 Z a1 b1 c1 k1 k2 p2 v0 v1 v2 h0 n0) ({ frames := 2, cells := 0, slots := 0, locals := 27 } : Room).cells ({ frames := 2, cells := 0, slots := 0, locals := 27 } : Room).slots
  have k20 : Go p e below m W s₁ 2 #[.val (.ref a1), .val (.int (0 : Int32)), .val (.int p2)] [(.ref a1), (.int (0 : Int32))] := (k0.iloadN X0 hx (hb hby d_rms30_0) rfl).aloadN X0 hx (hb hby d_rms30_1) rfl rfl
  obtain ⟨T21, X21, e21, k21⟩ := k20.getF X0 hx hZ hown (host := "") (Or.inl (hv 21 rfl)) Via.refl e0 F1 (hb hby d_rms30_2)
  have k21 : Go p e below m W T21 5 #[.val (.ref a1), .val (.int (0 : Int32)), .val (.int p2)] [(.int (3 : Int32)), (.int (0 : Int32))] := k21
  obtain ⟨T22, v22, L22, X22, Q22, k22⟩ := k21.stat (y := (⟨"java/util/Objects", "checkIndex", "(II)I"⟩ : MethodName)) (Wd := 0) (cells' := 0) (slots' := 0) (argsL := [(.int (0 : Int32)), (.int (3 : Int32))]) (rest := []) X21 hx hZ hown (by rw [hml]; rfl) (hv 29 rfl) (hv 30 rfl) (hv 32 rfl) (hv 31 rfl) (hb hby d_rms30_5) (by decide) (rmo l Z a0 hw [] (0 : Int32) (3 : Int32) h0 n0 Z0 (by decide) (by decide)) e21 rfl rfl pd_rms30_0 rfl (Nat.le_of_eq rfl) (by decide) (by decide) rfl rfl (by decide) (by decide)
  obtain ⟨rfl, Nq22, e22q⟩ := Q22
  have N22 := Fr.app N0 Nq22
  have e22 : T22.heap = h0 := e22q
  have k22 : Go p e below m W T22 8 #[.val (.ref a1), .val (.int (0 : Int32)), .val (.int p2)] [(.int (0 : Int32))] := k22
  have k23 : Go p e below m W T22 10 #[.val (.ref a1), .val (.int (0 : Int32)), .val (.int p2)] [(.ref a1)] := (k22.pop X22 hx (hb hby d_rms30_8) rfl).aloadN X22 hx (hb hby d_rms30_9) rfl rfl
  obtain ⟨T24, X24, e24, k24⟩ := k23.getF X22 hx hZ hown (host := "") (Or.inl (hv 14 rfl)) Via.refl e22 F2 (hb hby d_rms30_10)
  have k24 : Go p e below m W T24 13 #[.val (.ref a1), .val (.int (0 : Int32)), .val (.int p2)] [(.ref b1)] := k24
  have k25 : Go p e below m W T24 17 #[.val (.ref a1), .val (.int (0 : Int32)), .val (.int p2)] [(.int (0 : Int32)), (.ref b1)] := (((k24.iloadN X24 hx (hb hby d_rms30_13) rfl).bipush X24 hx (hb hby d_rms30_14) (v := (13 : Int32)) rfl).iushr X24 hx (hb hby d_rms30_16)).cast (y := (0 : Int32)) (by decide)
  have k26 : Go p e below m W T24 24 #[.val (.ref a1), .val (.int (0 : Int32)), .val (.int p2)] [(.int p2), (.int (0 : Int32)), (.ref c1)] := (((((k25.aaload (i := 0) (n := 1) X24 hx hZ e24 V1 rfl rfl (by decide) (by decide) rfl rfl (hb hby d_rms30_17)).iloadN X24 hx (hb hby d_rms30_18) rfl).sipush X24 hx (hb hby d_rms30_19) (v := (8191 : Int32)) rfl).iand X24 hx (hb hby d_rms30_22)).cast (y := (0 : Int32)) (by decide)).iloadN X24 hx (hb hby d_rms30_23) rfl
  obtain ⟨T27, h27, l27, X27, e27, W27, V27, N27, k27⟩ := k26.iastore (i := 0) X24 hx hZ e24 V2 rfl rfl (by decide) (Nat.le_of_ble_eq_true rfl) N22 G3 (hb hby d_rms30_24)
  have k27 : Go p e below m W T27 25 #[.val (.ref a1), .val (.int (0 : Int32)), .val (.int p2)] [] := k27
  have Z27 : n0 ≤ h27.size := (Wr.size W27).symm ▸ Z0
  have f28 := E1.wr W27
  have f29 := F1.other W27 (Or.inl n13)
  have f30 := F2.other W27 (Or.inl n13)
  have f31 := V1.other W27 n23
  have V27 : Arv Z h27 c1 k2 .int (16 : Int32) [(.int p2), (.int v1), (.int v2), (.int (0 : Int32)), (.int (0 : Int32)), (.int (0 : Int32)), (.int (0 : Int32)), (.int (0 : Int32)), (.int (0 : Int32)), (.int (0 : Int32)), (.int (0 : Int32)), (.int (0 : Int32)), (.int (0 : Int32)), (.int (0 : Int32)), (.int (0 : Int32)), (.int (0 : Int32))] (.int (0 : Int32)) := V27
  have K27 : Keep h0 h27 [c1] := K0.wr W27 (Or.inl (List.mem_of_getElem? (i := 0) rfl))
  exact k27.return_ X27 hx Bd.returns (hb hby d_rms30_25) (BodyLoose.notSynchronized Bd) (by rw [e27]; exact ⟨rfl, N27, K27, V27⟩) (by decide) (by decide)

theorem d_rmg30_0 : decode prog_56_method_5_code 0 = .ok (.iload_n 1, 1) := by decide +kernel
theorem d_rmg30_1 : decode prog_56_method_5_code 1 = .ok (.aload_n 0, 1) := by decide +kernel
theorem d_rmg30_2 : decode prog_56_method_5_code 2 = .ok (.getfield 20, 3) := by decide +kernel
theorem d_rmg30_5 : decode prog_56_method_5_code 5 = .ok (.invokestatic 46, 3) := by decide +kernel
theorem d_rmg30_8 : decode prog_56_method_5_code 8 = .ok (.pop, 1) := by decide +kernel
theorem d_rmg30_9 : decode prog_56_method_5_code 9 = .ok (.aload_n 0, 1) := by decide +kernel
theorem d_rmg30_10 : decode prog_56_method_5_code 10 = .ok (.getfield 11, 3) := by decide +kernel
theorem d_rmg30_13 : decode prog_56_method_5_code 13 = .ok (.iload_n 1, 1) := by decide +kernel
theorem d_rmg30_14 : decode prog_56_method_5_code 14 = .ok (.bipush 13, 2) := by decide +kernel
theorem d_rmg30_16 : decode prog_56_method_5_code 16 = .ok (.iushr, 1) := by decide +kernel
theorem d_rmg30_17 : decode prog_56_method_5_code 17 = .ok (.aaload, 1) := by decide +kernel
theorem d_rmg30_18 : decode prog_56_method_5_code 18 = .ok (.iload_n 1, 1) := by decide +kernel
theorem d_rmg30_19 : decode prog_56_method_5_code 19 = .ok (.sipush 8191, 3) := by decide +kernel
theorem d_rmg30_22 : decode prog_56_method_5_code 22 = .ok (.iand, 1) := by decide +kernel
theorem d_rmg30_23 : decode prog_56_method_5_code 23 = .ok (.iaload, 1) := by decide +kernel
theorem d_rmg30_24 : decode prog_56_method_5_code 24 = .ok (.ireturn, 1) := by decide +kernel
theorem pn_rmg30 : plainName "com/example/guarantor/guarantor/lts/IntBlocks" = true := by first | (simp [plainName, overriddenIn]; done) | decide +kernel
theorem pd_rmg30_0 : parseMethodDescriptor "(II)I" = some ⟨[.int, .int], (some .int)⟩ := by decide +kernel
theorem ef_rmg30 (m : MethodId) (a1 : Addr) : entryFrame m #[(.ref a1), (.int (0 : Int32))] 2 = mkF m 0 #[.val (.ref a1), .val (.int (0 : Int32))] [] := by first | (simp [entryFrame, mkF, argsToLocals, Value.category]; done) | rfl
def Q_rmg30 (Z : State) (a1 : Addr) (b1 : Addr) (c1 : Addr) (k1 : ClassId) (k2 : ClassId) (v0 : Int32) (v1 : Int32) (v2 : Int32) (h0 : Heap) (n0 : Nat) (v : Option Value) (h : Heap) (L : List Loc) : Prop := v = some (.int v0) ∧ Fr n0 L ∧ h = h0
set_option maxRecDepth 65536 in
set_option maxHeartbeats 40000000 in
theorem rmg30 (l : Launch) (Z : State) (a0 : Array Value) (hw : ∀ d ∈ tables_1, d.before a0 Z = true) (ws : List Jvm.Cond) (a1 : Addr) (b1 : Addr) (c1 : Addr) (k1 : ClassId) (k2 : ClassId) (v0 : Int32) (v1 : Int32) (v2 : Int32) (h0 : Heap) (n0 : Nat) (Z0 : n0 ≤ h0.size) (E1 : Exa Z h0 a1 "com/example/guarantor/guarantor/lts/IntBlocks") (F1 : Fld Z h0 a1 "com/example/guarantor/guarantor/lts/IntBlocks" "size" "I" (.int (3 : Int32))) (F2 : Fld Z h0 a1 "com/example/guarantor/guarantor/lts/IntBlocks" "blocks" "[[I" (.ref b1)) (V1 : Arv Z h0 b1 k1 (.array .int) (1 : Int32) [(.ref c1)] .null) (V2 : Arv Z h0 c1 k2 .int (16 : Int32) [(.int v0), (.int v1), (.int v2), (.int (0 : Int32)), (.int (0 : Int32)), (.int (0 : Int32)), (.int (0 : Int32)), (.int (0 : Int32)), (.int (0 : Int32)), (.int (0 : Int32)), (.int (0 : Int32)), (.int (0 : Int32)), (.int (0 : Int32)), (.int (0 : Int32)), (.int (0 : Int32)), (.int (0 : Int32))] (.int (0 : Int32))) :
    MetFree l (⟨"com/example/guarantor/guarantor/lts/IntBlocks", "get", "(I)I"⟩ : MethodName) (head1 (Jvm.Cond.code (⟨"com/example/guarantor/guarantor/lts/IntBlocks", "get", "(I)I"⟩ : MethodName) prog_56_method_5_code 2 (some .int) :: ws) ({ frames := 2, cells := 0, slots := 0, locals := 27 } : Room)) (fun a U => a = #[(.ref a1), (.int (0 : Int32))] ∧ Z.Warmed39 U.vm ∧ U.heap = h0) (fun _ _ _ _ _ => True) (fun _ U o U' => ∃ v L, o = .returned v ∧ Q_rmg30 Z a1 b1 c1 k1 k2 v0 v1 v2 h0 n0 v U'.heap L ∧ FrameEnd U o U' L ({ frames := 2, cells := 0, slots := 0, locals := 27 } : Room).cells ({ frames := 2, cells := 0, slots := 0, locals := 27 } : Room).slots) := by
  refine MetFree.of_bodySF (plainFor_of_name pn_rmg30) hisR ?_
  intro p e s m args_ below meth c s₁ Bd hml0 hP hK
  obtain ⟨hargs, hZ, hh⟩ := hP
  have hx := Bd.exec
  have hby := Bd.bytes
  have hml : c.maxLocals = 2 := hml0
  have hown : s.vm.findClass "com/example/guarantor/guarantor/lts/IntBlocks" = some m.cls := findClass_of_methodNamed Bd.named
  have hnm := (name_of_methodNamed Bd.named Bd.method).1
  have X0 : Stand p l e ({ frames := 2, cells := 0, slots := 0, locals := 27 } : Room) s m args_ below meth c s₁ [] 0 0 := Stand.of_body Bd
  have e0 : s₁.heap = h0 := by rw [← hh, Bd.state]; rfl
  have N0 := Fr.nil n0
  have hv : ∀ (i : Nat) {d : Jvm.Cond}, tables_1[i]? = some d → d.before a0 Z = true := fun i d q => hw d (List.mem_of_getElem? q)
  have k0 : Go p e below m (s₁.setTop (entryFrame m args_ 2)) s₁ 0 #[.val (.ref a1), .val (.int (0 : Int32))] [] := by rw [hargs]; exact fun t kt => castTop (ef_rmg30 m a1) kt
  obtain ⟨W, hWW⟩ : ∃ W, W = s₁.setTop (entryFrame m args_ 2) := ⟨_, rfl⟩
  rw [← hWW] at k0 ⊢
  show Done p e below s W (Q_rmg30 Z a1 b1 c1 k1 k2 v0 v1 v2 h0 n0) ({ frames := 2, cells := 0, slots := 0, locals := 27 } : Room).cells ({ frames := 2, cells := 0, slots := 0, locals := 27 } : Room).slots
  have k20 : Go p e below m W s₁ 2 #[.val (.ref a1), .val (.int (0 : Int32))] [(.ref a1), (.int (0 : Int32))] := (k0.iloadN X0 hx (hb hby d_rmg30_0) rfl).aloadN X0 hx (hb hby d_rmg30_1) rfl rfl
  obtain ⟨T21, X21, e21, k21⟩ := k20.getF X0 hx hZ hown (host := "") (Or.inl (hv 21 rfl)) Via.refl e0 F1 (hb hby d_rmg30_2)
  have k21 : Go p e below m W T21 5 #[.val (.ref a1), .val (.int (0 : Int32))] [(.int (3 : Int32)), (.int (0 : Int32))] := k21
  obtain ⟨T22, v22, L22, X22, Q22, k22⟩ := k21.stat (y := (⟨"java/util/Objects", "checkIndex", "(II)I"⟩ : MethodName)) (Wd := 0) (cells' := 0) (slots' := 0) (argsL := [(.int (0 : Int32)), (.int (3 : Int32))]) (rest := []) X21 hx hZ hown (by rw [hml]; rfl) (hv 29 rfl) (hv 30 rfl) (hv 32 rfl) (hv 31 rfl) (hb hby d_rmg30_5) (by decide) (rmo l Z a0 hw [] (0 : Int32) (3 : Int32) h0 n0 Z0 (by decide) (by decide)) e21 rfl rfl pd_rmg30_0 rfl (Nat.le_of_eq rfl) (by decide) (by decide) rfl rfl (by decide) (by decide)
  obtain ⟨rfl, Nq22, e22q⟩ := Q22
  have N22 := Fr.app N0 Nq22
  have e22 : T22.heap = h0 := e22q
  have k22 : Go p e below m W T22 8 #[.val (.ref a1), .val (.int (0 : Int32))] [(.int (0 : Int32))] := k22
  have k23 : Go p e below m W T22 10 #[.val (.ref a1), .val (.int (0 : Int32))] [(.ref a1)] := (k22.pop X22 hx (hb hby d_rmg30_8) rfl).aloadN X22 hx (hb hby d_rmg30_9) rfl rfl
  obtain ⟨T24, X24, e24, k24⟩ := k23.getF X22 hx hZ hown (host := "") (Or.inl (hv 14 rfl)) Via.refl e22 F2 (hb hby d_rmg30_10)
  have k24 : Go p e below m W T24 13 #[.val (.ref a1), .val (.int (0 : Int32))] [(.ref b1)] := k24
  have k25 : Go p e below m W T24 17 #[.val (.ref a1), .val (.int (0 : Int32))] [(.int (0 : Int32)), (.ref b1)] := (((k24.iloadN X24 hx (hb hby d_rmg30_13) rfl).bipush X24 hx (hb hby d_rmg30_14) (v := (13 : Int32)) rfl).iushr X24 hx (hb hby d_rmg30_16)).cast (y := (0 : Int32)) (by decide)
  have k26 : Go p e below m W T24 23 #[.val (.ref a1), .val (.int (0 : Int32))] [(.int (0 : Int32)), (.ref c1)] := ((((k25.aaload (i := 0) (n := 1) X24 hx hZ e24 V1 rfl rfl (by decide) (by decide) rfl rfl (hb hby d_rmg30_17)).iloadN X24 hx (hb hby d_rmg30_18) rfl).sipush X24 hx (hb hby d_rmg30_19) (v := (8191 : Int32)) rfl).iand X24 hx (hb hby d_rmg30_22)).cast (y := (0 : Int32)) (by decide)
  have k27 : Go p e below m W T24 24 #[.val (.ref a1), .val (.int (0 : Int32))] [(.int v0)] := k26.iaload (i := 0) (n := 16) X24 hx hZ e24 V2 rfl rfl (by decide) (by decide) rfl (hb hby d_rmg30_23)
  exact k27.ireturnI X24 hx Bd.returns (hb hby d_rmg30_24) (BodyLoose.notSynchronized Bd) (by rw [e24]; exact ⟨rfl, N22, rfl⟩) (by decide) (by decide)

theorem d_rms31_0 : decode prog_56_method_6_code 0 = .ok (.iload_n 1, 1) := by decide +kernel
theorem d_rms31_1 : decode prog_56_method_6_code 1 = .ok (.aload_n 0, 1) := by decide +kernel
theorem d_rms31_2 : decode prog_56_method_6_code 2 = .ok (.getfield 20, 3) := by decide +kernel
theorem d_rms31_5 : decode prog_56_method_6_code 5 = .ok (.invokestatic 46, 3) := by decide +kernel
theorem d_rms31_8 : decode prog_56_method_6_code 8 = .ok (.pop, 1) := by decide +kernel
theorem d_rms31_9 : decode prog_56_method_6_code 9 = .ok (.aload_n 0, 1) := by decide +kernel
theorem d_rms31_10 : decode prog_56_method_6_code 10 = .ok (.getfield 11, 3) := by decide +kernel
theorem d_rms31_13 : decode prog_56_method_6_code 13 = .ok (.iload_n 1, 1) := by decide +kernel
theorem d_rms31_14 : decode prog_56_method_6_code 14 = .ok (.bipush 13, 2) := by decide +kernel
theorem d_rms31_16 : decode prog_56_method_6_code 16 = .ok (.iushr, 1) := by decide +kernel
theorem d_rms31_17 : decode prog_56_method_6_code 17 = .ok (.aaload, 1) := by decide +kernel
theorem d_rms31_18 : decode prog_56_method_6_code 18 = .ok (.iload_n 1, 1) := by decide +kernel
theorem d_rms31_19 : decode prog_56_method_6_code 19 = .ok (.sipush 8191, 3) := by decide +kernel
theorem d_rms31_22 : decode prog_56_method_6_code 22 = .ok (.iand, 1) := by decide +kernel
theorem d_rms31_23 : decode prog_56_method_6_code 23 = .ok (.iload_n 2, 1) := by decide +kernel
theorem d_rms31_24 : decode prog_56_method_6_code 24 = .ok (.iastore, 1) := by decide +kernel
theorem d_rms31_25 : decode prog_56_method_6_code 25 = .ok (.return_, 1) := by decide +kernel
theorem pn_rms31 : plainName "com/example/guarantor/guarantor/lts/IntBlocks" = true := by first | (simp [plainName, overriddenIn]; done) | decide +kernel
theorem pd_rms31_0 : parseMethodDescriptor "(II)I" = some ⟨[.int, .int], (some .int)⟩ := by decide +kernel
theorem ef_rms31 (m : MethodId) (a1 : Addr) (p2 : Int32) : entryFrame m #[(.ref a1), (.int (1 : Int32)), (.int p2)] 3 = mkF m 0 #[.val (.ref a1), .val (.int (1 : Int32)), .val (.int p2)] [] := by first | (simp [entryFrame, mkF, argsToLocals, Value.category]; done) | rfl
def Q_rms31 (Z : State) (a1 : Addr) (b1 : Addr) (c1 : Addr) (k1 : ClassId) (k2 : ClassId) (p2 : Int32) (v0 : Int32) (v1 : Int32) (v2 : Int32) (h0 : Heap) (n0 : Nat) (v : Option Value) (h : Heap) (L : List Loc) : Prop := v = none ∧ Fr n0 L ∧ Keep h0 h [c1] ∧ Arv Z h c1 k2 .int (16 : Int32) [(.int v0), (.int p2), (.int v2), (.int (0 : Int32)), (.int (0 : Int32)), (.int (0 : Int32)), (.int (0 : Int32)), (.int (0 : Int32)), (.int (0 : Int32)), (.int (0 : Int32)), (.int (0 : Int32)), (.int (0 : Int32)), (.int (0 : Int32)), (.int (0 : Int32)), (.int (0 : Int32)), (.int (0 : Int32))] (.int (0 : Int32))
set_option maxRecDepth 65536 in
set_option maxHeartbeats 40000000 in
theorem rms31 (l : Launch) (Z : State) (a0 : Array Value) (hw : ∀ d ∈ tables_1, d.before a0 Z = true) (ws : List Jvm.Cond) (a1 : Addr) (b1 : Addr) (c1 : Addr) (k1 : ClassId) (k2 : ClassId) (p2 : Int32) (v0 : Int32) (v1 : Int32) (v2 : Int32) (h0 : Heap) (n0 : Nat) (Z0 : n0 ≤ h0.size) (E1 : Exa Z h0 a1 "com/example/guarantor/guarantor/lts/IntBlocks") (F1 : Fld Z h0 a1 "com/example/guarantor/guarantor/lts/IntBlocks" "size" "I" (.int (3 : Int32))) (F2 : Fld Z h0 a1 "com/example/guarantor/guarantor/lts/IntBlocks" "blocks" "[[I" (.ref b1)) (V1 : Arv Z h0 b1 k1 (.array .int) (1 : Int32) [(.ref c1)] .null) (V2 : Arv Z h0 c1 k2 .int (16 : Int32) [(.int v0), (.int v1), (.int v2), (.int (0 : Int32)), (.int (0 : Int32)), (.int (0 : Int32)), (.int (0 : Int32)), (.int (0 : Int32)), (.int (0 : Int32)), (.int (0 : Int32)), (.int (0 : Int32)), (.int (0 : Int32)), (.int (0 : Int32)), (.int (0 : Int32)), (.int (0 : Int32)), (.int (0 : Int32))] (.int (0 : Int32))) (G1 : n0 ≤ a1) (G3 : n0 ≤ c1) (n12 : a1 ≠ b1) (n13 : a1 ≠ c1) (n23 : b1 ≠ c1) :
    MetFree l (⟨"com/example/guarantor/guarantor/lts/IntBlocks", "set", "(II)V"⟩ : MethodName) (head1 (Jvm.Cond.code (⟨"com/example/guarantor/guarantor/lts/IntBlocks", "set", "(II)V"⟩ : MethodName) prog_56_method_6_code 3 none :: ws) ({ frames := 2, cells := 0, slots := 0, locals := 27 } : Room)) (fun a U => a = #[(.ref a1), (.int (1 : Int32)), (.int p2)] ∧ Z.Warmed39 U.vm ∧ U.heap = h0) (fun _ _ _ _ _ => True) (fun _ U o U' => ∃ v L, o = .returned v ∧ Q_rms31 Z a1 b1 c1 k1 k2 p2 v0 v1 v2 h0 n0 v U'.heap L ∧ FrameEnd U o U' L ({ frames := 2, cells := 0, slots := 0, locals := 27 } : Room).cells ({ frames := 2, cells := 0, slots := 0, locals := 27 } : Room).slots) := by
  refine MetFree.of_bodySF (plainFor_of_name pn_rms31) hisR ?_
  intro p e s m args_ below meth c s₁ Bd hml0 hP hK
  obtain ⟨hargs, hZ, hh⟩ := hP
  have hx := Bd.exec
  have hby := Bd.bytes
  have hml : c.maxLocals = 3 := hml0
  have hown : s.vm.findClass "com/example/guarantor/guarantor/lts/IntBlocks" = some m.cls := findClass_of_methodNamed Bd.named
  have hnm := (name_of_methodNamed Bd.named Bd.method).1
  have X0 : Stand p l e ({ frames := 2, cells := 0, slots := 0, locals := 27 } : Room) s m args_ below meth c s₁ [] 0 0 := Stand.of_body Bd
  have e0 : s₁.heap = h0 := by rw [← hh, Bd.state]; rfl
  have N0 := Fr.nil n0
  have hv : ∀ (i : Nat) {d : Jvm.Cond}, tables_1[i]? = some d → d.before a0 Z = true := fun i d q => hw d (List.mem_of_getElem? q)
  have K0 : Keep h0 h0 [c1] := Keep.refl _ _
  have k0 : Go p e below m (s₁.setTop (entryFrame m args_ 3)) s₁ 0 #[.val (.ref a1), .val (.int (1 : Int32)), .val (.int p2)] [] := by rw [hargs]; exact fun t kt => castTop (ef_rms31 m a1 p2) kt
  obtain ⟨W, hWW⟩ : ∃ W, W = s₁.setTop (entryFrame m args_ 3) := ⟨_, rfl⟩
  rw [← hWW] at k0 ⊢
  show Done p e below s W (Q_rms31 Z a1 b1 c1 k1 k2 p2 v0 v1 v2 h0 n0) ({ frames := 2, cells := 0, slots := 0, locals := 27 } : Room).cells ({ frames := 2, cells := 0, slots := 0, locals := 27 } : Room).slots
  have k20 : Go p e below m W s₁ 2 #[.val (.ref a1), .val (.int (1 : Int32)), .val (.int p2)] [(.ref a1), (.int (1 : Int32))] := (k0.iloadN X0 hx (hb hby d_rms31_0) rfl).aloadN X0 hx (hb hby d_rms31_1) rfl rfl
  obtain ⟨T21, X21, e21, k21⟩ := k20.getF X0 hx hZ hown (host := "") (Or.inl (hv 21 rfl)) Via.refl e0 F1 (hb hby d_rms31_2)
  have k21 : Go p e below m W T21 5 #[.val (.ref a1), .val (.int (1 : Int32)), .val (.int p2)] [(.int (3 : Int32)), (.int (1 : Int32))] := k21
  obtain ⟨T22, v22, L22, X22, Q22, k22⟩ := k21.stat (y := (⟨"java/util/Objects", "checkIndex", "(II)I"⟩ : MethodName)) (Wd := 0) (cells' := 0) (slots' := 0) (argsL := [(.int (1 : Int32)), (.int (3 : Int32))]) (rest := []) X21 hx hZ hown (by rw [hml]; rfl) (hv 29 rfl) (hv 30 rfl) (hv 32 rfl) (hv 31 rfl) (hb hby d_rms31_5) (by decide) (rmo l Z a0 hw [] (1 : Int32) (3 : Int32) h0 n0 Z0 (by decide) (by decide)) e21 rfl rfl pd_rms31_0 rfl (Nat.le_of_eq rfl) (by decide) (by decide) rfl rfl (by decide) (by decide)
  obtain ⟨rfl, Nq22, e22q⟩ := Q22
  have N22 := Fr.app N0 Nq22
  have e22 : T22.heap = h0 := e22q
  have k22 : Go p e below m W T22 8 #[.val (.ref a1), .val (.int (1 : Int32)), .val (.int p2)] [(.int (1 : Int32))] := k22
  have k23 : Go p e below m W T22 10 #[.val (.ref a1), .val (.int (1 : Int32)), .val (.int p2)] [(.ref a1)] := (k22.pop X22 hx (hb hby d_rms31_8) rfl).aloadN X22 hx (hb hby d_rms31_9) rfl rfl
  obtain ⟨T24, X24, e24, k24⟩ := k23.getF X22 hx hZ hown (host := "") (Or.inl (hv 14 rfl)) Via.refl e22 F2 (hb hby d_rms31_10)
  have k24 : Go p e below m W T24 13 #[.val (.ref a1), .val (.int (1 : Int32)), .val (.int p2)] [(.ref b1)] := k24
  have k25 : Go p e below m W T24 17 #[.val (.ref a1), .val (.int (1 : Int32)), .val (.int p2)] [(.int (0 : Int32)), (.ref b1)] := (((k24.iloadN X24 hx (hb hby d_rms31_13) rfl).bipush X24 hx (hb hby d_rms31_14) (v := (13 : Int32)) rfl).iushr X24 hx (hb hby d_rms31_16)).cast (y := (0 : Int32)) (by decide)
  have k26 : Go p e below m W T24 24 #[.val (.ref a1), .val (.int (1 : Int32)), .val (.int p2)] [(.int p2), (.int (1 : Int32)), (.ref c1)] := (((((k25.aaload (i := 0) (n := 1) X24 hx hZ e24 V1 rfl rfl (by decide) (by decide) rfl rfl (hb hby d_rms31_17)).iloadN X24 hx (hb hby d_rms31_18) rfl).sipush X24 hx (hb hby d_rms31_19) (v := (8191 : Int32)) rfl).iand X24 hx (hb hby d_rms31_22)).cast (y := (1 : Int32)) (by decide)).iloadN X24 hx (hb hby d_rms31_23) rfl
  obtain ⟨T27, h27, l27, X27, e27, W27, V27, N27, k27⟩ := k26.iastore (i := 1) X24 hx hZ e24 V2 rfl rfl (by decide) (Nat.le_of_ble_eq_true rfl) N22 G3 (hb hby d_rms31_24)
  have k27 : Go p e below m W T27 25 #[.val (.ref a1), .val (.int (1 : Int32)), .val (.int p2)] [] := k27
  have Z27 : n0 ≤ h27.size := (Wr.size W27).symm ▸ Z0
  have f28 := E1.wr W27
  have f29 := F1.other W27 (Or.inl n13)
  have f30 := F2.other W27 (Or.inl n13)
  have f31 := V1.other W27 n23
  have V27 : Arv Z h27 c1 k2 .int (16 : Int32) [(.int v0), (.int p2), (.int v2), (.int (0 : Int32)), (.int (0 : Int32)), (.int (0 : Int32)), (.int (0 : Int32)), (.int (0 : Int32)), (.int (0 : Int32)), (.int (0 : Int32)), (.int (0 : Int32)), (.int (0 : Int32)), (.int (0 : Int32)), (.int (0 : Int32)), (.int (0 : Int32)), (.int (0 : Int32))] (.int (0 : Int32)) := V27
  have K27 : Keep h0 h27 [c1] := K0.wr W27 (Or.inl (List.mem_of_getElem? (i := 0) rfl))
  exact k27.return_ X27 hx Bd.returns (hb hby d_rms31_25) (BodyLoose.notSynchronized Bd) (by rw [e27]; exact ⟨rfl, N27, K27, V27⟩) (by decide) (by decide)

theorem d_rmg31_0 : decode prog_56_method_5_code 0 = .ok (.iload_n 1, 1) := by decide +kernel
theorem d_rmg31_1 : decode prog_56_method_5_code 1 = .ok (.aload_n 0, 1) := by decide +kernel
theorem d_rmg31_2 : decode prog_56_method_5_code 2 = .ok (.getfield 20, 3) := by decide +kernel
theorem d_rmg31_5 : decode prog_56_method_5_code 5 = .ok (.invokestatic 46, 3) := by decide +kernel
theorem d_rmg31_8 : decode prog_56_method_5_code 8 = .ok (.pop, 1) := by decide +kernel
theorem d_rmg31_9 : decode prog_56_method_5_code 9 = .ok (.aload_n 0, 1) := by decide +kernel
theorem d_rmg31_10 : decode prog_56_method_5_code 10 = .ok (.getfield 11, 3) := by decide +kernel
theorem d_rmg31_13 : decode prog_56_method_5_code 13 = .ok (.iload_n 1, 1) := by decide +kernel
theorem d_rmg31_14 : decode prog_56_method_5_code 14 = .ok (.bipush 13, 2) := by decide +kernel
theorem d_rmg31_16 : decode prog_56_method_5_code 16 = .ok (.iushr, 1) := by decide +kernel
theorem d_rmg31_17 : decode prog_56_method_5_code 17 = .ok (.aaload, 1) := by decide +kernel
theorem d_rmg31_18 : decode prog_56_method_5_code 18 = .ok (.iload_n 1, 1) := by decide +kernel
theorem d_rmg31_19 : decode prog_56_method_5_code 19 = .ok (.sipush 8191, 3) := by decide +kernel
theorem d_rmg31_22 : decode prog_56_method_5_code 22 = .ok (.iand, 1) := by decide +kernel
theorem d_rmg31_23 : decode prog_56_method_5_code 23 = .ok (.iaload, 1) := by decide +kernel
theorem d_rmg31_24 : decode prog_56_method_5_code 24 = .ok (.ireturn, 1) := by decide +kernel
theorem pn_rmg31 : plainName "com/example/guarantor/guarantor/lts/IntBlocks" = true := by first | (simp [plainName, overriddenIn]; done) | decide +kernel
theorem pd_rmg31_0 : parseMethodDescriptor "(II)I" = some ⟨[.int, .int], (some .int)⟩ := by decide +kernel
theorem ef_rmg31 (m : MethodId) (a1 : Addr) : entryFrame m #[(.ref a1), (.int (1 : Int32))] 2 = mkF m 0 #[.val (.ref a1), .val (.int (1 : Int32))] [] := by first | (simp [entryFrame, mkF, argsToLocals, Value.category]; done) | rfl
def Q_rmg31 (Z : State) (a1 : Addr) (b1 : Addr) (c1 : Addr) (k1 : ClassId) (k2 : ClassId) (v0 : Int32) (v1 : Int32) (v2 : Int32) (h0 : Heap) (n0 : Nat) (v : Option Value) (h : Heap) (L : List Loc) : Prop := v = some (.int v1) ∧ Fr n0 L ∧ h = h0
set_option maxRecDepth 65536 in
set_option maxHeartbeats 40000000 in
theorem rmg31 (l : Launch) (Z : State) (a0 : Array Value) (hw : ∀ d ∈ tables_1, d.before a0 Z = true) (ws : List Jvm.Cond) (a1 : Addr) (b1 : Addr) (c1 : Addr) (k1 : ClassId) (k2 : ClassId) (v0 : Int32) (v1 : Int32) (v2 : Int32) (h0 : Heap) (n0 : Nat) (Z0 : n0 ≤ h0.size) (E1 : Exa Z h0 a1 "com/example/guarantor/guarantor/lts/IntBlocks") (F1 : Fld Z h0 a1 "com/example/guarantor/guarantor/lts/IntBlocks" "size" "I" (.int (3 : Int32))) (F2 : Fld Z h0 a1 "com/example/guarantor/guarantor/lts/IntBlocks" "blocks" "[[I" (.ref b1)) (V1 : Arv Z h0 b1 k1 (.array .int) (1 : Int32) [(.ref c1)] .null) (V2 : Arv Z h0 c1 k2 .int (16 : Int32) [(.int v0), (.int v1), (.int v2), (.int (0 : Int32)), (.int (0 : Int32)), (.int (0 : Int32)), (.int (0 : Int32)), (.int (0 : Int32)), (.int (0 : Int32)), (.int (0 : Int32)), (.int (0 : Int32)), (.int (0 : Int32)), (.int (0 : Int32)), (.int (0 : Int32)), (.int (0 : Int32)), (.int (0 : Int32))] (.int (0 : Int32))) :
    MetFree l (⟨"com/example/guarantor/guarantor/lts/IntBlocks", "get", "(I)I"⟩ : MethodName) (head1 (Jvm.Cond.code (⟨"com/example/guarantor/guarantor/lts/IntBlocks", "get", "(I)I"⟩ : MethodName) prog_56_method_5_code 2 (some .int) :: ws) ({ frames := 2, cells := 0, slots := 0, locals := 27 } : Room)) (fun a U => a = #[(.ref a1), (.int (1 : Int32))] ∧ Z.Warmed39 U.vm ∧ U.heap = h0) (fun _ _ _ _ _ => True) (fun _ U o U' => ∃ v L, o = .returned v ∧ Q_rmg31 Z a1 b1 c1 k1 k2 v0 v1 v2 h0 n0 v U'.heap L ∧ FrameEnd U o U' L ({ frames := 2, cells := 0, slots := 0, locals := 27 } : Room).cells ({ frames := 2, cells := 0, slots := 0, locals := 27 } : Room).slots) := by
  refine MetFree.of_bodySF (plainFor_of_name pn_rmg31) hisR ?_
  intro p e s m args_ below meth c s₁ Bd hml0 hP hK
  obtain ⟨hargs, hZ, hh⟩ := hP
  have hx := Bd.exec
  have hby := Bd.bytes
  have hml : c.maxLocals = 2 := hml0
  have hown : s.vm.findClass "com/example/guarantor/guarantor/lts/IntBlocks" = some m.cls := findClass_of_methodNamed Bd.named
  have hnm := (name_of_methodNamed Bd.named Bd.method).1
  have X0 : Stand p l e ({ frames := 2, cells := 0, slots := 0, locals := 27 } : Room) s m args_ below meth c s₁ [] 0 0 := Stand.of_body Bd
  have e0 : s₁.heap = h0 := by rw [← hh, Bd.state]; rfl
  have N0 := Fr.nil n0
  have hv : ∀ (i : Nat) {d : Jvm.Cond}, tables_1[i]? = some d → d.before a0 Z = true := fun i d q => hw d (List.mem_of_getElem? q)
  have k0 : Go p e below m (s₁.setTop (entryFrame m args_ 2)) s₁ 0 #[.val (.ref a1), .val (.int (1 : Int32))] [] := by rw [hargs]; exact fun t kt => castTop (ef_rmg31 m a1) kt
  obtain ⟨W, hWW⟩ : ∃ W, W = s₁.setTop (entryFrame m args_ 2) := ⟨_, rfl⟩
  rw [← hWW] at k0 ⊢
  show Done p e below s W (Q_rmg31 Z a1 b1 c1 k1 k2 v0 v1 v2 h0 n0) ({ frames := 2, cells := 0, slots := 0, locals := 27 } : Room).cells ({ frames := 2, cells := 0, slots := 0, locals := 27 } : Room).slots
  have k20 : Go p e below m W s₁ 2 #[.val (.ref a1), .val (.int (1 : Int32))] [(.ref a1), (.int (1 : Int32))] := (k0.iloadN X0 hx (hb hby d_rmg31_0) rfl).aloadN X0 hx (hb hby d_rmg31_1) rfl rfl
  obtain ⟨T21, X21, e21, k21⟩ := k20.getF X0 hx hZ hown (host := "") (Or.inl (hv 21 rfl)) Via.refl e0 F1 (hb hby d_rmg31_2)
  have k21 : Go p e below m W T21 5 #[.val (.ref a1), .val (.int (1 : Int32))] [(.int (3 : Int32)), (.int (1 : Int32))] := k21
  obtain ⟨T22, v22, L22, X22, Q22, k22⟩ := k21.stat (y := (⟨"java/util/Objects", "checkIndex", "(II)I"⟩ : MethodName)) (Wd := 0) (cells' := 0) (slots' := 0) (argsL := [(.int (1 : Int32)), (.int (3 : Int32))]) (rest := []) X21 hx hZ hown (by rw [hml]; rfl) (hv 29 rfl) (hv 30 rfl) (hv 32 rfl) (hv 31 rfl) (hb hby d_rmg31_5) (by decide) (rmo l Z a0 hw [] (1 : Int32) (3 : Int32) h0 n0 Z0 (by decide) (by decide)) e21 rfl rfl pd_rmg31_0 rfl (Nat.le_of_eq rfl) (by decide) (by decide) rfl rfl (by decide) (by decide)
  obtain ⟨rfl, Nq22, e22q⟩ := Q22
  have N22 := Fr.app N0 Nq22
  have e22 : T22.heap = h0 := e22q
  have k22 : Go p e below m W T22 8 #[.val (.ref a1), .val (.int (1 : Int32))] [(.int (1 : Int32))] := k22
  have k23 : Go p e below m W T22 10 #[.val (.ref a1), .val (.int (1 : Int32))] [(.ref a1)] := (k22.pop X22 hx (hb hby d_rmg31_8) rfl).aloadN X22 hx (hb hby d_rmg31_9) rfl rfl
  obtain ⟨T24, X24, e24, k24⟩ := k23.getF X22 hx hZ hown (host := "") (Or.inl (hv 14 rfl)) Via.refl e22 F2 (hb hby d_rmg31_10)
  have k24 : Go p e below m W T24 13 #[.val (.ref a1), .val (.int (1 : Int32))] [(.ref b1)] := k24
  have k25 : Go p e below m W T24 17 #[.val (.ref a1), .val (.int (1 : Int32))] [(.int (0 : Int32)), (.ref b1)] := (((k24.iloadN X24 hx (hb hby d_rmg31_13) rfl).bipush X24 hx (hb hby d_rmg31_14) (v := (13 : Int32)) rfl).iushr X24 hx (hb hby d_rmg31_16)).cast (y := (0 : Int32)) (by decide)
  have k26 : Go p e below m W T24 23 #[.val (.ref a1), .val (.int (1 : Int32))] [(.int (1 : Int32)), (.ref c1)] := ((((k25.aaload (i := 0) (n := 1) X24 hx hZ e24 V1 rfl rfl (by decide) (by decide) rfl rfl (hb hby d_rmg31_17)).iloadN X24 hx (hb hby d_rmg31_18) rfl).sipush X24 hx (hb hby d_rmg31_19) (v := (8191 : Int32)) rfl).iand X24 hx (hb hby d_rmg31_22)).cast (y := (1 : Int32)) (by decide)
  have k27 : Go p e below m W T24 24 #[.val (.ref a1), .val (.int (1 : Int32))] [(.int v1)] := k26.iaload (i := 1) (n := 16) X24 hx hZ e24 V2 rfl rfl (by decide) (by decide) rfl (hb hby d_rmg31_23)
  exact k27.ireturnI X24 hx Bd.returns (hb hby d_rmg31_24) (BodyLoose.notSynchronized Bd) (by rw [e24]; exact ⟨rfl, N22, rfl⟩) (by decide) (by decide)

theorem d_rms32_0 : decode prog_56_method_6_code 0 = .ok (.iload_n 1, 1) := by decide +kernel
theorem d_rms32_1 : decode prog_56_method_6_code 1 = .ok (.aload_n 0, 1) := by decide +kernel
theorem d_rms32_2 : decode prog_56_method_6_code 2 = .ok (.getfield 20, 3) := by decide +kernel
theorem d_rms32_5 : decode prog_56_method_6_code 5 = .ok (.invokestatic 46, 3) := by decide +kernel
theorem d_rms32_8 : decode prog_56_method_6_code 8 = .ok (.pop, 1) := by decide +kernel
theorem d_rms32_9 : decode prog_56_method_6_code 9 = .ok (.aload_n 0, 1) := by decide +kernel
theorem d_rms32_10 : decode prog_56_method_6_code 10 = .ok (.getfield 11, 3) := by decide +kernel
theorem d_rms32_13 : decode prog_56_method_6_code 13 = .ok (.iload_n 1, 1) := by decide +kernel
theorem d_rms32_14 : decode prog_56_method_6_code 14 = .ok (.bipush 13, 2) := by decide +kernel
theorem d_rms32_16 : decode prog_56_method_6_code 16 = .ok (.iushr, 1) := by decide +kernel
theorem d_rms32_17 : decode prog_56_method_6_code 17 = .ok (.aaload, 1) := by decide +kernel
theorem d_rms32_18 : decode prog_56_method_6_code 18 = .ok (.iload_n 1, 1) := by decide +kernel
theorem d_rms32_19 : decode prog_56_method_6_code 19 = .ok (.sipush 8191, 3) := by decide +kernel
theorem d_rms32_22 : decode prog_56_method_6_code 22 = .ok (.iand, 1) := by decide +kernel
theorem d_rms32_23 : decode prog_56_method_6_code 23 = .ok (.iload_n 2, 1) := by decide +kernel
theorem d_rms32_24 : decode prog_56_method_6_code 24 = .ok (.iastore, 1) := by decide +kernel
theorem d_rms32_25 : decode prog_56_method_6_code 25 = .ok (.return_, 1) := by decide +kernel
theorem pn_rms32 : plainName "com/example/guarantor/guarantor/lts/IntBlocks" = true := by first | (simp [plainName, overriddenIn]; done) | decide +kernel
theorem pd_rms32_0 : parseMethodDescriptor "(II)I" = some ⟨[.int, .int], (some .int)⟩ := by decide +kernel
theorem ef_rms32 (m : MethodId) (a1 : Addr) (p2 : Int32) : entryFrame m #[(.ref a1), (.int (2 : Int32)), (.int p2)] 3 = mkF m 0 #[.val (.ref a1), .val (.int (2 : Int32)), .val (.int p2)] [] := by first | (simp [entryFrame, mkF, argsToLocals, Value.category]; done) | rfl
def Q_rms32 (Z : State) (a1 : Addr) (b1 : Addr) (c1 : Addr) (k1 : ClassId) (k2 : ClassId) (p2 : Int32) (v0 : Int32) (v1 : Int32) (v2 : Int32) (h0 : Heap) (n0 : Nat) (v : Option Value) (h : Heap) (L : List Loc) : Prop := v = none ∧ Fr n0 L ∧ Keep h0 h [c1] ∧ Arv Z h c1 k2 .int (16 : Int32) [(.int v0), (.int v1), (.int p2), (.int (0 : Int32)), (.int (0 : Int32)), (.int (0 : Int32)), (.int (0 : Int32)), (.int (0 : Int32)), (.int (0 : Int32)), (.int (0 : Int32)), (.int (0 : Int32)), (.int (0 : Int32)), (.int (0 : Int32)), (.int (0 : Int32)), (.int (0 : Int32)), (.int (0 : Int32))] (.int (0 : Int32))
set_option maxRecDepth 65536 in
set_option maxHeartbeats 40000000 in
theorem rms32 (l : Launch) (Z : State) (a0 : Array Value) (hw : ∀ d ∈ tables_1, d.before a0 Z = true) (ws : List Jvm.Cond) (a1 : Addr) (b1 : Addr) (c1 : Addr) (k1 : ClassId) (k2 : ClassId) (p2 : Int32) (v0 : Int32) (v1 : Int32) (v2 : Int32) (h0 : Heap) (n0 : Nat) (Z0 : n0 ≤ h0.size) (E1 : Exa Z h0 a1 "com/example/guarantor/guarantor/lts/IntBlocks") (F1 : Fld Z h0 a1 "com/example/guarantor/guarantor/lts/IntBlocks" "size" "I" (.int (3 : Int32))) (F2 : Fld Z h0 a1 "com/example/guarantor/guarantor/lts/IntBlocks" "blocks" "[[I" (.ref b1)) (V1 : Arv Z h0 b1 k1 (.array .int) (1 : Int32) [(.ref c1)] .null) (V2 : Arv Z h0 c1 k2 .int (16 : Int32) [(.int v0), (.int v1), (.int v2), (.int (0 : Int32)), (.int (0 : Int32)), (.int (0 : Int32)), (.int (0 : Int32)), (.int (0 : Int32)), (.int (0 : Int32)), (.int (0 : Int32)), (.int (0 : Int32)), (.int (0 : Int32)), (.int (0 : Int32)), (.int (0 : Int32)), (.int (0 : Int32)), (.int (0 : Int32))] (.int (0 : Int32))) (G1 : n0 ≤ a1) (G3 : n0 ≤ c1) (n12 : a1 ≠ b1) (n13 : a1 ≠ c1) (n23 : b1 ≠ c1) :
    MetFree l (⟨"com/example/guarantor/guarantor/lts/IntBlocks", "set", "(II)V"⟩ : MethodName) (head1 (Jvm.Cond.code (⟨"com/example/guarantor/guarantor/lts/IntBlocks", "set", "(II)V"⟩ : MethodName) prog_56_method_6_code 3 none :: ws) ({ frames := 2, cells := 0, slots := 0, locals := 27 } : Room)) (fun a U => a = #[(.ref a1), (.int (2 : Int32)), (.int p2)] ∧ Z.Warmed39 U.vm ∧ U.heap = h0) (fun _ _ _ _ _ => True) (fun _ U o U' => ∃ v L, o = .returned v ∧ Q_rms32 Z a1 b1 c1 k1 k2 p2 v0 v1 v2 h0 n0 v U'.heap L ∧ FrameEnd U o U' L ({ frames := 2, cells := 0, slots := 0, locals := 27 } : Room).cells ({ frames := 2, cells := 0, slots := 0, locals := 27 } : Room).slots) := by
  refine MetFree.of_bodySF (plainFor_of_name pn_rms32) hisR ?_
  intro p e s m args_ below meth c s₁ Bd hml0 hP hK
  obtain ⟨hargs, hZ, hh⟩ := hP
  have hx := Bd.exec
  have hby := Bd.bytes
  have hml : c.maxLocals = 3 := hml0
  have hown : s.vm.findClass "com/example/guarantor/guarantor/lts/IntBlocks" = some m.cls := findClass_of_methodNamed Bd.named
  have hnm := (name_of_methodNamed Bd.named Bd.method).1
  have X0 : Stand p l e ({ frames := 2, cells := 0, slots := 0, locals := 27 } : Room) s m args_ below meth c s₁ [] 0 0 := Stand.of_body Bd
  have e0 : s₁.heap = h0 := by rw [← hh, Bd.state]; rfl
  have N0 := Fr.nil n0
  have hv : ∀ (i : Nat) {d : Jvm.Cond}, tables_1[i]? = some d → d.before a0 Z = true := fun i d q => hw d (List.mem_of_getElem? q)
  have K0 : Keep h0 h0 [c1] := Keep.refl _ _
  have k0 : Go p e below m (s₁.setTop (entryFrame m args_ 3)) s₁ 0 #[.val (.ref a1), .val (.int (2 : Int32)), .val (.int p2)] [] := by rw [hargs]; exact fun t kt => castTop (ef_rms32 m a1 p2) kt
  obtain ⟨W, hWW⟩ : ∃ W, W = s₁.setTop (entryFrame m args_ 3) := ⟨_, rfl⟩
  rw [← hWW] at k0 ⊢
  show Done p e below s W (Q_rms32 Z a1 b1 c1 k1 k2 p2 v0 v1 v2 h0 n0) ({ frames := 2, cells := 0, slots := 0, locals := 27 } : Room).cells ({ frames := 2, cells := 0, slots := 0, locals := 27 } : Room).slots
  have k20 : Go p e below m W s₁ 2 #[.val (.ref a1), .val (.int (2 : Int32)), .val (.int p2)] [(.ref a1), (.int (2 : Int32))] := (k0.iloadN X0 hx (hb hby d_rms32_0) rfl).aloadN X0 hx (hb hby d_rms32_1) rfl rfl
  obtain ⟨T21, X21, e21, k21⟩ := k20.getF X0 hx hZ hown (host := "") (Or.inl (hv 21 rfl)) Via.refl e0 F1 (hb hby d_rms32_2)
  have k21 : Go p e below m W T21 5 #[.val (.ref a1), .val (.int (2 : Int32)), .val (.int p2)] [(.int (3 : Int32)), (.int (2 : Int32))] := k21
  obtain ⟨T22, v22, L22, X22, Q22, k22⟩ := k21.stat (y := (⟨"java/util/Objects", "checkIndex", "(II)I"⟩ : MethodName)) (Wd := 0) (cells' := 0) (slots' := 0) (argsL := [(.int (2 : Int32)), (.int (3 : Int32))]) (rest := []) X21 hx hZ hown (by rw [hml]; rfl) (hv 29 rfl) (hv 30 rfl) (hv 32 rfl) (hv 31 rfl) (hb hby d_rms32_5) (by decide) (rmo l Z a0 hw [] (2 : Int32) (3 : Int32) h0 n0 Z0 (by decide) (by decide)) e21 rfl rfl pd_rms32_0 rfl (Nat.le_of_eq rfl) (by decide) (by decide) rfl rfl (by decide) (by decide)
  obtain ⟨rfl, Nq22, e22q⟩ := Q22
  have N22 := Fr.app N0 Nq22
  have e22 : T22.heap = h0 := e22q
  have k22 : Go p e below m W T22 8 #[.val (.ref a1), .val (.int (2 : Int32)), .val (.int p2)] [(.int (2 : Int32))] := k22
  have k23 : Go p e below m W T22 10 #[.val (.ref a1), .val (.int (2 : Int32)), .val (.int p2)] [(.ref a1)] := (k22.pop X22 hx (hb hby d_rms32_8) rfl).aloadN X22 hx (hb hby d_rms32_9) rfl rfl
  obtain ⟨T24, X24, e24, k24⟩ := k23.getF X22 hx hZ hown (host := "") (Or.inl (hv 14 rfl)) Via.refl e22 F2 (hb hby d_rms32_10)
  have k24 : Go p e below m W T24 13 #[.val (.ref a1), .val (.int (2 : Int32)), .val (.int p2)] [(.ref b1)] := k24
  have k25 : Go p e below m W T24 17 #[.val (.ref a1), .val (.int (2 : Int32)), .val (.int p2)] [(.int (0 : Int32)), (.ref b1)] := (((k24.iloadN X24 hx (hb hby d_rms32_13) rfl).bipush X24 hx (hb hby d_rms32_14) (v := (13 : Int32)) rfl).iushr X24 hx (hb hby d_rms32_16)).cast (y := (0 : Int32)) (by decide)
  have k26 : Go p e below m W T24 24 #[.val (.ref a1), .val (.int (2 : Int32)), .val (.int p2)] [(.int p2), (.int (2 : Int32)), (.ref c1)] := (((((k25.aaload (i := 0) (n := 1) X24 hx hZ e24 V1 rfl rfl (by decide) (by decide) rfl rfl (hb hby d_rms32_17)).iloadN X24 hx (hb hby d_rms32_18) rfl).sipush X24 hx (hb hby d_rms32_19) (v := (8191 : Int32)) rfl).iand X24 hx (hb hby d_rms32_22)).cast (y := (2 : Int32)) (by decide)).iloadN X24 hx (hb hby d_rms32_23) rfl
  obtain ⟨T27, h27, l27, X27, e27, W27, V27, N27, k27⟩ := k26.iastore (i := 2) X24 hx hZ e24 V2 rfl rfl (by decide) (Nat.le_of_ble_eq_true rfl) N22 G3 (hb hby d_rms32_24)
  have k27 : Go p e below m W T27 25 #[.val (.ref a1), .val (.int (2 : Int32)), .val (.int p2)] [] := k27
  have Z27 : n0 ≤ h27.size := (Wr.size W27).symm ▸ Z0
  have f28 := E1.wr W27
  have f29 := F1.other W27 (Or.inl n13)
  have f30 := F2.other W27 (Or.inl n13)
  have f31 := V1.other W27 n23
  have V27 : Arv Z h27 c1 k2 .int (16 : Int32) [(.int v0), (.int v1), (.int p2), (.int (0 : Int32)), (.int (0 : Int32)), (.int (0 : Int32)), (.int (0 : Int32)), (.int (0 : Int32)), (.int (0 : Int32)), (.int (0 : Int32)), (.int (0 : Int32)), (.int (0 : Int32)), (.int (0 : Int32)), (.int (0 : Int32)), (.int (0 : Int32)), (.int (0 : Int32))] (.int (0 : Int32)) := V27
  have K27 : Keep h0 h27 [c1] := K0.wr W27 (Or.inl (List.mem_of_getElem? (i := 0) rfl))
  exact k27.return_ X27 hx Bd.returns (hb hby d_rms32_25) (BodyLoose.notSynchronized Bd) (by rw [e27]; exact ⟨rfl, N27, K27, V27⟩) (by decide) (by decide)

theorem d_rmg32_0 : decode prog_56_method_5_code 0 = .ok (.iload_n 1, 1) := by decide +kernel
theorem d_rmg32_1 : decode prog_56_method_5_code 1 = .ok (.aload_n 0, 1) := by decide +kernel
theorem d_rmg32_2 : decode prog_56_method_5_code 2 = .ok (.getfield 20, 3) := by decide +kernel
theorem d_rmg32_5 : decode prog_56_method_5_code 5 = .ok (.invokestatic 46, 3) := by decide +kernel
theorem d_rmg32_8 : decode prog_56_method_5_code 8 = .ok (.pop, 1) := by decide +kernel
theorem d_rmg32_9 : decode prog_56_method_5_code 9 = .ok (.aload_n 0, 1) := by decide +kernel
theorem d_rmg32_10 : decode prog_56_method_5_code 10 = .ok (.getfield 11, 3) := by decide +kernel
theorem d_rmg32_13 : decode prog_56_method_5_code 13 = .ok (.iload_n 1, 1) := by decide +kernel
theorem d_rmg32_14 : decode prog_56_method_5_code 14 = .ok (.bipush 13, 2) := by decide +kernel
theorem d_rmg32_16 : decode prog_56_method_5_code 16 = .ok (.iushr, 1) := by decide +kernel
theorem d_rmg32_17 : decode prog_56_method_5_code 17 = .ok (.aaload, 1) := by decide +kernel
theorem d_rmg32_18 : decode prog_56_method_5_code 18 = .ok (.iload_n 1, 1) := by decide +kernel
theorem d_rmg32_19 : decode prog_56_method_5_code 19 = .ok (.sipush 8191, 3) := by decide +kernel
theorem d_rmg32_22 : decode prog_56_method_5_code 22 = .ok (.iand, 1) := by decide +kernel
theorem d_rmg32_23 : decode prog_56_method_5_code 23 = .ok (.iaload, 1) := by decide +kernel
theorem d_rmg32_24 : decode prog_56_method_5_code 24 = .ok (.ireturn, 1) := by decide +kernel
theorem pn_rmg32 : plainName "com/example/guarantor/guarantor/lts/IntBlocks" = true := by first | (simp [plainName, overriddenIn]; done) | decide +kernel
theorem pd_rmg32_0 : parseMethodDescriptor "(II)I" = some ⟨[.int, .int], (some .int)⟩ := by decide +kernel
theorem ef_rmg32 (m : MethodId) (a1 : Addr) : entryFrame m #[(.ref a1), (.int (2 : Int32))] 2 = mkF m 0 #[.val (.ref a1), .val (.int (2 : Int32))] [] := by first | (simp [entryFrame, mkF, argsToLocals, Value.category]; done) | rfl
def Q_rmg32 (Z : State) (a1 : Addr) (b1 : Addr) (c1 : Addr) (k1 : ClassId) (k2 : ClassId) (v0 : Int32) (v1 : Int32) (v2 : Int32) (h0 : Heap) (n0 : Nat) (v : Option Value) (h : Heap) (L : List Loc) : Prop := v = some (.int v2) ∧ Fr n0 L ∧ h = h0
set_option maxRecDepth 65536 in
set_option maxHeartbeats 40000000 in
theorem rmg32 (l : Launch) (Z : State) (a0 : Array Value) (hw : ∀ d ∈ tables_1, d.before a0 Z = true) (ws : List Jvm.Cond) (a1 : Addr) (b1 : Addr) (c1 : Addr) (k1 : ClassId) (k2 : ClassId) (v0 : Int32) (v1 : Int32) (v2 : Int32) (h0 : Heap) (n0 : Nat) (Z0 : n0 ≤ h0.size) (E1 : Exa Z h0 a1 "com/example/guarantor/guarantor/lts/IntBlocks") (F1 : Fld Z h0 a1 "com/example/guarantor/guarantor/lts/IntBlocks" "size" "I" (.int (3 : Int32))) (F2 : Fld Z h0 a1 "com/example/guarantor/guarantor/lts/IntBlocks" "blocks" "[[I" (.ref b1)) (V1 : Arv Z h0 b1 k1 (.array .int) (1 : Int32) [(.ref c1)] .null) (V2 : Arv Z h0 c1 k2 .int (16 : Int32) [(.int v0), (.int v1), (.int v2), (.int (0 : Int32)), (.int (0 : Int32)), (.int (0 : Int32)), (.int (0 : Int32)), (.int (0 : Int32)), (.int (0 : Int32)), (.int (0 : Int32)), (.int (0 : Int32)), (.int (0 : Int32)), (.int (0 : Int32)), (.int (0 : Int32)), (.int (0 : Int32)), (.int (0 : Int32))] (.int (0 : Int32))) :
    MetFree l (⟨"com/example/guarantor/guarantor/lts/IntBlocks", "get", "(I)I"⟩ : MethodName) (head1 (Jvm.Cond.code (⟨"com/example/guarantor/guarantor/lts/IntBlocks", "get", "(I)I"⟩ : MethodName) prog_56_method_5_code 2 (some .int) :: ws) ({ frames := 2, cells := 0, slots := 0, locals := 27 } : Room)) (fun a U => a = #[(.ref a1), (.int (2 : Int32))] ∧ Z.Warmed39 U.vm ∧ U.heap = h0) (fun _ _ _ _ _ => True) (fun _ U o U' => ∃ v L, o = .returned v ∧ Q_rmg32 Z a1 b1 c1 k1 k2 v0 v1 v2 h0 n0 v U'.heap L ∧ FrameEnd U o U' L ({ frames := 2, cells := 0, slots := 0, locals := 27 } : Room).cells ({ frames := 2, cells := 0, slots := 0, locals := 27 } : Room).slots) := by
  refine MetFree.of_bodySF (plainFor_of_name pn_rmg32) hisR ?_
  intro p e s m args_ below meth c s₁ Bd hml0 hP hK
  obtain ⟨hargs, hZ, hh⟩ := hP
  have hx := Bd.exec
  have hby := Bd.bytes
  have hml : c.maxLocals = 2 := hml0
  have hown : s.vm.findClass "com/example/guarantor/guarantor/lts/IntBlocks" = some m.cls := findClass_of_methodNamed Bd.named
  have hnm := (name_of_methodNamed Bd.named Bd.method).1
  have X0 : Stand p l e ({ frames := 2, cells := 0, slots := 0, locals := 27 } : Room) s m args_ below meth c s₁ [] 0 0 := Stand.of_body Bd
  have e0 : s₁.heap = h0 := by rw [← hh, Bd.state]; rfl
  have N0 := Fr.nil n0
  have hv : ∀ (i : Nat) {d : Jvm.Cond}, tables_1[i]? = some d → d.before a0 Z = true := fun i d q => hw d (List.mem_of_getElem? q)
  have k0 : Go p e below m (s₁.setTop (entryFrame m args_ 2)) s₁ 0 #[.val (.ref a1), .val (.int (2 : Int32))] [] := by rw [hargs]; exact fun t kt => castTop (ef_rmg32 m a1) kt
  obtain ⟨W, hWW⟩ : ∃ W, W = s₁.setTop (entryFrame m args_ 2) := ⟨_, rfl⟩
  rw [← hWW] at k0 ⊢
  show Done p e below s W (Q_rmg32 Z a1 b1 c1 k1 k2 v0 v1 v2 h0 n0) ({ frames := 2, cells := 0, slots := 0, locals := 27 } : Room).cells ({ frames := 2, cells := 0, slots := 0, locals := 27 } : Room).slots
  have k20 : Go p e below m W s₁ 2 #[.val (.ref a1), .val (.int (2 : Int32))] [(.ref a1), (.int (2 : Int32))] := (k0.iloadN X0 hx (hb hby d_rmg32_0) rfl).aloadN X0 hx (hb hby d_rmg32_1) rfl rfl
  obtain ⟨T21, X21, e21, k21⟩ := k20.getF X0 hx hZ hown (host := "") (Or.inl (hv 21 rfl)) Via.refl e0 F1 (hb hby d_rmg32_2)
  have k21 : Go p e below m W T21 5 #[.val (.ref a1), .val (.int (2 : Int32))] [(.int (3 : Int32)), (.int (2 : Int32))] := k21
  obtain ⟨T22, v22, L22, X22, Q22, k22⟩ := k21.stat (y := (⟨"java/util/Objects", "checkIndex", "(II)I"⟩ : MethodName)) (Wd := 0) (cells' := 0) (slots' := 0) (argsL := [(.int (2 : Int32)), (.int (3 : Int32))]) (rest := []) X21 hx hZ hown (by rw [hml]; rfl) (hv 29 rfl) (hv 30 rfl) (hv 32 rfl) (hv 31 rfl) (hb hby d_rmg32_5) (by decide) (rmo l Z a0 hw [] (2 : Int32) (3 : Int32) h0 n0 Z0 (by decide) (by decide)) e21 rfl rfl pd_rmg32_0 rfl (Nat.le_of_eq rfl) (by decide) (by decide) rfl rfl (by decide) (by decide)
  obtain ⟨rfl, Nq22, e22q⟩ := Q22
  have N22 := Fr.app N0 Nq22
  have e22 : T22.heap = h0 := e22q
  have k22 : Go p e below m W T22 8 #[.val (.ref a1), .val (.int (2 : Int32))] [(.int (2 : Int32))] := k22
  have k23 : Go p e below m W T22 10 #[.val (.ref a1), .val (.int (2 : Int32))] [(.ref a1)] := (k22.pop X22 hx (hb hby d_rmg32_8) rfl).aloadN X22 hx (hb hby d_rmg32_9) rfl rfl
  obtain ⟨T24, X24, e24, k24⟩ := k23.getF X22 hx hZ hown (host := "") (Or.inl (hv 14 rfl)) Via.refl e22 F2 (hb hby d_rmg32_10)
  have k24 : Go p e below m W T24 13 #[.val (.ref a1), .val (.int (2 : Int32))] [(.ref b1)] := k24
  have k25 : Go p e below m W T24 17 #[.val (.ref a1), .val (.int (2 : Int32))] [(.int (0 : Int32)), (.ref b1)] := (((k24.iloadN X24 hx (hb hby d_rmg32_13) rfl).bipush X24 hx (hb hby d_rmg32_14) (v := (13 : Int32)) rfl).iushr X24 hx (hb hby d_rmg32_16)).cast (y := (0 : Int32)) (by decide)
  have k26 : Go p e below m W T24 23 #[.val (.ref a1), .val (.int (2 : Int32))] [(.int (2 : Int32)), (.ref c1)] := ((((k25.aaload (i := 0) (n := 1) X24 hx hZ e24 V1 rfl rfl (by decide) (by decide) rfl rfl (hb hby d_rmg32_17)).iloadN X24 hx (hb hby d_rmg32_18) rfl).sipush X24 hx (hb hby d_rmg32_19) (v := (8191 : Int32)) rfl).iand X24 hx (hb hby d_rmg32_22)).cast (y := (2 : Int32)) (by decide)
  have k27 : Go p e below m W T24 24 #[.val (.ref a1), .val (.int (2 : Int32))] [(.int v2)] := k26.iaload (i := 2) (n := 16) X24 hx hZ e24 V2 rfl rfl (by decide) (by decide) rfl (hb hby d_rmg32_23)
  exact k27.ireturnI X24 hx Bd.returns (hb hby d_rmg32_24) (BodyLoose.notSynchronized Bd) (by rw [e24]; exact ⟨rfl, N22, rfl⟩) (by decide) (by decide)

theorem d_rmz_0 : decode prog_56_method_7_code 0 = .ok (.aload_n 0, 1) := by decide +kernel
theorem d_rmz_1 : decode prog_56_method_7_code 1 = .ok (.getfield 20, 3) := by decide +kernel
theorem d_rmz_4 : decode prog_56_method_7_code 4 = .ok (.ireturn, 1) := by decide +kernel
theorem pn_rmz : plainName "com/example/guarantor/guarantor/lts/IntBlocks" = true := by first | (simp [plainName, overriddenIn]; done) | decide +kernel
theorem ef_rmz (m : MethodId) (a1 : Addr) : entryFrame m #[(.ref a1)] 1 = mkF m 0 #[.val (.ref a1)] [] := by first | (simp [entryFrame, mkF, argsToLocals, Value.category]; done) | rfl
def Q_rmz (Z : State) (a1 : Addr) (w2 : Int32) (h0 : Heap) (n0 : Nat) (v : Option Value) (h : Heap) (L : List Loc) : Prop := v = some (.int w2) ∧ Fr n0 L ∧ h = h0
set_option maxRecDepth 65536 in
set_option maxHeartbeats 40000000 in
theorem rmz (l : Launch) (Z : State) (a0 : Array Value) (hw : ∀ d ∈ tables_1, d.before a0 Z = true) (ws : List Jvm.Cond) (a1 : Addr) (w2 : Int32) (h0 : Heap) (n0 : Nat) (Z0 : n0 ≤ h0.size) (F1 : Fld Z h0 a1 "com/example/guarantor/guarantor/lts/IntBlocks" "size" "I" (.int w2)) :
    MetFree l (⟨"com/example/guarantor/guarantor/lts/IntBlocks", "size", "()I"⟩ : MethodName) (head1 (Jvm.Cond.code (⟨"com/example/guarantor/guarantor/lts/IntBlocks", "size", "()I"⟩ : MethodName) prog_56_method_7_code 1 (some .int) :: ws) ({ frames := 0, cells := 0, slots := 0, locals := 0 } : Room)) (fun a U => a = #[(.ref a1)] ∧ Z.Warmed39 U.vm ∧ U.heap = h0) (fun _ _ _ _ _ => True) (fun _ U o U' => ∃ v L, o = .returned v ∧ Q_rmz Z a1 w2 h0 n0 v U'.heap L ∧ FrameEnd U o U' L ({ frames := 0, cells := 0, slots := 0, locals := 0 } : Room).cells ({ frames := 0, cells := 0, slots := 0, locals := 0 } : Room).slots) := by
  refine MetFree.of_bodySF (plainFor_of_name pn_rmz) hisR ?_
  intro p e s m args_ below meth c s₁ Bd hml0 hP hK
  obtain ⟨hargs, hZ, hh⟩ := hP
  have hx := Bd.exec
  have hby := Bd.bytes
  have hml : c.maxLocals = 1 := hml0
  have hown : s.vm.findClass "com/example/guarantor/guarantor/lts/IntBlocks" = some m.cls := findClass_of_methodNamed Bd.named
  have hnm := (name_of_methodNamed Bd.named Bd.method).1
  have X0 : Stand p l e ({ frames := 0, cells := 0, slots := 0, locals := 0 } : Room) s m args_ below meth c s₁ [] 0 0 := Stand.of_body Bd
  have e0 : s₁.heap = h0 := by rw [← hh, Bd.state]; rfl
  have N0 := Fr.nil n0
  have hv : ∀ (i : Nat) {d : Jvm.Cond}, tables_1[i]? = some d → d.before a0 Z = true := fun i d q => hw d (List.mem_of_getElem? q)
  have k0 : Go p e below m (s₁.setTop (entryFrame m args_ 1)) s₁ 0 #[.val (.ref a1)] [] := by rw [hargs]; exact fun t kt => castTop (ef_rmz m a1) kt
  obtain ⟨W, hWW⟩ : ∃ W, W = s₁.setTop (entryFrame m args_ 1) := ⟨_, rfl⟩
  rw [← hWW] at k0 ⊢
  show Done p e below s W (Q_rmz Z a1 w2 h0 n0) ({ frames := 0, cells := 0, slots := 0, locals := 0 } : Room).cells ({ frames := 0, cells := 0, slots := 0, locals := 0 } : Room).slots
  have k20 : Go p e below m W s₁ 1 #[.val (.ref a1)] [(.ref a1)] := k0.aloadN X0 hx (hb hby d_rmz_0) rfl rfl
  obtain ⟨T21, X21, e21, k21⟩ := k20.getF X0 hx hZ hown (host := "") (Or.inl (hv 21 rfl)) Via.refl e0 F1 (hb hby d_rmz_1)
  have k21 : Go p e below m W T21 4 #[.val (.ref a1)] [(.int w2)] := k21
  exact k21.ireturnI X21 hx Bd.returns (hb hby d_rmz_4) (BodyLoose.notSynchronized Bd) (by rw [e21]; exact ⟨rfl, N0, rfl⟩) (by decide) (by decide)

theorem pn_rm0 : plainName "com/example/guarantor/guarantor/lts/IntBlocksSetPinLaw" = true := by first | (simp [plainName, overriddenIn]; done) | decide +kernel
theorem pd_rm0_0 : parseMethodDescriptor "()V" = some ⟨[], none⟩ := by decide +kernel
theorem pd_rm0_1 : parseMethodDescriptor "(I)V" = some ⟨[.int], none⟩ := by decide +kernel
theorem pd_rm0_2 : parseMethodDescriptor "(II)V" = some ⟨[.int, .int], none⟩ := by decide +kernel
theorem pd_rm0_3 : parseMethodDescriptor "()I" = some ⟨[], (some .int)⟩ := by decide +kernel
theorem pd_rm0_4 : parseMethodDescriptor "(I)I" = some ⟨[.int], (some .int)⟩ := by decide +kernel
theorem ef_rm0 (m : MethodId) (p1 : Int32) (p2 : Int32) (p3 : Int32) (p4 : Int32) (p5 : Int32) (p6 : Int32) : entryFrame m #[(.int p1), (.int p2), (.int p3), (.int p4), (.int p5), (.int p6)] maxLocals = mkF m 0 #[.val (.int p1), .val (.int p2), .val (.int p3), .val (.int p4), .val (.int p5), .val (.int p6), .unset, .unset, .unset, .unset, .unset, .unset] [] := by first | (simp [entryFrame, mkF, argsToLocals, Value.category, maxLocals]; done) | rfl
def Q_rm0 (Z : State) (p1 : Int32) (p2 : Int32) (p3 : Int32) (p4 : Int32) (p5 : Int32) (p6 : Int32) (h0 : Heap) (n0 : Nat) (v : Option Value) (h : Heap) (L : List Loc) : Prop := v = some (.int (1 : Int32)) ∧ Fr n0 L
set_option maxRecDepth 65536 in
set_option maxHeartbeats 40000000 in
theorem rm0 (l : Launch) (Z : State) (a0 : Array Value) (hw : ∀ d ∈ tables_1, d.before a0 Z = true) (ws : List Jvm.Cond) (p1 : Int32) (p2 : Int32) (p3 : Int32) (p4 : Int32) (p5 : Int32) (p6 : Int32) (h0 : Heap) (n0 : Nat) (Z0 : n0 ≤ h0.size) (O0 : Old Z n0 h0) :
    MetFree l x (head1 (Jvm.Cond.code x code maxLocals ret :: ws) room_1) (fun a U => a = #[(.int p1), (.int p2), (.int p3), (.int p4), (.int p5), (.int p6)] ∧ Z.Warmed39 U.vm ∧ U.heap = h0) (fun _ _ _ _ _ => True) (fun _ U o U' => ∃ v L, o = .returned v ∧ Q_rm0 Z p1 p2 p3 p4 p5 p6 h0 n0 v U'.heap L ∧ FrameEnd U o U' L room_1.cells room_1.slots) := by
  refine MetFree.of_bodySF (plainFor_of_name pn_rm0) hisR ?_
  intro p e s m args_ below meth c s₁ Bd hml0 hP hK
  obtain ⟨hargs, hZ, hh⟩ := hP
  have hx := Bd.exec
  have hby := Bd.bytes
  have hml : c.maxLocals = 12 := hml0
  have hown : s.vm.findClass "com/example/guarantor/guarantor/lts/IntBlocksSetPinLaw" = some m.cls := findClass_of_methodNamed Bd.named
  have hnm := (name_of_methodNamed Bd.named Bd.method).1
  have X0 : Stand p l e room_1 s m args_ below meth c s₁ [] 0 0 := Stand.of_body Bd
  have e0 : s₁.heap = h0 := by rw [← hh, Bd.state]; rfl
  have N0 := Fr.nil n0
  have hv : ∀ (i : Nat) {d : Jvm.Cond}, tables_1[i]? = some d → d.before a0 Z = true := fun i d q => hw d (List.mem_of_getElem? q)
  have k0 : Go p e below m (s₁.setTop (entryFrame m args_ maxLocals)) s₁ 0 #[.val (.int p1), .val (.int p2), .val (.int p3), .val (.int p4), .val (.int p5), .val (.int p6), .unset, .unset, .unset, .unset, .unset, .unset] [] := by rw [hargs]; exact fun t kt => castTop (ef_rm0 m p1 p2 p3 p4 p5 p6) kt
  obtain ⟨W, hWW⟩ : ∃ W, W = s₁.setTop (entryFrame m args_ maxLocals) := ⟨_, rfl⟩
  rw [← hWW] at k0 ⊢
  show Done p e below s W (Q_rm0 Z p1 p2 p3 p4 p5 p6 h0 n0) room_1.cells room_1.slots
  have k20 : Go p e below m W s₁ 7 #[.val (.int p1), .val (.int p2), .val (.int p3), .val (.int p4), .val (.int p5), .val (.int p6), .unset, .unset, .unset, .unset, .unset, .unset] [(.int ((p5 &&& (2147483647 : Int32)) % (3 : Int32)))] := ((((k0.iload X0 hx (hb hby at_0) rfl).ldcI X0 hx hZ hown (hv 0 rfl) (hb hby at_2)).iand X0 hx (hb hby at_4)).iconst X0 hx (hb hby at_5) (v := (3 : Int32)) rfl).irem X0 hx (hb hby at_6) (by decide)
  obtain ⟨r21, hr21, hs21⟩ : ∃ r : Int32, r = ((p5 &&& (2147483647 : Int32)) % (3 : Int32)) ∧ (r = (0 : Int32) ∨ r = (1 : Int32) ∨ r = (2 : Int32)) := ⟨_, rfl, own_r3 p5⟩
  have k22 : Go p e below m W s₁ 7 #[.val (.int p1), .val (.int p2), .val (.int p3), .val (.int p4), .val (.int p5), .val (.int p6), .unset, .unset, .unset, .unset, .unset, .unset] [(.int r21)] := hr21 ▸ k20
  clear hr21
  rcases hs21 with q23 | q24 | q25
  ·
    subst r21
    have k26 : Go p e below m W s₁ 11 #[.val (.int p1), .val (.int p2), .val (.int p3), .val (.int p4), .val (.int p5), .val (.int p6), .val (.int (1 : Int32)), .unset, .unset, .unset, .unset, .unset] [] := (((k22.iconst X0 hx (hb hby at_7) (v := (1 : Int32)) rfl).iadd X0 hx (hb hby at_8)).cast (y := (1 : Int32)) (by decide)).istore X0 hx (hb hby at_9) rfl
    have k27 : Go p e below m W s₁ 19 #[.val (.int p1), .val (.int p2), .val (.int p3), .val (.int p4), .val (.int p5), .val (.int p6), .val (.int (1 : Int32)), .unset, .unset, .unset, .unset, .unset] [(.int ((p6 &&& (2147483647 : Int32)) % (1 : Int32)))] := ((((k26.iload X0 hx (hb hby at_11) rfl).ldcI X0 hx hZ hown (hv 0 rfl) (hb hby at_13)).iand X0 hx (hb hby at_15)).iload X0 hx (hb hby at_16) rfl).irem X0 hx (hb hby at_18) (by decide)
    obtain ⟨r28, hr28, hs28⟩ : ∃ r : Int32, r = ((p6 &&& (2147483647 : Int32)) % (1 : Int32)) ∧ (r = (0 : Int32)) := ⟨_, rfl, own_r1 p6⟩
    have k29 : Go p e below m W s₁ 19 #[.val (.int p1), .val (.int p2), .val (.int p3), .val (.int p4), .val (.int p5), .val (.int p6), .val (.int (1 : Int32)), .unset, .unset, .unset, .unset, .unset] [(.int r28)] := hr28 ▸ k27
    clear hr28
    subst hs28
    have k30 : Go p e below m W s₁ 21 #[.val (.int p1), .val (.int p2), .val (.int p3), .val (.int p4), .val (.int p5), .val (.int p6), .val (.int (1 : Int32)), .val (.int (0 : Int32)), .unset, .unset, .unset, .unset] [] := k29.istore X0 hx (hb hby at_19) rfl
    obtain ⟨T31, h31, b31, X31, e31, g31, E31, A31, D31, k31⟩ := k30.newO (cells' := 1) (slots' := 2) X0 hx hZ hown (hv 1 rfl) (hv 2 rfl) (hv 3 rfl) e0 (hb hby at_21) rfl rfl (by decide) (by decide)
    have k31 : Go p e below m W T31 24 #[.val (.int p1), .val (.int p2), .val (.int p3), .val (.int p4), .val (.int p5), .val (.int p6), .val (.int (1 : Int32)), .val (.int (0 : Int32)), .unset, .unset, .unset, .unset] [(.ref b31)] := k31
    have Z31 : n0 ≤ h31.size := Nat.le_trans Z0 E31.1
    have f32 := O0.ext E31
    have G31 : n0 ≤ b31 := g31 ▸ Z0
    have f33 : Fld Z h31 b31 "com/example/guarantor/guarantor/lts/IntBlocks" "blocks" "[[I" .null := D31 (Or.inl (hv 15 rfl)) (ty := (.array (.array .int))) (by decide)
    have f34 : Fld Z h31 b31 "com/example/guarantor/guarantor/lts/IntBlocks" "size" "I" (.int (0 : Int32)) := D31 (Or.inl (hv 22 rfl)) (ty := .int) (by decide)
    have k35 : Go p e below m W T31 25 #[.val (.int p1), .val (.int p2), .val (.int p3), .val (.int p4), .val (.int p5), .val (.int p6), .val (.int (1 : Int32)), .val (.int (0 : Int32)), .unset, .unset, .unset, .unset] [(.ref b31), (.ref b31)] := k31.dup X31 hx (hb hby at_24) rfl
    obtain ⟨T36, v36, L36, X36, Q36, k36⟩ := k35.spec (y := (⟨"com/example/guarantor/guarantor/lts/IntBlocks", "<init>", "()V"⟩ : MethodName)) (b := b31) (Wd := 1) (cells' := 3) (slots' := 19) (argsL := []) (rest := [(.ref b31)]) X31 hx hZ hown (by rw [hml]; rfl) rfl (hv 4 rfl) (hv 5 rfl) (hv 6 rfl) (hv 3 rfl) (hb hby at_25) (by decide) (rmi l Z a0 hw [] b31 .null h31 n0 Z31 A31 G31 f33 f34) e31 rfl rfl pd_rm0_0 rfl (Nat.le_of_eq rfl) (by decide) (by decide) rfl rfl (by decide) (by decide)
    obtain ⟨ob_36, oc_36, ok_36, oq_36, rfl, Nq36, Kq36, q36_0, q36_1, q36_2, q36_3, q36_4, q36_5, q36_6, q36_7, q36_8, q36_9, q36_10, q36_11⟩ := Q36
    have N36 := Fr.app N0 Nq36
    obtain ⟨h36, e36⟩ : ∃ h, T36.heap = h := ⟨_, rfl⟩
    rw [e36] at Kq36 q36_0 q36_1 q36_2 q36_3 q36_4
    have Z36 : n0 ≤ h36.size := Nat.le_trans Z31 Kq36.1
    have f37 := f32.keep Kq36 (by intro x q; simp only [List.mem_cons, List.not_mem_nil, or_false] at q; rcases q with rfl; exact G31)
    have f38 := A31.keep Kq36
    have ne39_b31 : b31 ≠ ob_36 := Nat.ne_of_lt (Nat.lt_of_lt_of_le A31.lt q36_7)
    have ne40_b31 : b31 ≠ oc_36 := Nat.ne_of_lt (Nat.lt_of_lt_of_le A31.lt q36_8)
    have k36 : Go p e below m W T36 28 #[.val (.int p1), .val (.int p2), .val (.int p3), .val (.int p4), .val (.int p5), .val (.int p6), .val (.int (1 : Int32)), .val (.int (0 : Int32)), .unset, .unset, .unset, .unset] [(.ref b31)] := k36
    have k41 : Go p e below m W T36 30 #[.val (.int p1), .val (.int p2), .val (.int p3), .val (.int p4), .val (.int p5), .val (.int p6), .val (.int (1 : Int32)), .val (.int (0 : Int32)), .val (.ref b31), .unset, .unset, .unset] [] := k36.astore X36 hx (hb hby at_28) rfl rfl
    have k42 : Go p e below m W T36 33 #[.val (.int p1), .val (.int p2), .val (.int p3), .val (.int p4), .val (.int p5), .val (.int p6), .val (.int (1 : Int32)), .val (.int (0 : Int32)), .val (.ref b31), .unset, .unset, .unset] [(.int p1), (.ref b31)] := (k41.aload X36 hx (hb hby at_30) rfl rfl).iloadN X36 hx (hb hby at_32) rfl
    obtain ⟨T43, v43, L43, X43, Q43, k43⟩ := k42.virt (y := (⟨"com/example/guarantor/guarantor/lts/IntBlocks", "add", "(I)V"⟩ : MethodName)) (z := (⟨"com/example/guarantor/guarantor/lts/IntBlocks", "add", "(I)V"⟩ : MethodName)) (Wd := 0) (cells' := 3) (slots' := 19) (argsL := [(.int p1)]) (rest := []) X36 hx hZ hown (by rw [hml]; rfl) (hv 16 rfl) (hv 17 rfl) (notFace_of_selects (args := #[]) (mvT hZ (hv 19 rfl))) (hv 19 rfl) (hv 18 rfl) (hv 20 rfl) (hv 3 rfl) (hb hby at_33) (by decide) (rma0 l Z a0 hw [] b31 ob_36 oc_36 ok_36 oq_36 p1 h36 n0 Z36 q36_0 q36_1 q36_2 q36_3 q36_4 G31 q36_6 q36_9 q36_10 q36_11) e36 q36_0 rfl rfl pd_rm0_1 rfl (Nat.le_of_eq rfl) (by decide) (by decide) rfl rfl (by decide) (by decide)
    obtain ⟨rfl, Nq43, Kq43, q43_0, q43_1, q43_2, q43_3⟩ := Q43
    have N43 := Fr.app N36 Nq43
    obtain ⟨h43, e43⟩ : ∃ h, T43.heap = h := ⟨_, rfl⟩
    rw [e43] at Kq43 q43_0 q43_1 q43_2 q43_3
    have Z43 : n0 ≤ h43.size := Nat.le_trans Z36 Kq43.1
    have f44 := f37.keep Kq43 (by intro x q; simp only [List.mem_cons, List.not_mem_nil, or_false] at q; rcases q with rfl | rfl <;> first | exact G31 | exact q36_6)
    have f45 := q36_0.keep Kq43
    have f46 := q36_3.keep Kq43 (by simp only [List.mem_cons, List.not_mem_nil, or_false, not_or]; exact ⟨(Ne.symm q36_9), q36_11⟩)
    have k43 : Go p e below m W T43 36 #[.val (.int p1), .val (.int p2), .val (.int p3), .val (.int p4), .val (.int p5), .val (.int p6), .val (.int (1 : Int32)), .val (.int (0 : Int32)), .val (.ref b31), .unset, .unset, .unset] [] := k43
    have k47 : Go p e below m W T43 65 #[.val (.int p1), .val (.int p2), .val (.int p3), .val (.int p4), .val (.int p5), .val (.int p6), .val (.int (1 : Int32)), .val (.int (0 : Int32)), .val (.ref b31), .unset, .unset, .unset] [(.int p4), (.int (0 : Int32)), (.ref b31)] := ((((((((k43.iload X43 hx (hb hby at_36) rfl).iconst X43 hx (hb hby at_38) (v := (2 : Int32)) rfl).icmpYes X43 hx (hb hby at_39) (XT.ii_lt_t (by decide)) (by decide) (by decide)).iload X43 hx (hb hby at_48) rfl).iconst X43 hx (hb hby at_50) (v := (3 : Int32)) rfl).icmpYes X43 hx (hb hby at_51) (XT.ii_lt_t (by decide)) (by decide) (by decide)).aload X43 hx (hb hby at_60) rfl rfl).iload X43 hx (hb hby at_62) rfl).iloadN X43 hx (hb hby at_64) rfl
    obtain ⟨T48, v48, L48, X48, Q48, k48⟩ := k47.virt (y := (⟨"com/example/guarantor/guarantor/lts/IntBlocks", "set", "(II)V"⟩ : MethodName)) (z := (⟨"com/example/guarantor/guarantor/lts/IntBlocks", "set", "(II)V"⟩ : MethodName)) (Wd := 0) (cells' := 3) (slots' := 19) (argsL := [(.int (0 : Int32)), (.int p4)]) (rest := []) X43 hx hZ hown (by rw [hml]; rfl) (hv 24 rfl) (hv 25 rfl) (notFace_of_selects (args := #[]) (mvT hZ (hv 27 rfl))) (hv 27 rfl) (hv 26 rfl) (hv 28 rfl) (hv 3 rfl) (hb hby at_65) (by decide) (rms10 l Z a0 hw [] b31 ob_36 oc_36 ok_36 oq_36 p4 p1 h43 n0 Z43 q43_0 q43_1 q43_2 f46 q43_3 G31 q36_6 q36_9 q36_10 q36_11) e43 q43_0 rfl rfl pd_rm0_2 rfl (Nat.le_of_eq rfl) (by decide) (by decide) rfl rfl (by decide) (by decide)
    obtain ⟨rfl, Nq48, Kq48, q48_0⟩ := Q48
    have N48 := Fr.app N43 Nq48
    obtain ⟨h48, e48⟩ : ∃ h, T48.heap = h := ⟨_, rfl⟩
    rw [e48] at Kq48 q48_0
    have Z48 : n0 ≤ h48.size := Nat.le_trans Z43 Kq48.1
    have f49 := f44.keep Kq48 (by intro x q; simp only [List.mem_cons, List.not_mem_nil, or_false] at q; rcases q with rfl; exact q36_6)
    have f50 := q43_0.keep Kq48
    have f51 := f46.keep Kq48 (by simp only [List.mem_cons, List.not_mem_nil, or_false, not_or]; exact q36_11)
    have f52 := q43_1.keep Kq48 (by simp only [List.mem_cons, List.not_mem_nil, or_false, not_or]; exact q36_10)
    have f53 := q43_2.keep Kq48 (by simp only [List.mem_cons, List.not_mem_nil, or_false, not_or]; exact q36_10)
    have k48 : Go p e below m W T48 68 #[.val (.int p1), .val (.int p2), .val (.int p3), .val (.int p4), .val (.int p5), .val (.int p6), .val (.int (1 : Int32)), .val (.int (0 : Int32)), .val (.ref b31), .unset, .unset, .unset] [] := k48
    have k54 : Go p e below m W T48 70 #[.val (.int p1), .val (.int p2), .val (.int p3), .val (.int p4), .val (.int p5), .val (.int p6), .val (.int (1 : Int32)), .val (.int (0 : Int32)), .val (.ref b31), .unset, .unset, .unset] [(.ref b31)] := k48.aload X48 hx (hb hby at_68) rfl rfl
    obtain ⟨T55, v55, L55, X55, Q55, k55⟩ := k54.virt (y := (⟨"com/example/guarantor/guarantor/lts/IntBlocks", "size", "()I"⟩ : MethodName)) (z := (⟨"com/example/guarantor/guarantor/lts/IntBlocks", "size", "()I"⟩ : MethodName)) (Wd := 0) (cells' := 3) (slots' := 19) (argsL := []) (rest := []) X48 hx hZ hown (by rw [hml]; rfl) (hv 37 rfl) (hv 38 rfl) (notFace_of_selects (args := #[]) (mvT hZ (hv 40 rfl))) (hv 40 rfl) (hv 39 rfl) (hv 41 rfl) (hv 3 rfl) (hb hby at_70) (by decide) (rmz l Z a0 hw [] b31 (1 : Int32) h48 n0 Z48 f52) e48 f50 rfl rfl pd_rm0_3 rfl (Nat.le_of_eq rfl) (by decide) (by decide) rfl rfl (by decide) (by decide)
    obtain ⟨rfl, Nq55, e55q⟩ := Q55
    have N55 := Fr.app N48 Nq55
    have e55 : T55.heap = h48 := e55q
    have k55 : Go p e below m W T55 73 #[.val (.int p1), .val (.int p2), .val (.int p3), .val (.int p4), .val (.int p5), .val (.int p6), .val (.int (1 : Int32)), .val (.int (0 : Int32)), .val (.ref b31), .unset, .unset, .unset] [(.int (1 : Int32))] := k55
    have k56 : Go p e below m W T55 85 #[.val (.int p1), .val (.int p2), .val (.int p3), .val (.int p4), .val (.int p5), .val (.int p6), .val (.int (1 : Int32)), .val (.int (0 : Int32)), .val (.ref b31), .val (.int (1 : Int32)), .unset, .unset] [] := ((((k55.iload X55 hx (hb hby at_73) rfl).icmpNo X55 hx (hb hby at_75) (XT.ii_ne_f (by decide))).iconst X55 hx (hb hby at_78) (v := (1 : Int32)) rfl).goto X55 hx (hb hby at_79) (by decide) (by decide)).istore X55 hx (hb hby at_83) rfl
    have k57 : Go p e below m W T55 97 #[.val (.int p1), .val (.int p2), .val (.int p3), .val (.int p4), .val (.int p5), .val (.int p6), .val (.int (1 : Int32)), .val (.int (0 : Int32)), .val (.ref b31), .val (.int (1 : Int32)), .val (.int p4), .unset] [] := ((((k56.iload X55 hx (hb hby at_85) rfl).ifNo X55 hx (hb hby at_87) (XT.i0_ne_f (by decide))).iloadN X55 hx (hb hby at_90) rfl).goto X55 hx (hb hby at_91) (by decide) (by decide)).istore X55 hx (hb hby at_95) rfl
    have k58 : Go p e below m W T55 105 #[.val (.int p1), .val (.int p2), .val (.int p3), .val (.int p4), .val (.int p5), .val (.int p6), .val (.int (1 : Int32)), .val (.int (0 : Int32)), .val (.ref b31), .val (.int (1 : Int32)), .val (.int p4), .unset] [(.int (0 : Int32)), (.ref b31)] := (((k57.iload X55 hx (hb hby at_97) rfl).ifNo X55 hx (hb hby at_99) (XT.i0_eq_f (by decide))).aload X55 hx (hb hby at_102) rfl rfl).iconst X55 hx (hb hby at_104) (v := (0 : Int32)) rfl
    obtain ⟨T59, v59, L59, X59, Q59, k59⟩ := k58.virt (y := (⟨"com/example/guarantor/guarantor/lts/IntBlocks", "get", "(I)I"⟩ : MethodName)) (z := (⟨"com/example/guarantor/guarantor/lts/IntBlocks", "get", "(I)I"⟩ : MethodName)) (Wd := 0) (cells' := 3) (slots' := 19) (argsL := [(.int (0 : Int32))]) (rest := []) X55 hx hZ hown (by rw [hml]; rfl) (hv 42 rfl) (hv 43 rfl) (notFace_of_selects (args := #[]) (mvT hZ (hv 45 rfl))) (hv 45 rfl) (hv 44 rfl) (hv 46 rfl) (hv 3 rfl) (hb hby at_105) (by decide) (rmg10 l Z a0 hw [] b31 ob_36 oc_36 ok_36 oq_36 p4 h48 n0 Z48 f50 f52 f53 f51 q48_0) e55 f50 rfl rfl pd_rm0_4 rfl (Nat.le_of_eq rfl) (by decide) (by decide) rfl rfl (by decide) (by decide)
    obtain ⟨rfl, Nq59, e59q⟩ := Q59
    have N59 := Fr.app N55 Nq59
    have e59 : T59.heap = h48 := e59q
    have k59 : Go p e below m W T59 108 #[.val (.int p1), .val (.int p2), .val (.int p3), .val (.int p4), .val (.int p5), .val (.int p6), .val (.int (1 : Int32)), .val (.int (0 : Int32)), .val (.ref b31), .val (.int (1 : Int32)), .val (.int p4), .unset] [(.int p4)] := k59
    have k60 : Go p e below m W T59 120 #[.val (.int p1), .val (.int p2), .val (.int p3), .val (.int p4), .val (.int p5), .val (.int p6), .val (.int (1 : Int32)), .val (.int (0 : Int32)), .val (.ref b31), .val (.int (1 : Int32)), .val (.int p4), .unset] [] := ((((k59.iload X59 hx (hb hby at_108) rfl).icmpNo X59 hx (hb hby at_110) (XT.ii_ne_f rfl)).iconst X59 hx (hb hby at_113) (v := (1 : Int32)) rfl).goto X59 hx (hb hby at_114) (by decide) (by decide)).istore X59 hx (hb hby at_118) rfl
    have k61 : Go p e below m W T59 206 #[.val (.int p1), .val (.int p2), .val (.int p3), .val (.int p4), .val (.int p5), .val (.int p6), .val (.int (1 : Int32)), .val (.int (0 : Int32)), .val (.ref b31), .val (.int (1 : Int32)), .val (.int p4), .unset] [(.int (1 : Int32))] := ((((((k60.iload X59 hx (hb hby at_120) rfl).iconst X59 hx (hb hby at_122) (v := (2 : Int32)) rfl).icmpYes X59 hx (hb hby at_123) (XT.ii_lt_t (by decide)) (by decide) (by decide)).iload X59 hx (hb hby at_162) rfl).iconst X59 hx (hb hby at_164) (v := (3 : Int32)) rfl).icmpYes X59 hx (hb hby at_165) (XT.ii_lt_t (by decide)) (by decide) (by decide)).iload X59 hx (hb hby at_204) rfl
    exact k61.ireturnN X59 hx (t := .boolean) Bd.returns (by simp) rfl (hb hby at_206) (BodyLoose.notSynchronized Bd) (by rw [e59]; exact ⟨rfl, N59⟩) (by decide) (by decide)
  ·
    subst r21
    have k62 : Go p e below m W s₁ 11 #[.val (.int p1), .val (.int p2), .val (.int p3), .val (.int p4), .val (.int p5), .val (.int p6), .val (.int (2 : Int32)), .unset, .unset, .unset, .unset, .unset] [] := (((k22.iconst X0 hx (hb hby at_7) (v := (1 : Int32)) rfl).iadd X0 hx (hb hby at_8)).cast (y := (2 : Int32)) (by decide)).istore X0 hx (hb hby at_9) rfl
    have k63 : Go p e below m W s₁ 19 #[.val (.int p1), .val (.int p2), .val (.int p3), .val (.int p4), .val (.int p5), .val (.int p6), .val (.int (2 : Int32)), .unset, .unset, .unset, .unset, .unset] [(.int ((p6 &&& (2147483647 : Int32)) % (2 : Int32)))] := ((((k62.iload X0 hx (hb hby at_11) rfl).ldcI X0 hx hZ hown (hv 0 rfl) (hb hby at_13)).iand X0 hx (hb hby at_15)).iload X0 hx (hb hby at_16) rfl).irem X0 hx (hb hby at_18) (by decide)
    obtain ⟨r64, hr64, hs64⟩ : ∃ r : Int32, r = ((p6 &&& (2147483647 : Int32)) % (2 : Int32)) ∧ (r = (0 : Int32) ∨ r = (1 : Int32)) := ⟨_, rfl, own_r2 p6⟩
    have k65 : Go p e below m W s₁ 19 #[.val (.int p1), .val (.int p2), .val (.int p3), .val (.int p4), .val (.int p5), .val (.int p6), .val (.int (2 : Int32)), .unset, .unset, .unset, .unset, .unset] [(.int r64)] := hr64 ▸ k63
    clear hr64
    rcases hs64 with q66 | q67
    ·
      subst r64
      have k68 : Go p e below m W s₁ 21 #[.val (.int p1), .val (.int p2), .val (.int p3), .val (.int p4), .val (.int p5), .val (.int p6), .val (.int (2 : Int32)), .val (.int (0 : Int32)), .unset, .unset, .unset, .unset] [] := k65.istore X0 hx (hb hby at_19) rfl
      obtain ⟨T69, h69, b69, X69, e69, g69, E69, A69, D69, k69⟩ := k68.newO (cells' := 1) (slots' := 2) X0 hx hZ hown (hv 1 rfl) (hv 2 rfl) (hv 3 rfl) e0 (hb hby at_21) rfl rfl (by decide) (by decide)
      have k69 : Go p e below m W T69 24 #[.val (.int p1), .val (.int p2), .val (.int p3), .val (.int p4), .val (.int p5), .val (.int p6), .val (.int (2 : Int32)), .val (.int (0 : Int32)), .unset, .unset, .unset, .unset] [(.ref b69)] := k69
      have Z69 : n0 ≤ h69.size := Nat.le_trans Z0 E69.1
      have f70 := O0.ext E69
      have G69 : n0 ≤ b69 := g69 ▸ Z0
      have f71 : Fld Z h69 b69 "com/example/guarantor/guarantor/lts/IntBlocks" "blocks" "[[I" .null := D69 (Or.inl (hv 15 rfl)) (ty := (.array (.array .int))) (by decide)
      have f72 : Fld Z h69 b69 "com/example/guarantor/guarantor/lts/IntBlocks" "size" "I" (.int (0 : Int32)) := D69 (Or.inl (hv 22 rfl)) (ty := .int) (by decide)
      have k73 : Go p e below m W T69 25 #[.val (.int p1), .val (.int p2), .val (.int p3), .val (.int p4), .val (.int p5), .val (.int p6), .val (.int (2 : Int32)), .val (.int (0 : Int32)), .unset, .unset, .unset, .unset] [(.ref b69), (.ref b69)] := k69.dup X69 hx (hb hby at_24) rfl
      obtain ⟨T74, v74, L74, X74, Q74, k74⟩ := k73.spec (y := (⟨"com/example/guarantor/guarantor/lts/IntBlocks", "<init>", "()V"⟩ : MethodName)) (b := b69) (Wd := 1) (cells' := 3) (slots' := 19) (argsL := []) (rest := [(.ref b69)]) X69 hx hZ hown (by rw [hml]; rfl) rfl (hv 4 rfl) (hv 5 rfl) (hv 6 rfl) (hv 3 rfl) (hb hby at_25) (by decide) (rmi l Z a0 hw [] b69 .null h69 n0 Z69 A69 G69 f71 f72) e69 rfl rfl pd_rm0_0 rfl (Nat.le_of_eq rfl) (by decide) (by decide) rfl rfl (by decide) (by decide)
      obtain ⟨ob_74, oc_74, ok_74, oq_74, rfl, Nq74, Kq74, q74_0, q74_1, q74_2, q74_3, q74_4, q74_5, q74_6, q74_7, q74_8, q74_9, q74_10, q74_11⟩ := Q74
      have N74 := Fr.app N0 Nq74
      obtain ⟨h74, e74⟩ : ∃ h, T74.heap = h := ⟨_, rfl⟩
      rw [e74] at Kq74 q74_0 q74_1 q74_2 q74_3 q74_4
      have Z74 : n0 ≤ h74.size := Nat.le_trans Z69 Kq74.1
      have f75 := f70.keep Kq74 (by intro x q; simp only [List.mem_cons, List.not_mem_nil, or_false] at q; rcases q with rfl; exact G69)
      have f76 := A69.keep Kq74
      have ne77_b69 : b69 ≠ ob_74 := Nat.ne_of_lt (Nat.lt_of_lt_of_le A69.lt q74_7)
      have ne78_b69 : b69 ≠ oc_74 := Nat.ne_of_lt (Nat.lt_of_lt_of_le A69.lt q74_8)
      have k74 : Go p e below m W T74 28 #[.val (.int p1), .val (.int p2), .val (.int p3), .val (.int p4), .val (.int p5), .val (.int p6), .val (.int (2 : Int32)), .val (.int (0 : Int32)), .unset, .unset, .unset, .unset] [(.ref b69)] := k74
      have k79 : Go p e below m W T74 30 #[.val (.int p1), .val (.int p2), .val (.int p3), .val (.int p4), .val (.int p5), .val (.int p6), .val (.int (2 : Int32)), .val (.int (0 : Int32)), .val (.ref b69), .unset, .unset, .unset] [] := k74.astore X74 hx (hb hby at_28) rfl rfl
      have k80 : Go p e below m W T74 33 #[.val (.int p1), .val (.int p2), .val (.int p3), .val (.int p4), .val (.int p5), .val (.int p6), .val (.int (2 : Int32)), .val (.int (0 : Int32)), .val (.ref b69), .unset, .unset, .unset] [(.int p1), (.ref b69)] := (k79.aload X74 hx (hb hby at_30) rfl rfl).iloadN X74 hx (hb hby at_32) rfl
      obtain ⟨T81, v81, L81, X81, Q81, k81⟩ := k80.virt (y := (⟨"com/example/guarantor/guarantor/lts/IntBlocks", "add", "(I)V"⟩ : MethodName)) (z := (⟨"com/example/guarantor/guarantor/lts/IntBlocks", "add", "(I)V"⟩ : MethodName)) (Wd := 0) (cells' := 3) (slots' := 19) (argsL := [(.int p1)]) (rest := []) X74 hx hZ hown (by rw [hml]; rfl) (hv 16 rfl) (hv 17 rfl) (notFace_of_selects (args := #[]) (mvT hZ (hv 19 rfl))) (hv 19 rfl) (hv 18 rfl) (hv 20 rfl) (hv 3 rfl) (hb hby at_33) (by decide) (rma0 l Z a0 hw [] b69 ob_74 oc_74 ok_74 oq_74 p1 h74 n0 Z74 q74_0 q74_1 q74_2 q74_3 q74_4 G69 q74_6 q74_9 q74_10 q74_11) e74 q74_0 rfl rfl pd_rm0_1 rfl (Nat.le_of_eq rfl) (by decide) (by decide) rfl rfl (by decide) (by decide)
      obtain ⟨rfl, Nq81, Kq81, q81_0, q81_1, q81_2, q81_3⟩ := Q81
      have N81 := Fr.app N74 Nq81
      obtain ⟨h81, e81⟩ : ∃ h, T81.heap = h := ⟨_, rfl⟩
      rw [e81] at Kq81 q81_0 q81_1 q81_2 q81_3
      have Z81 : n0 ≤ h81.size := Nat.le_trans Z74 Kq81.1
      have f82 := f75.keep Kq81 (by intro x q; simp only [List.mem_cons, List.not_mem_nil, or_false] at q; rcases q with rfl | rfl <;> first | exact G69 | exact q74_6)
      have f83 := q74_0.keep Kq81
      have f84 := q74_3.keep Kq81 (by simp only [List.mem_cons, List.not_mem_nil, or_false, not_or]; exact ⟨(Ne.symm q74_9), q74_11⟩)
      have k81 : Go p e below m W T81 36 #[.val (.int p1), .val (.int p2), .val (.int p3), .val (.int p4), .val (.int p5), .val (.int p6), .val (.int (2 : Int32)), .val (.int (0 : Int32)), .val (.ref b69), .unset, .unset, .unset] [] := k81
      have k85 : Go p e below m W T81 45 #[.val (.int p1), .val (.int p2), .val (.int p3), .val (.int p4), .val (.int p5), .val (.int p6), .val (.int (2 : Int32)), .val (.int (0 : Int32)), .val (.ref b69), .unset, .unset, .unset] [(.int p2), (.ref b69)] := ((((k81.iload X81 hx (hb hby at_36) rfl).iconst X81 hx (hb hby at_38) (v := (2 : Int32)) rfl).icmpNo X81 hx (hb hby at_39) (XT.ii_lt_f (by decide))).aload X81 hx (hb hby at_42) rfl rfl).iloadN X81 hx (hb hby at_44) rfl
      obtain ⟨T86, v86, L86, X86, Q86, k86⟩ := k85.virt (y := (⟨"com/example/guarantor/guarantor/lts/IntBlocks", "add", "(I)V"⟩ : MethodName)) (z := (⟨"com/example/guarantor/guarantor/lts/IntBlocks", "add", "(I)V"⟩ : MethodName)) (Wd := 0) (cells' := 3) (slots' := 19) (argsL := [(.int p2)]) (rest := []) X81 hx hZ hown (by rw [hml]; rfl) (hv 16 rfl) (hv 17 rfl) (notFace_of_selects (args := #[]) (mvT hZ (hv 19 rfl))) (hv 19 rfl) (hv 18 rfl) (hv 20 rfl) (hv 3 rfl) (hb hby at_45) (by decide) (rma1 l Z a0 hw [] b69 ob_74 oc_74 ok_74 oq_74 p2 p1 h81 n0 Z81 q81_0 q81_1 q81_2 f84 q81_3 G69 q74_6 q74_9 q74_10 q74_11) e81 q81_0 rfl rfl pd_rm0_1 rfl (Nat.le_of_eq rfl) (by decide) (by decide) rfl rfl (by decide) (by decide)
      obtain ⟨rfl, Nq86, Kq86, q86_0, q86_1, q86_2, q86_3⟩ := Q86
      have N86 := Fr.app N81 Nq86
      obtain ⟨h86, e86⟩ : ∃ h, T86.heap = h := ⟨_, rfl⟩
      rw [e86] at Kq86 q86_0 q86_1 q86_2 q86_3
      have Z86 : n0 ≤ h86.size := Nat.le_trans Z81 Kq86.1
      have f87 := f82.keep Kq86 (by intro x q; simp only [List.mem_cons, List.not_mem_nil, or_false] at q; rcases q with rfl | rfl <;> first | exact G69 | exact q74_6)
      have f88 := q81_0.keep Kq86
      have f89 := f84.keep Kq86 (by simp only [List.mem_cons, List.not_mem_nil, or_false, not_or]; exact ⟨(Ne.symm q74_9), q74_11⟩)
      have k86 : Go p e below m W T86 48 #[.val (.int p1), .val (.int p2), .val (.int p3), .val (.int p4), .val (.int p5), .val (.int p6), .val (.int (2 : Int32)), .val (.int (0 : Int32)), .val (.ref b69), .unset, .unset, .unset] [] := k86
      have k90 : Go p e below m W T86 65 #[.val (.int p1), .val (.int p2), .val (.int p3), .val (.int p4), .val (.int p5), .val (.int p6), .val (.int (2 : Int32)), .val (.int (0 : Int32)), .val (.ref b69), .unset, .unset, .unset] [(.int p4), (.int (0 : Int32)), (.ref b69)] := (((((k86.iload X86 hx (hb hby at_48) rfl).iconst X86 hx (hb hby at_50) (v := (3 : Int32)) rfl).icmpYes X86 hx (hb hby at_51) (XT.ii_lt_t (by decide)) (by decide) (by decide)).aload X86 hx (hb hby at_60) rfl rfl).iload X86 hx (hb hby at_62) rfl).iloadN X86 hx (hb hby at_64) rfl
      obtain ⟨T91, v91, L91, X91, Q91, k91⟩ := k90.virt (y := (⟨"com/example/guarantor/guarantor/lts/IntBlocks", "set", "(II)V"⟩ : MethodName)) (z := (⟨"com/example/guarantor/guarantor/lts/IntBlocks", "set", "(II)V"⟩ : MethodName)) (Wd := 0) (cells' := 3) (slots' := 19) (argsL := [(.int (0 : Int32)), (.int p4)]) (rest := []) X86 hx hZ hown (by rw [hml]; rfl) (hv 24 rfl) (hv 25 rfl) (notFace_of_selects (args := #[]) (mvT hZ (hv 27 rfl))) (hv 27 rfl) (hv 26 rfl) (hv 28 rfl) (hv 3 rfl) (hb hby at_65) (by decide) (rms20 l Z a0 hw [] b69 ob_74 oc_74 ok_74 oq_74 p4 p1 p2 h86 n0 Z86 q86_0 q86_1 q86_2 f89 q86_3 G69 q74_6 q74_9 q74_10 q74_11) e86 q86_0 rfl rfl pd_rm0_2 rfl (Nat.le_of_eq rfl) (by decide) (by decide) rfl rfl (by decide) (by decide)
      obtain ⟨rfl, Nq91, Kq91, q91_0⟩ := Q91
      have N91 := Fr.app N86 Nq91
      obtain ⟨h91, e91⟩ : ∃ h, T91.heap = h := ⟨_, rfl⟩
      rw [e91] at Kq91 q91_0
      have Z91 : n0 ≤ h91.size := Nat.le_trans Z86 Kq91.1
      have f92 := f87.keep Kq91 (by intro x q; simp only [List.mem_cons, List.not_mem_nil, or_false] at q; rcases q with rfl; exact q74_6)
      have f93 := q86_0.keep Kq91
      have f94 := f89.keep Kq91 (by simp only [List.mem_cons, List.not_mem_nil, or_false, not_or]; exact q74_11)
      have f95 := q86_1.keep Kq91 (by simp only [List.mem_cons, List.not_mem_nil, or_false, not_or]; exact q74_10)
      have f96 := q86_2.keep Kq91 (by simp only [List.mem_cons, List.not_mem_nil, or_false, not_or]; exact q74_10)
      have k91 : Go p e below m W T91 68 #[.val (.int p1), .val (.int p2), .val (.int p3), .val (.int p4), .val (.int p5), .val (.int p6), .val (.int (2 : Int32)), .val (.int (0 : Int32)), .val (.ref b69), .unset, .unset, .unset] [] := k91
      have k97 : Go p e below m W T91 70 #[.val (.int p1), .val (.int p2), .val (.int p3), .val (.int p4), .val (.int p5), .val (.int p6), .val (.int (2 : Int32)), .val (.int (0 : Int32)), .val (.ref b69), .unset, .unset, .unset] [(.ref b69)] := k91.aload X91 hx (hb hby at_68) rfl rfl
      obtain ⟨T98, v98, L98, X98, Q98, k98⟩ := k97.virt (y := (⟨"com/example/guarantor/guarantor/lts/IntBlocks", "size", "()I"⟩ : MethodName)) (z := (⟨"com/example/guarantor/guarantor/lts/IntBlocks", "size", "()I"⟩ : MethodName)) (Wd := 0) (cells' := 3) (slots' := 19) (argsL := []) (rest := []) X91 hx hZ hown (by rw [hml]; rfl) (hv 37 rfl) (hv 38 rfl) (notFace_of_selects (args := #[]) (mvT hZ (hv 40 rfl))) (hv 40 rfl) (hv 39 rfl) (hv 41 rfl) (hv 3 rfl) (hb hby at_70) (by decide) (rmz l Z a0 hw [] b69 (2 : Int32) h91 n0 Z91 f95) e91 f93 rfl rfl pd_rm0_3 rfl (Nat.le_of_eq rfl) (by decide) (by decide) rfl rfl (by decide) (by decide)
      obtain ⟨rfl, Nq98, e98q⟩ := Q98
      have N98 := Fr.app N91 Nq98
      have e98 : T98.heap = h91 := e98q
      have k98 : Go p e below m W T98 73 #[.val (.int p1), .val (.int p2), .val (.int p3), .val (.int p4), .val (.int p5), .val (.int p6), .val (.int (2 : Int32)), .val (.int (0 : Int32)), .val (.ref b69), .unset, .unset, .unset] [(.int (2 : Int32))] := k98
      have k99 : Go p e below m W T98 85 #[.val (.int p1), .val (.int p2), .val (.int p3), .val (.int p4), .val (.int p5), .val (.int p6), .val (.int (2 : Int32)), .val (.int (0 : Int32)), .val (.ref b69), .val (.int (1 : Int32)), .unset, .unset] [] := ((((k98.iload X98 hx (hb hby at_73) rfl).icmpNo X98 hx (hb hby at_75) (XT.ii_ne_f (by decide))).iconst X98 hx (hb hby at_78) (v := (1 : Int32)) rfl).goto X98 hx (hb hby at_79) (by decide) (by decide)).istore X98 hx (hb hby at_83) rfl
      have k100 : Go p e below m W T98 97 #[.val (.int p1), .val (.int p2), .val (.int p3), .val (.int p4), .val (.int p5), .val (.int p6), .val (.int (2 : Int32)), .val (.int (0 : Int32)), .val (.ref b69), .val (.int (1 : Int32)), .val (.int p4), .unset] [] := ((((k99.iload X98 hx (hb hby at_85) rfl).ifNo X98 hx (hb hby at_87) (XT.i0_ne_f (by decide))).iloadN X98 hx (hb hby at_90) rfl).goto X98 hx (hb hby at_91) (by decide) (by decide)).istore X98 hx (hb hby at_95) rfl
      have k101 : Go p e below m W T98 105 #[.val (.int p1), .val (.int p2), .val (.int p3), .val (.int p4), .val (.int p5), .val (.int p6), .val (.int (2 : Int32)), .val (.int (0 : Int32)), .val (.ref b69), .val (.int (1 : Int32)), .val (.int p4), .unset] [(.int (0 : Int32)), (.ref b69)] := (((k100.iload X98 hx (hb hby at_97) rfl).ifNo X98 hx (hb hby at_99) (XT.i0_eq_f (by decide))).aload X98 hx (hb hby at_102) rfl rfl).iconst X98 hx (hb hby at_104) (v := (0 : Int32)) rfl
      obtain ⟨T102, v102, L102, X102, Q102, k102⟩ := k101.virt (y := (⟨"com/example/guarantor/guarantor/lts/IntBlocks", "get", "(I)I"⟩ : MethodName)) (z := (⟨"com/example/guarantor/guarantor/lts/IntBlocks", "get", "(I)I"⟩ : MethodName)) (Wd := 0) (cells' := 3) (slots' := 19) (argsL := [(.int (0 : Int32))]) (rest := []) X98 hx hZ hown (by rw [hml]; rfl) (hv 42 rfl) (hv 43 rfl) (notFace_of_selects (args := #[]) (mvT hZ (hv 45 rfl))) (hv 45 rfl) (hv 44 rfl) (hv 46 rfl) (hv 3 rfl) (hb hby at_105) (by decide) (rmg20 l Z a0 hw [] b69 ob_74 oc_74 ok_74 oq_74 p4 p2 h91 n0 Z91 f93 f95 f96 f94 q91_0) e98 f93 rfl rfl pd_rm0_4 rfl (Nat.le_of_eq rfl) (by decide) (by decide) rfl rfl (by decide) (by decide)
      obtain ⟨rfl, Nq102, e102q⟩ := Q102
      have N102 := Fr.app N98 Nq102
      have e102 : T102.heap = h91 := e102q
      have k102 : Go p e below m W T102 108 #[.val (.int p1), .val (.int p2), .val (.int p3), .val (.int p4), .val (.int p5), .val (.int p6), .val (.int (2 : Int32)), .val (.int (0 : Int32)), .val (.ref b69), .val (.int (1 : Int32)), .val (.int p4), .unset] [(.int p4)] := k102
      have k103 : Go p e below m W T102 120 #[.val (.int p1), .val (.int p2), .val (.int p3), .val (.int p4), .val (.int p5), .val (.int p6), .val (.int (2 : Int32)), .val (.int (0 : Int32)), .val (.ref b69), .val (.int (1 : Int32)), .val (.int p4), .unset] [] := ((((k102.iload X102 hx (hb hby at_108) rfl).icmpNo X102 hx (hb hby at_110) (XT.ii_ne_f rfl)).iconst X102 hx (hb hby at_113) (v := (1 : Int32)) rfl).goto X102 hx (hb hby at_114) (by decide) (by decide)).istore X102 hx (hb hby at_118) rfl
      have k104 : Go p e below m W T102 139 #[.val (.int p1), .val (.int p2), .val (.int p3), .val (.int p4), .val (.int p5), .val (.int p6), .val (.int (2 : Int32)), .val (.int (0 : Int32)), .val (.ref b69), .val (.int (1 : Int32)), .val (.int p4), .val (.int p2)] [] := (((((((k103.iload X102 hx (hb hby at_120) rfl).iconst X102 hx (hb hby at_122) (v := (2 : Int32)) rfl).icmpNo X102 hx (hb hby at_123) (XT.ii_lt_f (by decide))).iload X102 hx (hb hby at_126) rfl).iconst X102 hx (hb hby at_128) (v := (1 : Int32)) rfl).icmpYes X102 hx (hb hby at_129) (XT.ii_ne_t (by decide)) (by decide) (by decide)).iloadN X102 hx (hb hby at_136) rfl).istore X102 hx (hb hby at_137) rfl
      have k105 : Go p e below m W T102 147 #[.val (.int p1), .val (.int p2), .val (.int p3), .val (.int p4), .val (.int p5), .val (.int p6), .val (.int (2 : Int32)), .val (.int (0 : Int32)), .val (.ref b69), .val (.int (1 : Int32)), .val (.int p4), .val (.int p2)] [(.int (1 : Int32)), (.ref b69)] := (((k104.iload X102 hx (hb hby at_139) rfl).ifNo X102 hx (hb hby at_141) (XT.i0_eq_f (by decide))).aload X102 hx (hb hby at_144) rfl rfl).iconst X102 hx (hb hby at_146) (v := (1 : Int32)) rfl
      obtain ⟨T106, v106, L106, X106, Q106, k106⟩ := k105.virt (y := (⟨"com/example/guarantor/guarantor/lts/IntBlocks", "get", "(I)I"⟩ : MethodName)) (z := (⟨"com/example/guarantor/guarantor/lts/IntBlocks", "get", "(I)I"⟩ : MethodName)) (Wd := 0) (cells' := 3) (slots' := 19) (argsL := [(.int (1 : Int32))]) (rest := []) X102 hx hZ hown (by rw [hml]; rfl) (hv 42 rfl) (hv 43 rfl) (notFace_of_selects (args := #[]) (mvT hZ (hv 45 rfl))) (hv 45 rfl) (hv 44 rfl) (hv 46 rfl) (hv 3 rfl) (hb hby at_147) (by decide) (rmg21 l Z a0 hw [] b69 ob_74 oc_74 ok_74 oq_74 p4 p2 h91 n0 Z91 f93 f95 f96 f94 q91_0) e102 f93 rfl rfl pd_rm0_4 rfl (Nat.le_of_eq rfl) (by decide) (by decide) rfl rfl (by decide) (by decide)
      obtain ⟨rfl, Nq106, e106q⟩ := Q106
      have N106 := Fr.app N102 Nq106
      have e106 : T106.heap = h91 := e106q
      have k106 : Go p e below m W T106 150 #[.val (.int p1), .val (.int p2), .val (.int p3), .val (.int p4), .val (.int p5), .val (.int p6), .val (.int (2 : Int32)), .val (.int (0 : Int32)), .val (.ref b69), .val (.int (1 : Int32)), .val (.int p4), .val (.int p2)] [(.int p2)] := k106
      have k107 : Go p e below m W T106 162 #[.val (.int p1), .val (.int p2), .val (.int p3), .val (.int p4), .val (.int p5), .val (.int p6), .val (.int (2 : Int32)), .val (.int (0 : Int32)), .val (.ref b69), .val (.int (1 : Int32)), .val (.int p4), .val (.int p2)] [] := ((((k106.iload X106 hx (hb hby at_150) rfl).icmpNo X106 hx (hb hby at_152) (XT.ii_ne_f rfl)).iconst X106 hx (hb hby at_155) (v := (1 : Int32)) rfl).goto X106 hx (hb hby at_156) (by decide) (by decide)).istore X106 hx (hb hby at_160) rfl
      have k108 : Go p e below m W T106 206 #[.val (.int p1), .val (.int p2), .val (.int p3), .val (.int p4), .val (.int p5), .val (.int p6), .val (.int (2 : Int32)), .val (.int (0 : Int32)), .val (.ref b69), .val (.int (1 : Int32)), .val (.int p4), .val (.int p2)] [(.int (1 : Int32))] := (((k107.iload X106 hx (hb hby at_162) rfl).iconst X106 hx (hb hby at_164) (v := (3 : Int32)) rfl).icmpYes X106 hx (hb hby at_165) (XT.ii_lt_t (by decide)) (by decide) (by decide)).iload X106 hx (hb hby at_204) rfl
      exact k108.ireturnN X106 hx (t := .boolean) Bd.returns (by simp) rfl (hb hby at_206) (BodyLoose.notSynchronized Bd) (by rw [e106]; exact ⟨rfl, N106⟩) (by decide) (by decide)
    ·
      subst r64
      have k109 : Go p e below m W s₁ 21 #[.val (.int p1), .val (.int p2), .val (.int p3), .val (.int p4), .val (.int p5), .val (.int p6), .val (.int (2 : Int32)), .val (.int (1 : Int32)), .unset, .unset, .unset, .unset] [] := k65.istore X0 hx (hb hby at_19) rfl
      obtain ⟨T110, h110, b110, X110, e110, g110, E110, A110, D110, k110⟩ := k109.newO (cells' := 1) (slots' := 2) X0 hx hZ hown (hv 1 rfl) (hv 2 rfl) (hv 3 rfl) e0 (hb hby at_21) rfl rfl (by decide) (by decide)
      have k110 : Go p e below m W T110 24 #[.val (.int p1), .val (.int p2), .val (.int p3), .val (.int p4), .val (.int p5), .val (.int p6), .val (.int (2 : Int32)), .val (.int (1 : Int32)), .unset, .unset, .unset, .unset] [(.ref b110)] := k110
      have Z110 : n0 ≤ h110.size := Nat.le_trans Z0 E110.1
      have f111 := O0.ext E110
      have G110 : n0 ≤ b110 := g110 ▸ Z0
      have f112 : Fld Z h110 b110 "com/example/guarantor/guarantor/lts/IntBlocks" "blocks" "[[I" .null := D110 (Or.inl (hv 15 rfl)) (ty := (.array (.array .int))) (by decide)
      have f113 : Fld Z h110 b110 "com/example/guarantor/guarantor/lts/IntBlocks" "size" "I" (.int (0 : Int32)) := D110 (Or.inl (hv 22 rfl)) (ty := .int) (by decide)
      have k114 : Go p e below m W T110 25 #[.val (.int p1), .val (.int p2), .val (.int p3), .val (.int p4), .val (.int p5), .val (.int p6), .val (.int (2 : Int32)), .val (.int (1 : Int32)), .unset, .unset, .unset, .unset] [(.ref b110), (.ref b110)] := k110.dup X110 hx (hb hby at_24) rfl
      obtain ⟨T115, v115, L115, X115, Q115, k115⟩ := k114.spec (y := (⟨"com/example/guarantor/guarantor/lts/IntBlocks", "<init>", "()V"⟩ : MethodName)) (b := b110) (Wd := 1) (cells' := 3) (slots' := 19) (argsL := []) (rest := [(.ref b110)]) X110 hx hZ hown (by rw [hml]; rfl) rfl (hv 4 rfl) (hv 5 rfl) (hv 6 rfl) (hv 3 rfl) (hb hby at_25) (by decide) (rmi l Z a0 hw [] b110 .null h110 n0 Z110 A110 G110 f112 f113) e110 rfl rfl pd_rm0_0 rfl (Nat.le_of_eq rfl) (by decide) (by decide) rfl rfl (by decide) (by decide)
      obtain ⟨ob_115, oc_115, ok_115, oq_115, rfl, Nq115, Kq115, q115_0, q115_1, q115_2, q115_3, q115_4, q115_5, q115_6, q115_7, q115_8, q115_9, q115_10, q115_11⟩ := Q115
      have N115 := Fr.app N0 Nq115
      obtain ⟨h115, e115⟩ : ∃ h, T115.heap = h := ⟨_, rfl⟩
      rw [e115] at Kq115 q115_0 q115_1 q115_2 q115_3 q115_4
      have Z115 : n0 ≤ h115.size := Nat.le_trans Z110 Kq115.1
      have f116 := f111.keep Kq115 (by intro x q; simp only [List.mem_cons, List.not_mem_nil, or_false] at q; rcases q with rfl; exact G110)
      have f117 := A110.keep Kq115
      have ne118_b110 : b110 ≠ ob_115 := Nat.ne_of_lt (Nat.lt_of_lt_of_le A110.lt q115_7)
      have ne119_b110 : b110 ≠ oc_115 := Nat.ne_of_lt (Nat.lt_of_lt_of_le A110.lt q115_8)
      have k115 : Go p e below m W T115 28 #[.val (.int p1), .val (.int p2), .val (.int p3), .val (.int p4), .val (.int p5), .val (.int p6), .val (.int (2 : Int32)), .val (.int (1 : Int32)), .unset, .unset, .unset, .unset] [(.ref b110)] := k115
      have k120 : Go p e below m W T115 30 #[.val (.int p1), .val (.int p2), .val (.int p3), .val (.int p4), .val (.int p5), .val (.int p6), .val (.int (2 : Int32)), .val (.int (1 : Int32)), .val (.ref b110), .unset, .unset, .unset] [] := k115.astore X115 hx (hb hby at_28) rfl rfl
      have k121 : Go p e below m W T115 33 #[.val (.int p1), .val (.int p2), .val (.int p3), .val (.int p4), .val (.int p5), .val (.int p6), .val (.int (2 : Int32)), .val (.int (1 : Int32)), .val (.ref b110), .unset, .unset, .unset] [(.int p1), (.ref b110)] := (k120.aload X115 hx (hb hby at_30) rfl rfl).iloadN X115 hx (hb hby at_32) rfl
      obtain ⟨T122, v122, L122, X122, Q122, k122⟩ := k121.virt (y := (⟨"com/example/guarantor/guarantor/lts/IntBlocks", "add", "(I)V"⟩ : MethodName)) (z := (⟨"com/example/guarantor/guarantor/lts/IntBlocks", "add", "(I)V"⟩ : MethodName)) (Wd := 0) (cells' := 3) (slots' := 19) (argsL := [(.int p1)]) (rest := []) X115 hx hZ hown (by rw [hml]; rfl) (hv 16 rfl) (hv 17 rfl) (notFace_of_selects (args := #[]) (mvT hZ (hv 19 rfl))) (hv 19 rfl) (hv 18 rfl) (hv 20 rfl) (hv 3 rfl) (hb hby at_33) (by decide) (rma0 l Z a0 hw [] b110 ob_115 oc_115 ok_115 oq_115 p1 h115 n0 Z115 q115_0 q115_1 q115_2 q115_3 q115_4 G110 q115_6 q115_9 q115_10 q115_11) e115 q115_0 rfl rfl pd_rm0_1 rfl (Nat.le_of_eq rfl) (by decide) (by decide) rfl rfl (by decide) (by decide)
      obtain ⟨rfl, Nq122, Kq122, q122_0, q122_1, q122_2, q122_3⟩ := Q122
      have N122 := Fr.app N115 Nq122
      obtain ⟨h122, e122⟩ : ∃ h, T122.heap = h := ⟨_, rfl⟩
      rw [e122] at Kq122 q122_0 q122_1 q122_2 q122_3
      have Z122 : n0 ≤ h122.size := Nat.le_trans Z115 Kq122.1
      have f123 := f116.keep Kq122 (by intro x q; simp only [List.mem_cons, List.not_mem_nil, or_false] at q; rcases q with rfl | rfl <;> first | exact G110 | exact q115_6)
      have f124 := q115_0.keep Kq122
      have f125 := q115_3.keep Kq122 (by simp only [List.mem_cons, List.not_mem_nil, or_false, not_or]; exact ⟨(Ne.symm q115_9), q115_11⟩)
      have k122 : Go p e below m W T122 36 #[.val (.int p1), .val (.int p2), .val (.int p3), .val (.int p4), .val (.int p5), .val (.int p6), .val (.int (2 : Int32)), .val (.int (1 : Int32)), .val (.ref b110), .unset, .unset, .unset] [] := k122
      have k126 : Go p e below m W T122 45 #[.val (.int p1), .val (.int p2), .val (.int p3), .val (.int p4), .val (.int p5), .val (.int p6), .val (.int (2 : Int32)), .val (.int (1 : Int32)), .val (.ref b110), .unset, .unset, .unset] [(.int p2), (.ref b110)] := ((((k122.iload X122 hx (hb hby at_36) rfl).iconst X122 hx (hb hby at_38) (v := (2 : Int32)) rfl).icmpNo X122 hx (hb hby at_39) (XT.ii_lt_f (by decide))).aload X122 hx (hb hby at_42) rfl rfl).iloadN X122 hx (hb hby at_44) rfl
      obtain ⟨T127, v127, L127, X127, Q127, k127⟩ := k126.virt (y := (⟨"com/example/guarantor/guarantor/lts/IntBlocks", "add", "(I)V"⟩ : MethodName)) (z := (⟨"com/example/guarantor/guarantor/lts/IntBlocks", "add", "(I)V"⟩ : MethodName)) (Wd := 0) (cells' := 3) (slots' := 19) (argsL := [(.int p2)]) (rest := []) X122 hx hZ hown (by rw [hml]; rfl) (hv 16 rfl) (hv 17 rfl) (notFace_of_selects (args := #[]) (mvT hZ (hv 19 rfl))) (hv 19 rfl) (hv 18 rfl) (hv 20 rfl) (hv 3 rfl) (hb hby at_45) (by decide) (rma1 l Z a0 hw [] b110 ob_115 oc_115 ok_115 oq_115 p2 p1 h122 n0 Z122 q122_0 q122_1 q122_2 f125 q122_3 G110 q115_6 q115_9 q115_10 q115_11) e122 q122_0 rfl rfl pd_rm0_1 rfl (Nat.le_of_eq rfl) (by decide) (by decide) rfl rfl (by decide) (by decide)
      obtain ⟨rfl, Nq127, Kq127, q127_0, q127_1, q127_2, q127_3⟩ := Q127
      have N127 := Fr.app N122 Nq127
      obtain ⟨h127, e127⟩ : ∃ h, T127.heap = h := ⟨_, rfl⟩
      rw [e127] at Kq127 q127_0 q127_1 q127_2 q127_3
      have Z127 : n0 ≤ h127.size := Nat.le_trans Z122 Kq127.1
      have f128 := f123.keep Kq127 (by intro x q; simp only [List.mem_cons, List.not_mem_nil, or_false] at q; rcases q with rfl | rfl <;> first | exact G110 | exact q115_6)
      have f129 := q122_0.keep Kq127
      have f130 := f125.keep Kq127 (by simp only [List.mem_cons, List.not_mem_nil, or_false, not_or]; exact ⟨(Ne.symm q115_9), q115_11⟩)
      have k127 : Go p e below m W T127 48 #[.val (.int p1), .val (.int p2), .val (.int p3), .val (.int p4), .val (.int p5), .val (.int p6), .val (.int (2 : Int32)), .val (.int (1 : Int32)), .val (.ref b110), .unset, .unset, .unset] [] := k127
      have k131 : Go p e below m W T127 65 #[.val (.int p1), .val (.int p2), .val (.int p3), .val (.int p4), .val (.int p5), .val (.int p6), .val (.int (2 : Int32)), .val (.int (1 : Int32)), .val (.ref b110), .unset, .unset, .unset] [(.int p4), (.int (1 : Int32)), (.ref b110)] := (((((k127.iload X127 hx (hb hby at_48) rfl).iconst X127 hx (hb hby at_50) (v := (3 : Int32)) rfl).icmpYes X127 hx (hb hby at_51) (XT.ii_lt_t (by decide)) (by decide) (by decide)).aload X127 hx (hb hby at_60) rfl rfl).iload X127 hx (hb hby at_62) rfl).iloadN X127 hx (hb hby at_64) rfl
      obtain ⟨T132, v132, L132, X132, Q132, k132⟩ := k131.virt (y := (⟨"com/example/guarantor/guarantor/lts/IntBlocks", "set", "(II)V"⟩ : MethodName)) (z := (⟨"com/example/guarantor/guarantor/lts/IntBlocks", "set", "(II)V"⟩ : MethodName)) (Wd := 0) (cells' := 3) (slots' := 19) (argsL := [(.int (1 : Int32)), (.int p4)]) (rest := []) X127 hx hZ hown (by rw [hml]; rfl) (hv 24 rfl) (hv 25 rfl) (notFace_of_selects (args := #[]) (mvT hZ (hv 27 rfl))) (hv 27 rfl) (hv 26 rfl) (hv 28 rfl) (hv 3 rfl) (hb hby at_65) (by decide) (rms21 l Z a0 hw [] b110 ob_115 oc_115 ok_115 oq_115 p4 p1 p2 h127 n0 Z127 q127_0 q127_1 q127_2 f130 q127_3 G110 q115_6 q115_9 q115_10 q115_11) e127 q127_0 rfl rfl pd_rm0_2 rfl (Nat.le_of_eq rfl) (by decide) (by decide) rfl rfl (by decide) (by decide)
      obtain ⟨rfl, Nq132, Kq132, q132_0⟩ := Q132
      have N132 := Fr.app N127 Nq132
      obtain ⟨h132, e132⟩ : ∃ h, T132.heap = h := ⟨_, rfl⟩
      rw [e132] at Kq132 q132_0
      have Z132 : n0 ≤ h132.size := Nat.le_trans Z127 Kq132.1
      have f133 := f128.keep Kq132 (by intro x q; simp only [List.mem_cons, List.not_mem_nil, or_false] at q; rcases q with rfl; exact q115_6)
      have f134 := q127_0.keep Kq132
      have f135 := f130.keep Kq132 (by simp only [List.mem_cons, List.not_mem_nil, or_false, not_or]; exact q115_11)
      have f136 := q127_1.keep Kq132 (by simp only [List.mem_cons, List.not_mem_nil, or_false, not_or]; exact q115_10)
      have f137 := q127_2.keep Kq132 (by simp only [List.mem_cons, List.not_mem_nil, or_false, not_or]; exact q115_10)
      have k132 : Go p e below m W T132 68 #[.val (.int p1), .val (.int p2), .val (.int p3), .val (.int p4), .val (.int p5), .val (.int p6), .val (.int (2 : Int32)), .val (.int (1 : Int32)), .val (.ref b110), .unset, .unset, .unset] [] := k132
      have k138 : Go p e below m W T132 70 #[.val (.int p1), .val (.int p2), .val (.int p3), .val (.int p4), .val (.int p5), .val (.int p6), .val (.int (2 : Int32)), .val (.int (1 : Int32)), .val (.ref b110), .unset, .unset, .unset] [(.ref b110)] := k132.aload X132 hx (hb hby at_68) rfl rfl
      obtain ⟨T139, v139, L139, X139, Q139, k139⟩ := k138.virt (y := (⟨"com/example/guarantor/guarantor/lts/IntBlocks", "size", "()I"⟩ : MethodName)) (z := (⟨"com/example/guarantor/guarantor/lts/IntBlocks", "size", "()I"⟩ : MethodName)) (Wd := 0) (cells' := 3) (slots' := 19) (argsL := []) (rest := []) X132 hx hZ hown (by rw [hml]; rfl) (hv 37 rfl) (hv 38 rfl) (notFace_of_selects (args := #[]) (mvT hZ (hv 40 rfl))) (hv 40 rfl) (hv 39 rfl) (hv 41 rfl) (hv 3 rfl) (hb hby at_70) (by decide) (rmz l Z a0 hw [] b110 (2 : Int32) h132 n0 Z132 f136) e132 f134 rfl rfl pd_rm0_3 rfl (Nat.le_of_eq rfl) (by decide) (by decide) rfl rfl (by decide) (by decide)
      obtain ⟨rfl, Nq139, e139q⟩ := Q139
      have N139 := Fr.app N132 Nq139
      have e139 : T139.heap = h132 := e139q
      have k139 : Go p e below m W T139 73 #[.val (.int p1), .val (.int p2), .val (.int p3), .val (.int p4), .val (.int p5), .val (.int p6), .val (.int (2 : Int32)), .val (.int (1 : Int32)), .val (.ref b110), .unset, .unset, .unset] [(.int (2 : Int32))] := k139
      have k140 : Go p e below m W T139 85 #[.val (.int p1), .val (.int p2), .val (.int p3), .val (.int p4), .val (.int p5), .val (.int p6), .val (.int (2 : Int32)), .val (.int (1 : Int32)), .val (.ref b110), .val (.int (1 : Int32)), .unset, .unset] [] := ((((k139.iload X139 hx (hb hby at_73) rfl).icmpNo X139 hx (hb hby at_75) (XT.ii_ne_f (by decide))).iconst X139 hx (hb hby at_78) (v := (1 : Int32)) rfl).goto X139 hx (hb hby at_79) (by decide) (by decide)).istore X139 hx (hb hby at_83) rfl
      have k141 : Go p e below m W T139 97 #[.val (.int p1), .val (.int p2), .val (.int p3), .val (.int p4), .val (.int p5), .val (.int p6), .val (.int (2 : Int32)), .val (.int (1 : Int32)), .val (.ref b110), .val (.int (1 : Int32)), .val (.int p1), .unset] [] := (((k140.iload X139 hx (hb hby at_85) rfl).ifYes X139 hx (hb hby at_87) (XT.i0_ne_t (by decide)) (by decide) (by decide)).iloadN X139 hx (hb hby at_94) rfl).istore X139 hx (hb hby at_95) rfl
      have k142 : Go p e below m W T139 105 #[.val (.int p1), .val (.int p2), .val (.int p3), .val (.int p4), .val (.int p5), .val (.int p6), .val (.int (2 : Int32)), .val (.int (1 : Int32)), .val (.ref b110), .val (.int (1 : Int32)), .val (.int p1), .unset] [(.int (0 : Int32)), (.ref b110)] := (((k141.iload X139 hx (hb hby at_97) rfl).ifNo X139 hx (hb hby at_99) (XT.i0_eq_f (by decide))).aload X139 hx (hb hby at_102) rfl rfl).iconst X139 hx (hb hby at_104) (v := (0 : Int32)) rfl
      obtain ⟨T143, v143, L143, X143, Q143, k143⟩ := k142.virt (y := (⟨"com/example/guarantor/guarantor/lts/IntBlocks", "get", "(I)I"⟩ : MethodName)) (z := (⟨"com/example/guarantor/guarantor/lts/IntBlocks", "get", "(I)I"⟩ : MethodName)) (Wd := 0) (cells' := 3) (slots' := 19) (argsL := [(.int (0 : Int32))]) (rest := []) X139 hx hZ hown (by rw [hml]; rfl) (hv 42 rfl) (hv 43 rfl) (notFace_of_selects (args := #[]) (mvT hZ (hv 45 rfl))) (hv 45 rfl) (hv 44 rfl) (hv 46 rfl) (hv 3 rfl) (hb hby at_105) (by decide) (rmg20 l Z a0 hw [] b110 ob_115 oc_115 ok_115 oq_115 p1 p4 h132 n0 Z132 f134 f136 f137 f135 q132_0) e139 f134 rfl rfl pd_rm0_4 rfl (Nat.le_of_eq rfl) (by decide) (by decide) rfl rfl (by decide) (by decide)
      obtain ⟨rfl, Nq143, e143q⟩ := Q143
      have N143 := Fr.app N139 Nq143
      have e143 : T143.heap = h132 := e143q
      have k143 : Go p e below m W T143 108 #[.val (.int p1), .val (.int p2), .val (.int p3), .val (.int p4), .val (.int p5), .val (.int p6), .val (.int (2 : Int32)), .val (.int (1 : Int32)), .val (.ref b110), .val (.int (1 : Int32)), .val (.int p1), .unset] [(.int p1)] := k143
      have k144 : Go p e below m W T143 120 #[.val (.int p1), .val (.int p2), .val (.int p3), .val (.int p4), .val (.int p5), .val (.int p6), .val (.int (2 : Int32)), .val (.int (1 : Int32)), .val (.ref b110), .val (.int (1 : Int32)), .val (.int p1), .unset] [] := ((((k143.iload X143 hx (hb hby at_108) rfl).icmpNo X143 hx (hb hby at_110) (XT.ii_ne_f rfl)).iconst X143 hx (hb hby at_113) (v := (1 : Int32)) rfl).goto X143 hx (hb hby at_114) (by decide) (by decide)).istore X143 hx (hb hby at_118) rfl
      have k145 : Go p e below m W T143 139 #[.val (.int p1), .val (.int p2), .val (.int p3), .val (.int p4), .val (.int p5), .val (.int p6), .val (.int (2 : Int32)), .val (.int (1 : Int32)), .val (.ref b110), .val (.int (1 : Int32)), .val (.int p1), .val (.int p4)] [] := ((((((((k144.iload X143 hx (hb hby at_120) rfl).iconst X143 hx (hb hby at_122) (v := (2 : Int32)) rfl).icmpNo X143 hx (hb hby at_123) (XT.ii_lt_f (by decide))).iload X143 hx (hb hby at_126) rfl).iconst X143 hx (hb hby at_128) (v := (1 : Int32)) rfl).icmpNo X143 hx (hb hby at_129) (XT.ii_ne_f (by decide))).iloadN X143 hx (hb hby at_132) rfl).goto X143 hx (hb hby at_133) (by decide) (by decide)).istore X143 hx (hb hby at_137) rfl
      have k146 : Go p e below m W T143 147 #[.val (.int p1), .val (.int p2), .val (.int p3), .val (.int p4), .val (.int p5), .val (.int p6), .val (.int (2 : Int32)), .val (.int (1 : Int32)), .val (.ref b110), .val (.int (1 : Int32)), .val (.int p1), .val (.int p4)] [(.int (1 : Int32)), (.ref b110)] := (((k145.iload X143 hx (hb hby at_139) rfl).ifNo X143 hx (hb hby at_141) (XT.i0_eq_f (by decide))).aload X143 hx (hb hby at_144) rfl rfl).iconst X143 hx (hb hby at_146) (v := (1 : Int32)) rfl
      obtain ⟨T147, v147, L147, X147, Q147, k147⟩ := k146.virt (y := (⟨"com/example/guarantor/guarantor/lts/IntBlocks", "get", "(I)I"⟩ : MethodName)) (z := (⟨"com/example/guarantor/guarantor/lts/IntBlocks", "get", "(I)I"⟩ : MethodName)) (Wd := 0) (cells' := 3) (slots' := 19) (argsL := [(.int (1 : Int32))]) (rest := []) X143 hx hZ hown (by rw [hml]; rfl) (hv 42 rfl) (hv 43 rfl) (notFace_of_selects (args := #[]) (mvT hZ (hv 45 rfl))) (hv 45 rfl) (hv 44 rfl) (hv 46 rfl) (hv 3 rfl) (hb hby at_147) (by decide) (rmg21 l Z a0 hw [] b110 ob_115 oc_115 ok_115 oq_115 p1 p4 h132 n0 Z132 f134 f136 f137 f135 q132_0) e143 f134 rfl rfl pd_rm0_4 rfl (Nat.le_of_eq rfl) (by decide) (by decide) rfl rfl (by decide) (by decide)
      obtain ⟨rfl, Nq147, e147q⟩ := Q147
      have N147 := Fr.app N143 Nq147
      have e147 : T147.heap = h132 := e147q
      have k147 : Go p e below m W T147 150 #[.val (.int p1), .val (.int p2), .val (.int p3), .val (.int p4), .val (.int p5), .val (.int p6), .val (.int (2 : Int32)), .val (.int (1 : Int32)), .val (.ref b110), .val (.int (1 : Int32)), .val (.int p1), .val (.int p4)] [(.int p4)] := k147
      have k148 : Go p e below m W T147 162 #[.val (.int p1), .val (.int p2), .val (.int p3), .val (.int p4), .val (.int p5), .val (.int p6), .val (.int (2 : Int32)), .val (.int (1 : Int32)), .val (.ref b110), .val (.int (1 : Int32)), .val (.int p1), .val (.int p4)] [] := ((((k147.iload X147 hx (hb hby at_150) rfl).icmpNo X147 hx (hb hby at_152) (XT.ii_ne_f rfl)).iconst X147 hx (hb hby at_155) (v := (1 : Int32)) rfl).goto X147 hx (hb hby at_156) (by decide) (by decide)).istore X147 hx (hb hby at_160) rfl
      have k149 : Go p e below m W T147 206 #[.val (.int p1), .val (.int p2), .val (.int p3), .val (.int p4), .val (.int p5), .val (.int p6), .val (.int (2 : Int32)), .val (.int (1 : Int32)), .val (.ref b110), .val (.int (1 : Int32)), .val (.int p1), .val (.int p4)] [(.int (1 : Int32))] := (((k148.iload X147 hx (hb hby at_162) rfl).iconst X147 hx (hb hby at_164) (v := (3 : Int32)) rfl).icmpYes X147 hx (hb hby at_165) (XT.ii_lt_t (by decide)) (by decide) (by decide)).iload X147 hx (hb hby at_204) rfl
      exact k149.ireturnN X147 hx (t := .boolean) Bd.returns (by simp) rfl (hb hby at_206) (BodyLoose.notSynchronized Bd) (by rw [e147]; exact ⟨rfl, N147⟩) (by decide) (by decide)
  ·
    subst r21
    have k150 : Go p e below m W s₁ 11 #[.val (.int p1), .val (.int p2), .val (.int p3), .val (.int p4), .val (.int p5), .val (.int p6), .val (.int (3 : Int32)), .unset, .unset, .unset, .unset, .unset] [] := (((k22.iconst X0 hx (hb hby at_7) (v := (1 : Int32)) rfl).iadd X0 hx (hb hby at_8)).cast (y := (3 : Int32)) (by decide)).istore X0 hx (hb hby at_9) rfl
    have k151 : Go p e below m W s₁ 19 #[.val (.int p1), .val (.int p2), .val (.int p3), .val (.int p4), .val (.int p5), .val (.int p6), .val (.int (3 : Int32)), .unset, .unset, .unset, .unset, .unset] [(.int ((p6 &&& (2147483647 : Int32)) % (3 : Int32)))] := ((((k150.iload X0 hx (hb hby at_11) rfl).ldcI X0 hx hZ hown (hv 0 rfl) (hb hby at_13)).iand X0 hx (hb hby at_15)).iload X0 hx (hb hby at_16) rfl).irem X0 hx (hb hby at_18) (by decide)
    obtain ⟨r152, hr152, hs152⟩ : ∃ r : Int32, r = ((p6 &&& (2147483647 : Int32)) % (3 : Int32)) ∧ (r = (0 : Int32) ∨ r = (1 : Int32) ∨ r = (2 : Int32)) := ⟨_, rfl, own_r3 p6⟩
    have k153 : Go p e below m W s₁ 19 #[.val (.int p1), .val (.int p2), .val (.int p3), .val (.int p4), .val (.int p5), .val (.int p6), .val (.int (3 : Int32)), .unset, .unset, .unset, .unset, .unset] [(.int r152)] := hr152 ▸ k151
    clear hr152
    rcases hs152 with q154 | q155 | q156
    ·
      subst r152
      have k157 : Go p e below m W s₁ 21 #[.val (.int p1), .val (.int p2), .val (.int p3), .val (.int p4), .val (.int p5), .val (.int p6), .val (.int (3 : Int32)), .val (.int (0 : Int32)), .unset, .unset, .unset, .unset] [] := k153.istore X0 hx (hb hby at_19) rfl
      obtain ⟨T158, h158, b158, X158, e158, g158, E158, A158, D158, k158⟩ := k157.newO (cells' := 1) (slots' := 2) X0 hx hZ hown (hv 1 rfl) (hv 2 rfl) (hv 3 rfl) e0 (hb hby at_21) rfl rfl (by decide) (by decide)
      have k158 : Go p e below m W T158 24 #[.val (.int p1), .val (.int p2), .val (.int p3), .val (.int p4), .val (.int p5), .val (.int p6), .val (.int (3 : Int32)), .val (.int (0 : Int32)), .unset, .unset, .unset, .unset] [(.ref b158)] := k158
      have Z158 : n0 ≤ h158.size := Nat.le_trans Z0 E158.1
      have f159 := O0.ext E158
      have G158 : n0 ≤ b158 := g158 ▸ Z0
      have f160 : Fld Z h158 b158 "com/example/guarantor/guarantor/lts/IntBlocks" "blocks" "[[I" .null := D158 (Or.inl (hv 15 rfl)) (ty := (.array (.array .int))) (by decide)
      have f161 : Fld Z h158 b158 "com/example/guarantor/guarantor/lts/IntBlocks" "size" "I" (.int (0 : Int32)) := D158 (Or.inl (hv 22 rfl)) (ty := .int) (by decide)
      have k162 : Go p e below m W T158 25 #[.val (.int p1), .val (.int p2), .val (.int p3), .val (.int p4), .val (.int p5), .val (.int p6), .val (.int (3 : Int32)), .val (.int (0 : Int32)), .unset, .unset, .unset, .unset] [(.ref b158), (.ref b158)] := k158.dup X158 hx (hb hby at_24) rfl
      obtain ⟨T163, v163, L163, X163, Q163, k163⟩ := k162.spec (y := (⟨"com/example/guarantor/guarantor/lts/IntBlocks", "<init>", "()V"⟩ : MethodName)) (b := b158) (Wd := 1) (cells' := 3) (slots' := 19) (argsL := []) (rest := [(.ref b158)]) X158 hx hZ hown (by rw [hml]; rfl) rfl (hv 4 rfl) (hv 5 rfl) (hv 6 rfl) (hv 3 rfl) (hb hby at_25) (by decide) (rmi l Z a0 hw [] b158 .null h158 n0 Z158 A158 G158 f160 f161) e158 rfl rfl pd_rm0_0 rfl (Nat.le_of_eq rfl) (by decide) (by decide) rfl rfl (by decide) (by decide)
      obtain ⟨ob_163, oc_163, ok_163, oq_163, rfl, Nq163, Kq163, q163_0, q163_1, q163_2, q163_3, q163_4, q163_5, q163_6, q163_7, q163_8, q163_9, q163_10, q163_11⟩ := Q163
      have N163 := Fr.app N0 Nq163
      obtain ⟨h163, e163⟩ : ∃ h, T163.heap = h := ⟨_, rfl⟩
      rw [e163] at Kq163 q163_0 q163_1 q163_2 q163_3 q163_4
      have Z163 : n0 ≤ h163.size := Nat.le_trans Z158 Kq163.1
      have f164 := f159.keep Kq163 (by intro x q; simp only [List.mem_cons, List.not_mem_nil, or_false] at q; rcases q with rfl; exact G158)
      have f165 := A158.keep Kq163
      have ne166_b158 : b158 ≠ ob_163 := Nat.ne_of_lt (Nat.lt_of_lt_of_le A158.lt q163_7)
      have ne167_b158 : b158 ≠ oc_163 := Nat.ne_of_lt (Nat.lt_of_lt_of_le A158.lt q163_8)
      have k163 : Go p e below m W T163 28 #[.val (.int p1), .val (.int p2), .val (.int p3), .val (.int p4), .val (.int p5), .val (.int p6), .val (.int (3 : Int32)), .val (.int (0 : Int32)), .unset, .unset, .unset, .unset] [(.ref b158)] := k163
      have k168 : Go p e below m W T163 30 #[.val (.int p1), .val (.int p2), .val (.int p3), .val (.int p4), .val (.int p5), .val (.int p6), .val (.int (3 : Int32)), .val (.int (0 : Int32)), .val (.ref b158), .unset, .unset, .unset] [] := k163.astore X163 hx (hb hby at_28) rfl rfl
      have k169 : Go p e below m W T163 33 #[.val (.int p1), .val (.int p2), .val (.int p3), .val (.int p4), .val (.int p5), .val (.int p6), .val (.int (3 : Int32)), .val (.int (0 : Int32)), .val (.ref b158), .unset, .unset, .unset] [(.int p1), (.ref b158)] := (k168.aload X163 hx (hb hby at_30) rfl rfl).iloadN X163 hx (hb hby at_32) rfl
      obtain ⟨T170, v170, L170, X170, Q170, k170⟩ := k169.virt (y := (⟨"com/example/guarantor/guarantor/lts/IntBlocks", "add", "(I)V"⟩ : MethodName)) (z := (⟨"com/example/guarantor/guarantor/lts/IntBlocks", "add", "(I)V"⟩ : MethodName)) (Wd := 0) (cells' := 3) (slots' := 19) (argsL := [(.int p1)]) (rest := []) X163 hx hZ hown (by rw [hml]; rfl) (hv 16 rfl) (hv 17 rfl) (notFace_of_selects (args := #[]) (mvT hZ (hv 19 rfl))) (hv 19 rfl) (hv 18 rfl) (hv 20 rfl) (hv 3 rfl) (hb hby at_33) (by decide) (rma0 l Z a0 hw [] b158 ob_163 oc_163 ok_163 oq_163 p1 h163 n0 Z163 q163_0 q163_1 q163_2 q163_3 q163_4 G158 q163_6 q163_9 q163_10 q163_11) e163 q163_0 rfl rfl pd_rm0_1 rfl (Nat.le_of_eq rfl) (by decide) (by decide) rfl rfl (by decide) (by decide)
      obtain ⟨rfl, Nq170, Kq170, q170_0, q170_1, q170_2, q170_3⟩ := Q170
      have N170 := Fr.app N163 Nq170
      obtain ⟨h170, e170⟩ : ∃ h, T170.heap = h := ⟨_, rfl⟩
      rw [e170] at Kq170 q170_0 q170_1 q170_2 q170_3
      have Z170 : n0 ≤ h170.size := Nat.le_trans Z163 Kq170.1
      have f171 := f164.keep Kq170 (by intro x q; simp only [List.mem_cons, List.not_mem_nil, or_false] at q; rcases q with rfl | rfl <;> first | exact G158 | exact q163_6)
      have f172 := q163_0.keep Kq170
      have f173 := q163_3.keep Kq170 (by simp only [List.mem_cons, List.not_mem_nil, or_false, not_or]; exact ⟨(Ne.symm q163_9), q163_11⟩)
      have k170 : Go p e below m W T170 36 #[.val (.int p1), .val (.int p2), .val (.int p3), .val (.int p4), .val (.int p5), .val (.int p6), .val (.int (3 : Int32)), .val (.int (0 : Int32)), .val (.ref b158), .unset, .unset, .unset] [] := k170
      have k174 : Go p e below m W T170 45 #[.val (.int p1), .val (.int p2), .val (.int p3), .val (.int p4), .val (.int p5), .val (.int p6), .val (.int (3 : Int32)), .val (.int (0 : Int32)), .val (.ref b158), .unset, .unset, .unset] [(.int p2), (.ref b158)] := ((((k170.iload X170 hx (hb hby at_36) rfl).iconst X170 hx (hb hby at_38) (v := (2 : Int32)) rfl).icmpNo X170 hx (hb hby at_39) (XT.ii_lt_f (by decide))).aload X170 hx (hb hby at_42) rfl rfl).iloadN X170 hx (hb hby at_44) rfl
      obtain ⟨T175, v175, L175, X175, Q175, k175⟩ := k174.virt (y := (⟨"com/example/guarantor/guarantor/lts/IntBlocks", "add", "(I)V"⟩ : MethodName)) (z := (⟨"com/example/guarantor/guarantor/lts/IntBlocks", "add", "(I)V"⟩ : MethodName)) (Wd := 0) (cells' := 3) (slots' := 19) (argsL := [(.int p2)]) (rest := []) X170 hx hZ hown (by rw [hml]; rfl) (hv 16 rfl) (hv 17 rfl) (notFace_of_selects (args := #[]) (mvT hZ (hv 19 rfl))) (hv 19 rfl) (hv 18 rfl) (hv 20 rfl) (hv 3 rfl) (hb hby at_45) (by decide) (rma1 l Z a0 hw [] b158 ob_163 oc_163 ok_163 oq_163 p2 p1 h170 n0 Z170 q170_0 q170_1 q170_2 f173 q170_3 G158 q163_6 q163_9 q163_10 q163_11) e170 q170_0 rfl rfl pd_rm0_1 rfl (Nat.le_of_eq rfl) (by decide) (by decide) rfl rfl (by decide) (by decide)
      obtain ⟨rfl, Nq175, Kq175, q175_0, q175_1, q175_2, q175_3⟩ := Q175
      have N175 := Fr.app N170 Nq175
      obtain ⟨h175, e175⟩ : ∃ h, T175.heap = h := ⟨_, rfl⟩
      rw [e175] at Kq175 q175_0 q175_1 q175_2 q175_3
      have Z175 : n0 ≤ h175.size := Nat.le_trans Z170 Kq175.1
      have f176 := f171.keep Kq175 (by intro x q; simp only [List.mem_cons, List.not_mem_nil, or_false] at q; rcases q with rfl | rfl <;> first | exact G158 | exact q163_6)
      have f177 := q170_0.keep Kq175
      have f178 := f173.keep Kq175 (by simp only [List.mem_cons, List.not_mem_nil, or_false, not_or]; exact ⟨(Ne.symm q163_9), q163_11⟩)
      have k175 : Go p e below m W T175 48 #[.val (.int p1), .val (.int p2), .val (.int p3), .val (.int p4), .val (.int p5), .val (.int p6), .val (.int (3 : Int32)), .val (.int (0 : Int32)), .val (.ref b158), .unset, .unset, .unset] [] := k175
      have k179 : Go p e below m W T175 57 #[.val (.int p1), .val (.int p2), .val (.int p3), .val (.int p4), .val (.int p5), .val (.int p6), .val (.int (3 : Int32)), .val (.int (0 : Int32)), .val (.ref b158), .unset, .unset, .unset] [(.int p3), (.ref b158)] := ((((k175.iload X175 hx (hb hby at_48) rfl).iconst X175 hx (hb hby at_50) (v := (3 : Int32)) rfl).icmpNo X175 hx (hb hby at_51) (XT.ii_lt_f (by decide))).aload X175 hx (hb hby at_54) rfl rfl).iloadN X175 hx (hb hby at_56) rfl
      obtain ⟨T180, v180, L180, X180, Q180, k180⟩ := k179.virt (y := (⟨"com/example/guarantor/guarantor/lts/IntBlocks", "add", "(I)V"⟩ : MethodName)) (z := (⟨"com/example/guarantor/guarantor/lts/IntBlocks", "add", "(I)V"⟩ : MethodName)) (Wd := 0) (cells' := 3) (slots' := 19) (argsL := [(.int p3)]) (rest := []) X175 hx hZ hown (by rw [hml]; rfl) (hv 16 rfl) (hv 17 rfl) (notFace_of_selects (args := #[]) (mvT hZ (hv 19 rfl))) (hv 19 rfl) (hv 18 rfl) (hv 20 rfl) (hv 3 rfl) (hb hby at_57) (by decide) (rma2 l Z a0 hw [] b158 ob_163 oc_163 ok_163 oq_163 p3 p1 p2 h175 n0 Z175 q175_0 q175_1 q175_2 f178 q175_3 G158 q163_6 q163_9 q163_10 q163_11) e175 q175_0 rfl rfl pd_rm0_1 rfl (Nat.le_of_eq rfl) (by decide) (by decide) rfl rfl (by decide) (by decide)
      obtain ⟨rfl, Nq180, Kq180, q180_0, q180_1, q180_2, q180_3⟩ := Q180
      have N180 := Fr.app N175 Nq180
      obtain ⟨h180, e180⟩ : ∃ h, T180.heap = h := ⟨_, rfl⟩
      rw [e180] at Kq180 q180_0 q180_1 q180_2 q180_3
      have Z180 : n0 ≤ h180.size := Nat.le_trans Z175 Kq180.1
      have f181 := f176.keep Kq180 (by intro x q; simp only [List.mem_cons, List.not_mem_nil, or_false] at q; rcases q with rfl | rfl <;> first | exact G158 | exact q163_6)
      have f182 := q175_0.keep Kq180
      have f183 := f178.keep Kq180 (by simp only [List.mem_cons, List.not_mem_nil, or_false, not_or]; exact ⟨(Ne.symm q163_9), q163_11⟩)
      have k180 : Go p e below m W T180 60 #[.val (.int p1), .val (.int p2), .val (.int p3), .val (.int p4), .val (.int p5), .val (.int p6), .val (.int (3 : Int32)), .val (.int (0 : Int32)), .val (.ref b158), .unset, .unset, .unset] [] := k180
      have k184 : Go p e below m W T180 65 #[.val (.int p1), .val (.int p2), .val (.int p3), .val (.int p4), .val (.int p5), .val (.int p6), .val (.int (3 : Int32)), .val (.int (0 : Int32)), .val (.ref b158), .unset, .unset, .unset] [(.int p4), (.int (0 : Int32)), (.ref b158)] := ((k180.aload X180 hx (hb hby at_60) rfl rfl).iload X180 hx (hb hby at_62) rfl).iloadN X180 hx (hb hby at_64) rfl
      obtain ⟨T185, v185, L185, X185, Q185, k185⟩ := k184.virt (y := (⟨"com/example/guarantor/guarantor/lts/IntBlocks", "set", "(II)V"⟩ : MethodName)) (z := (⟨"com/example/guarantor/guarantor/lts/IntBlocks", "set", "(II)V"⟩ : MethodName)) (Wd := 0) (cells' := 3) (slots' := 19) (argsL := [(.int (0 : Int32)), (.int p4)]) (rest := []) X180 hx hZ hown (by rw [hml]; rfl) (hv 24 rfl) (hv 25 rfl) (notFace_of_selects (args := #[]) (mvT hZ (hv 27 rfl))) (hv 27 rfl) (hv 26 rfl) (hv 28 rfl) (hv 3 rfl) (hb hby at_65) (by decide) (rms30 l Z a0 hw [] b158 ob_163 oc_163 ok_163 oq_163 p4 p1 p2 p3 h180 n0 Z180 q180_0 q180_1 q180_2 f183 q180_3 G158 q163_6 q163_9 q163_10 q163_11) e180 q180_0 rfl rfl pd_rm0_2 rfl (Nat.le_of_eq rfl) (by decide) (by decide) rfl rfl (by decide) (by decide)
      obtain ⟨rfl, Nq185, Kq185, q185_0⟩ := Q185
      have N185 := Fr.app N180 Nq185
      obtain ⟨h185, e185⟩ : ∃ h, T185.heap = h := ⟨_, rfl⟩
      rw [e185] at Kq185 q185_0
      have Z185 : n0 ≤ h185.size := Nat.le_trans Z180 Kq185.1
      have f186 := f181.keep Kq185 (by intro x q; simp only [List.mem_cons, List.not_mem_nil, or_false] at q; rcases q with rfl; exact q163_6)
      have f187 := q180_0.keep Kq185
      have f188 := f183.keep Kq185 (by simp only [List.mem_cons, List.not_mem_nil, or_false, not_or]; exact q163_11)
      have f189 := q180_1.keep Kq185 (by simp only [List.mem_cons, List.not_mem_nil, or_false, not_or]; exact q163_10)
      have f190 := q180_2.keep Kq185 (by simp only [List.mem_cons, List.not_mem_nil, or_false, not_or]; exact q163_10)
      have k185 : Go p e below m W T185 68 #[.val (.int p1), .val (.int p2), .val (.int p3), .val (.int p4), .val (.int p5), .val (.int p6), .val (.int (3 : Int32)), .val (.int (0 : Int32)), .val (.ref b158), .unset, .unset, .unset] [] := k185
      have k191 : Go p e below m W T185 70 #[.val (.int p1), .val (.int p2), .val (.int p3), .val (.int p4), .val (.int p5), .val (.int p6), .val (.int (3 : Int32)), .val (.int (0 : Int32)), .val (.ref b158), .unset, .unset, .unset] [(.ref b158)] := k185.aload X185 hx (hb hby at_68) rfl rfl
      obtain ⟨T192, v192, L192, X192, Q192, k192⟩ := k191.virt (y := (⟨"com/example/guarantor/guarantor/lts/IntBlocks", "size", "()I"⟩ : MethodName)) (z := (⟨"com/example/guarantor/guarantor/lts/IntBlocks", "size", "()I"⟩ : MethodName)) (Wd := 0) (cells' := 3) (slots' := 19) (argsL := []) (rest := []) X185 hx hZ hown (by rw [hml]; rfl) (hv 37 rfl) (hv 38 rfl) (notFace_of_selects (args := #[]) (mvT hZ (hv 40 rfl))) (hv 40 rfl) (hv 39 rfl) (hv 41 rfl) (hv 3 rfl) (hb hby at_70) (by decide) (rmz l Z a0 hw [] b158 (3 : Int32) h185 n0 Z185 f189) e185 f187 rfl rfl pd_rm0_3 rfl (Nat.le_of_eq rfl) (by decide) (by decide) rfl rfl (by decide) (by decide)
      obtain ⟨rfl, Nq192, e192q⟩ := Q192
      have N192 := Fr.app N185 Nq192
      have e192 : T192.heap = h185 := e192q
      have k192 : Go p e below m W T192 73 #[.val (.int p1), .val (.int p2), .val (.int p3), .val (.int p4), .val (.int p5), .val (.int p6), .val (.int (3 : Int32)), .val (.int (0 : Int32)), .val (.ref b158), .unset, .unset, .unset] [(.int (3 : Int32))] := k192
      have k193 : Go p e below m W T192 85 #[.val (.int p1), .val (.int p2), .val (.int p3), .val (.int p4), .val (.int p5), .val (.int p6), .val (.int (3 : Int32)), .val (.int (0 : Int32)), .val (.ref b158), .val (.int (1 : Int32)), .unset, .unset] [] := ((((k192.iload X192 hx (hb hby at_73) rfl).icmpNo X192 hx (hb hby at_75) (XT.ii_ne_f (by decide))).iconst X192 hx (hb hby at_78) (v := (1 : Int32)) rfl).goto X192 hx (hb hby at_79) (by decide) (by decide)).istore X192 hx (hb hby at_83) rfl
      have k194 : Go p e below m W T192 97 #[.val (.int p1), .val (.int p2), .val (.int p3), .val (.int p4), .val (.int p5), .val (.int p6), .val (.int (3 : Int32)), .val (.int (0 : Int32)), .val (.ref b158), .val (.int (1 : Int32)), .val (.int p4), .unset] [] := ((((k193.iload X192 hx (hb hby at_85) rfl).ifNo X192 hx (hb hby at_87) (XT.i0_ne_f (by decide))).iloadN X192 hx (hb hby at_90) rfl).goto X192 hx (hb hby at_91) (by decide) (by decide)).istore X192 hx (hb hby at_95) rfl
      have k195 : Go p e below m W T192 105 #[.val (.int p1), .val (.int p2), .val (.int p3), .val (.int p4), .val (.int p5), .val (.int p6), .val (.int (3 : Int32)), .val (.int (0 : Int32)), .val (.ref b158), .val (.int (1 : Int32)), .val (.int p4), .unset] [(.int (0 : Int32)), (.ref b158)] := (((k194.iload X192 hx (hb hby at_97) rfl).ifNo X192 hx (hb hby at_99) (XT.i0_eq_f (by decide))).aload X192 hx (hb hby at_102) rfl rfl).iconst X192 hx (hb hby at_104) (v := (0 : Int32)) rfl
      obtain ⟨T196, v196, L196, X196, Q196, k196⟩ := k195.virt (y := (⟨"com/example/guarantor/guarantor/lts/IntBlocks", "get", "(I)I"⟩ : MethodName)) (z := (⟨"com/example/guarantor/guarantor/lts/IntBlocks", "get", "(I)I"⟩ : MethodName)) (Wd := 0) (cells' := 3) (slots' := 19) (argsL := [(.int (0 : Int32))]) (rest := []) X192 hx hZ hown (by rw [hml]; rfl) (hv 42 rfl) (hv 43 rfl) (notFace_of_selects (args := #[]) (mvT hZ (hv 45 rfl))) (hv 45 rfl) (hv 44 rfl) (hv 46 rfl) (hv 3 rfl) (hb hby at_105) (by decide) (rmg30 l Z a0 hw [] b158 ob_163 oc_163 ok_163 oq_163 p4 p2 p3 h185 n0 Z185 f187 f189 f190 f188 q185_0) e192 f187 rfl rfl pd_rm0_4 rfl (Nat.le_of_eq rfl) (by decide) (by decide) rfl rfl (by decide) (by decide)
      obtain ⟨rfl, Nq196, e196q⟩ := Q196
      have N196 := Fr.app N192 Nq196
      have e196 : T196.heap = h185 := e196q
      have k196 : Go p e below m W T196 108 #[.val (.int p1), .val (.int p2), .val (.int p3), .val (.int p4), .val (.int p5), .val (.int p6), .val (.int (3 : Int32)), .val (.int (0 : Int32)), .val (.ref b158), .val (.int (1 : Int32)), .val (.int p4), .unset] [(.int p4)] := k196
      have k197 : Go p e below m W T196 120 #[.val (.int p1), .val (.int p2), .val (.int p3), .val (.int p4), .val (.int p5), .val (.int p6), .val (.int (3 : Int32)), .val (.int (0 : Int32)), .val (.ref b158), .val (.int (1 : Int32)), .val (.int p4), .unset] [] := ((((k196.iload X196 hx (hb hby at_108) rfl).icmpNo X196 hx (hb hby at_110) (XT.ii_ne_f rfl)).iconst X196 hx (hb hby at_113) (v := (1 : Int32)) rfl).goto X196 hx (hb hby at_114) (by decide) (by decide)).istore X196 hx (hb hby at_118) rfl
      have k198 : Go p e below m W T196 139 #[.val (.int p1), .val (.int p2), .val (.int p3), .val (.int p4), .val (.int p5), .val (.int p6), .val (.int (3 : Int32)), .val (.int (0 : Int32)), .val (.ref b158), .val (.int (1 : Int32)), .val (.int p4), .val (.int p2)] [] := (((((((k197.iload X196 hx (hb hby at_120) rfl).iconst X196 hx (hb hby at_122) (v := (2 : Int32)) rfl).icmpNo X196 hx (hb hby at_123) (XT.ii_lt_f (by decide))).iload X196 hx (hb hby at_126) rfl).iconst X196 hx (hb hby at_128) (v := (1 : Int32)) rfl).icmpYes X196 hx (hb hby at_129) (XT.ii_ne_t (by decide)) (by decide) (by decide)).iloadN X196 hx (hb hby at_136) rfl).istore X196 hx (hb hby at_137) rfl
      have k199 : Go p e below m W T196 147 #[.val (.int p1), .val (.int p2), .val (.int p3), .val (.int p4), .val (.int p5), .val (.int p6), .val (.int (3 : Int32)), .val (.int (0 : Int32)), .val (.ref b158), .val (.int (1 : Int32)), .val (.int p4), .val (.int p2)] [(.int (1 : Int32)), (.ref b158)] := (((k198.iload X196 hx (hb hby at_139) rfl).ifNo X196 hx (hb hby at_141) (XT.i0_eq_f (by decide))).aload X196 hx (hb hby at_144) rfl rfl).iconst X196 hx (hb hby at_146) (v := (1 : Int32)) rfl
      obtain ⟨T200, v200, L200, X200, Q200, k200⟩ := k199.virt (y := (⟨"com/example/guarantor/guarantor/lts/IntBlocks", "get", "(I)I"⟩ : MethodName)) (z := (⟨"com/example/guarantor/guarantor/lts/IntBlocks", "get", "(I)I"⟩ : MethodName)) (Wd := 0) (cells' := 3) (slots' := 19) (argsL := [(.int (1 : Int32))]) (rest := []) X196 hx hZ hown (by rw [hml]; rfl) (hv 42 rfl) (hv 43 rfl) (notFace_of_selects (args := #[]) (mvT hZ (hv 45 rfl))) (hv 45 rfl) (hv 44 rfl) (hv 46 rfl) (hv 3 rfl) (hb hby at_147) (by decide) (rmg31 l Z a0 hw [] b158 ob_163 oc_163 ok_163 oq_163 p4 p2 p3 h185 n0 Z185 f187 f189 f190 f188 q185_0) e196 f187 rfl rfl pd_rm0_4 rfl (Nat.le_of_eq rfl) (by decide) (by decide) rfl rfl (by decide) (by decide)
      obtain ⟨rfl, Nq200, e200q⟩ := Q200
      have N200 := Fr.app N196 Nq200
      have e200 : T200.heap = h185 := e200q
      have k200 : Go p e below m W T200 150 #[.val (.int p1), .val (.int p2), .val (.int p3), .val (.int p4), .val (.int p5), .val (.int p6), .val (.int (3 : Int32)), .val (.int (0 : Int32)), .val (.ref b158), .val (.int (1 : Int32)), .val (.int p4), .val (.int p2)] [(.int p2)] := k200
      have k201 : Go p e below m W T200 162 #[.val (.int p1), .val (.int p2), .val (.int p3), .val (.int p4), .val (.int p5), .val (.int p6), .val (.int (3 : Int32)), .val (.int (0 : Int32)), .val (.ref b158), .val (.int (1 : Int32)), .val (.int p4), .val (.int p2)] [] := ((((k200.iload X200 hx (hb hby at_150) rfl).icmpNo X200 hx (hb hby at_152) (XT.ii_ne_f rfl)).iconst X200 hx (hb hby at_155) (v := (1 : Int32)) rfl).goto X200 hx (hb hby at_156) (by decide) (by decide)).istore X200 hx (hb hby at_160) rfl
      have k202 : Go p e below m W T200 181 #[.val (.int p1), .val (.int p2), .val (.int p3), .val (.int p4), .val (.int p5), .val (.int p6), .val (.int (3 : Int32)), .val (.int (0 : Int32)), .val (.ref b158), .val (.int (1 : Int32)), .val (.int p4), .val (.int p3)] [] := (((((((k201.iload X200 hx (hb hby at_162) rfl).iconst X200 hx (hb hby at_164) (v := (3 : Int32)) rfl).icmpNo X200 hx (hb hby at_165) (XT.ii_lt_f (by decide))).iload X200 hx (hb hby at_168) rfl).iconst X200 hx (hb hby at_170) (v := (2 : Int32)) rfl).icmpYes X200 hx (hb hby at_171) (XT.ii_ne_t (by decide)) (by decide) (by decide)).iloadN X200 hx (hb hby at_178) rfl).istore X200 hx (hb hby at_179) rfl
      have k203 : Go p e below m W T200 189 #[.val (.int p1), .val (.int p2), .val (.int p3), .val (.int p4), .val (.int p5), .val (.int p6), .val (.int (3 : Int32)), .val (.int (0 : Int32)), .val (.ref b158), .val (.int (1 : Int32)), .val (.int p4), .val (.int p3)] [(.int (2 : Int32)), (.ref b158)] := (((k202.iload X200 hx (hb hby at_181) rfl).ifNo X200 hx (hb hby at_183) (XT.i0_eq_f (by decide))).aload X200 hx (hb hby at_186) rfl rfl).iconst X200 hx (hb hby at_188) (v := (2 : Int32)) rfl
      obtain ⟨T204, v204, L204, X204, Q204, k204⟩ := k203.virt (y := (⟨"com/example/guarantor/guarantor/lts/IntBlocks", "get", "(I)I"⟩ : MethodName)) (z := (⟨"com/example/guarantor/guarantor/lts/IntBlocks", "get", "(I)I"⟩ : MethodName)) (Wd := 0) (cells' := 3) (slots' := 19) (argsL := [(.int (2 : Int32))]) (rest := []) X200 hx hZ hown (by rw [hml]; rfl) (hv 42 rfl) (hv 43 rfl) (notFace_of_selects (args := #[]) (mvT hZ (hv 45 rfl))) (hv 45 rfl) (hv 44 rfl) (hv 46 rfl) (hv 3 rfl) (hb hby at_189) (by decide) (rmg32 l Z a0 hw [] b158 ob_163 oc_163 ok_163 oq_163 p4 p2 p3 h185 n0 Z185 f187 f189 f190 f188 q185_0) e200 f187 rfl rfl pd_rm0_4 rfl (Nat.le_of_eq rfl) (by decide) (by decide) rfl rfl (by decide) (by decide)
      obtain ⟨rfl, Nq204, e204q⟩ := Q204
      have N204 := Fr.app N200 Nq204
      have e204 : T204.heap = h185 := e204q
      have k204 : Go p e below m W T204 192 #[.val (.int p1), .val (.int p2), .val (.int p3), .val (.int p4), .val (.int p5), .val (.int p6), .val (.int (3 : Int32)), .val (.int (0 : Int32)), .val (.ref b158), .val (.int (1 : Int32)), .val (.int p4), .val (.int p3)] [(.int p3)] := k204
      have k205 : Go p e below m W T204 204 #[.val (.int p1), .val (.int p2), .val (.int p3), .val (.int p4), .val (.int p5), .val (.int p6), .val (.int (3 : Int32)), .val (.int (0 : Int32)), .val (.ref b158), .val (.int (1 : Int32)), .val (.int p4), .val (.int p3)] [] := ((((k204.iload X204 hx (hb hby at_192) rfl).icmpNo X204 hx (hb hby at_194) (XT.ii_ne_f rfl)).iconst X204 hx (hb hby at_197) (v := (1 : Int32)) rfl).goto X204 hx (hb hby at_198) (by decide) (by decide)).istore X204 hx (hb hby at_202) rfl
      have k206 : Go p e below m W T204 206 #[.val (.int p1), .val (.int p2), .val (.int p3), .val (.int p4), .val (.int p5), .val (.int p6), .val (.int (3 : Int32)), .val (.int (0 : Int32)), .val (.ref b158), .val (.int (1 : Int32)), .val (.int p4), .val (.int p3)] [(.int (1 : Int32))] := k205.iload X204 hx (hb hby at_204) rfl
      exact k206.ireturnN X204 hx (t := .boolean) Bd.returns (by simp) rfl (hb hby at_206) (BodyLoose.notSynchronized Bd) (by rw [e204]; exact ⟨rfl, N204⟩) (by decide) (by decide)
    ·
      subst r152
      have k207 : Go p e below m W s₁ 21 #[.val (.int p1), .val (.int p2), .val (.int p3), .val (.int p4), .val (.int p5), .val (.int p6), .val (.int (3 : Int32)), .val (.int (1 : Int32)), .unset, .unset, .unset, .unset] [] := k153.istore X0 hx (hb hby at_19) rfl
      obtain ⟨T208, h208, b208, X208, e208, g208, E208, A208, D208, k208⟩ := k207.newO (cells' := 1) (slots' := 2) X0 hx hZ hown (hv 1 rfl) (hv 2 rfl) (hv 3 rfl) e0 (hb hby at_21) rfl rfl (by decide) (by decide)
      have k208 : Go p e below m W T208 24 #[.val (.int p1), .val (.int p2), .val (.int p3), .val (.int p4), .val (.int p5), .val (.int p6), .val (.int (3 : Int32)), .val (.int (1 : Int32)), .unset, .unset, .unset, .unset] [(.ref b208)] := k208
      have Z208 : n0 ≤ h208.size := Nat.le_trans Z0 E208.1
      have f209 := O0.ext E208
      have G208 : n0 ≤ b208 := g208 ▸ Z0
      have f210 : Fld Z h208 b208 "com/example/guarantor/guarantor/lts/IntBlocks" "blocks" "[[I" .null := D208 (Or.inl (hv 15 rfl)) (ty := (.array (.array .int))) (by decide)
      have f211 : Fld Z h208 b208 "com/example/guarantor/guarantor/lts/IntBlocks" "size" "I" (.int (0 : Int32)) := D208 (Or.inl (hv 22 rfl)) (ty := .int) (by decide)
      have k212 : Go p e below m W T208 25 #[.val (.int p1), .val (.int p2), .val (.int p3), .val (.int p4), .val (.int p5), .val (.int p6), .val (.int (3 : Int32)), .val (.int (1 : Int32)), .unset, .unset, .unset, .unset] [(.ref b208), (.ref b208)] := k208.dup X208 hx (hb hby at_24) rfl
      obtain ⟨T213, v213, L213, X213, Q213, k213⟩ := k212.spec (y := (⟨"com/example/guarantor/guarantor/lts/IntBlocks", "<init>", "()V"⟩ : MethodName)) (b := b208) (Wd := 1) (cells' := 3) (slots' := 19) (argsL := []) (rest := [(.ref b208)]) X208 hx hZ hown (by rw [hml]; rfl) rfl (hv 4 rfl) (hv 5 rfl) (hv 6 rfl) (hv 3 rfl) (hb hby at_25) (by decide) (rmi l Z a0 hw [] b208 .null h208 n0 Z208 A208 G208 f210 f211) e208 rfl rfl pd_rm0_0 rfl (Nat.le_of_eq rfl) (by decide) (by decide) rfl rfl (by decide) (by decide)
      obtain ⟨ob_213, oc_213, ok_213, oq_213, rfl, Nq213, Kq213, q213_0, q213_1, q213_2, q213_3, q213_4, q213_5, q213_6, q213_7, q213_8, q213_9, q213_10, q213_11⟩ := Q213
      have N213 := Fr.app N0 Nq213
      obtain ⟨h213, e213⟩ : ∃ h, T213.heap = h := ⟨_, rfl⟩
      rw [e213] at Kq213 q213_0 q213_1 q213_2 q213_3 q213_4
      have Z213 : n0 ≤ h213.size := Nat.le_trans Z208 Kq213.1
      have f214 := f209.keep Kq213 (by intro x q; simp only [List.mem_cons, List.not_mem_nil, or_false] at q; rcases q with rfl; exact G208)
      have f215 := A208.keep Kq213
      have ne216_b208 : b208 ≠ ob_213 := Nat.ne_of_lt (Nat.lt_of_lt_of_le A208.lt q213_7)
      have ne217_b208 : b208 ≠ oc_213 := Nat.ne_of_lt (Nat.lt_of_lt_of_le A208.lt q213_8)
      have k213 : Go p e below m W T213 28 #[.val (.int p1), .val (.int p2), .val (.int p3), .val (.int p4), .val (.int p5), .val (.int p6), .val (.int (3 : Int32)), .val (.int (1 : Int32)), .unset, .unset, .unset, .unset] [(.ref b208)] := k213
      have k218 : Go p e below m W T213 30 #[.val (.int p1), .val (.int p2), .val (.int p3), .val (.int p4), .val (.int p5), .val (.int p6), .val (.int (3 : Int32)), .val (.int (1 : Int32)), .val (.ref b208), .unset, .unset, .unset] [] := k213.astore X213 hx (hb hby at_28) rfl rfl
      have k219 : Go p e below m W T213 33 #[.val (.int p1), .val (.int p2), .val (.int p3), .val (.int p4), .val (.int p5), .val (.int p6), .val (.int (3 : Int32)), .val (.int (1 : Int32)), .val (.ref b208), .unset, .unset, .unset] [(.int p1), (.ref b208)] := (k218.aload X213 hx (hb hby at_30) rfl rfl).iloadN X213 hx (hb hby at_32) rfl
      obtain ⟨T220, v220, L220, X220, Q220, k220⟩ := k219.virt (y := (⟨"com/example/guarantor/guarantor/lts/IntBlocks", "add", "(I)V"⟩ : MethodName)) (z := (⟨"com/example/guarantor/guarantor/lts/IntBlocks", "add", "(I)V"⟩ : MethodName)) (Wd := 0) (cells' := 3) (slots' := 19) (argsL := [(.int p1)]) (rest := []) X213 hx hZ hown (by rw [hml]; rfl) (hv 16 rfl) (hv 17 rfl) (notFace_of_selects (args := #[]) (mvT hZ (hv 19 rfl))) (hv 19 rfl) (hv 18 rfl) (hv 20 rfl) (hv 3 rfl) (hb hby at_33) (by decide) (rma0 l Z a0 hw [] b208 ob_213 oc_213 ok_213 oq_213 p1 h213 n0 Z213 q213_0 q213_1 q213_2 q213_3 q213_4 G208 q213_6 q213_9 q213_10 q213_11) e213 q213_0 rfl rfl pd_rm0_1 rfl (Nat.le_of_eq rfl) (by decide) (by decide) rfl rfl (by decide) (by decide)
      obtain ⟨rfl, Nq220, Kq220, q220_0, q220_1, q220_2, q220_3⟩ := Q220
      have N220 := Fr.app N213 Nq220
      obtain ⟨h220, e220⟩ : ∃ h, T220.heap = h := ⟨_, rfl⟩
      rw [e220] at Kq220 q220_0 q220_1 q220_2 q220_3
      have Z220 : n0 ≤ h220.size := Nat.le_trans Z213 Kq220.1
      have f221 := f214.keep Kq220 (by intro x q; simp only [List.mem_cons, List.not_mem_nil, or_false] at q; rcases q with rfl | rfl <;> first | exact G208 | exact q213_6)
      have f222 := q213_0.keep Kq220
      have f223 := q213_3.keep Kq220 (by simp only [List.mem_cons, List.not_mem_nil, or_false, not_or]; exact ⟨(Ne.symm q213_9), q213_11⟩)
      have k220 : Go p e below m W T220 36 #[.val (.int p1), .val (.int p2), .val (.int p3), .val (.int p4), .val (.int p5), .val (.int p6), .val (.int (3 : Int32)), .val (.int (1 : Int32)), .val (.ref b208), .unset, .unset, .unset] [] := k220
      have k224 : Go p e below m W T220 45 #[.val (.int p1), .val (.int p2), .val (.int p3), .val (.int p4), .val (.int p5), .val (.int p6), .val (.int (3 : Int32)), .val (.int (1 : Int32)), .val (.ref b208), .unset, .unset, .unset] [(.int p2), (.ref b208)] := ((((k220.iload X220 hx (hb hby at_36) rfl).iconst X220 hx (hb hby at_38) (v := (2 : Int32)) rfl).icmpNo X220 hx (hb hby at_39) (XT.ii_lt_f (by decide))).aload X220 hx (hb hby at_42) rfl rfl).iloadN X220 hx (hb hby at_44) rfl
      obtain ⟨T225, v225, L225, X225, Q225, k225⟩ := k224.virt (y := (⟨"com/example/guarantor/guarantor/lts/IntBlocks", "add", "(I)V"⟩ : MethodName)) (z := (⟨"com/example/guarantor/guarantor/lts/IntBlocks", "add", "(I)V"⟩ : MethodName)) (Wd := 0) (cells' := 3) (slots' := 19) (argsL := [(.int p2)]) (rest := []) X220 hx hZ hown (by rw [hml]; rfl) (hv 16 rfl) (hv 17 rfl) (notFace_of_selects (args := #[]) (mvT hZ (hv 19 rfl))) (hv 19 rfl) (hv 18 rfl) (hv 20 rfl) (hv 3 rfl) (hb hby at_45) (by decide) (rma1 l Z a0 hw [] b208 ob_213 oc_213 ok_213 oq_213 p2 p1 h220 n0 Z220 q220_0 q220_1 q220_2 f223 q220_3 G208 q213_6 q213_9 q213_10 q213_11) e220 q220_0 rfl rfl pd_rm0_1 rfl (Nat.le_of_eq rfl) (by decide) (by decide) rfl rfl (by decide) (by decide)
      obtain ⟨rfl, Nq225, Kq225, q225_0, q225_1, q225_2, q225_3⟩ := Q225
      have N225 := Fr.app N220 Nq225
      obtain ⟨h225, e225⟩ : ∃ h, T225.heap = h := ⟨_, rfl⟩
      rw [e225] at Kq225 q225_0 q225_1 q225_2 q225_3
      have Z225 : n0 ≤ h225.size := Nat.le_trans Z220 Kq225.1
      have f226 := f221.keep Kq225 (by intro x q; simp only [List.mem_cons, List.not_mem_nil, or_false] at q; rcases q with rfl | rfl <;> first | exact G208 | exact q213_6)
      have f227 := q220_0.keep Kq225
      have f228 := f223.keep Kq225 (by simp only [List.mem_cons, List.not_mem_nil, or_false, not_or]; exact ⟨(Ne.symm q213_9), q213_11⟩)
      have k225 : Go p e below m W T225 48 #[.val (.int p1), .val (.int p2), .val (.int p3), .val (.int p4), .val (.int p5), .val (.int p6), .val (.int (3 : Int32)), .val (.int (1 : Int32)), .val (.ref b208), .unset, .unset, .unset] [] := k225
      have k229 : Go p e below m W T225 57 #[.val (.int p1), .val (.int p2), .val (.int p3), .val (.int p4), .val (.int p5), .val (.int p6), .val (.int (3 : Int32)), .val (.int (1 : Int32)), .val (.ref b208), .unset, .unset, .unset] [(.int p3), (.ref b208)] := ((((k225.iload X225 hx (hb hby at_48) rfl).iconst X225 hx (hb hby at_50) (v := (3 : Int32)) rfl).icmpNo X225 hx (hb hby at_51) (XT.ii_lt_f (by decide))).aload X225 hx (hb hby at_54) rfl rfl).iloadN X225 hx (hb hby at_56) rfl
      obtain ⟨T230, v230, L230, X230, Q230, k230⟩ := k229.virt (y := (⟨"com/example/guarantor/guarantor/lts/IntBlocks", "add", "(I)V"⟩ : MethodName)) (z := (⟨"com/example/guarantor/guarantor/lts/IntBlocks", "add", "(I)V"⟩ : MethodName)) (Wd := 0) (cells' := 3) (slots' := 19) (argsL := [(.int p3)]) (rest := []) X225 hx hZ hown (by rw [hml]; rfl) (hv 16 rfl) (hv 17 rfl) (notFace_of_selects (args := #[]) (mvT hZ (hv 19 rfl))) (hv 19 rfl) (hv 18 rfl) (hv 20 rfl) (hv 3 rfl) (hb hby at_57) (by decide) (rma2 l Z a0 hw [] b208 ob_213 oc_213 ok_213 oq_213 p3 p1 p2 h225 n0 Z225 q225_0 q225_1 q225_2 f228 q225_3 G208 q213_6 q213_9 q213_10 q213_11) e225 q225_0 rfl rfl pd_rm0_1 rfl (Nat.le_of_eq rfl) (by decide) (by decide) rfl rfl (by decide) (by decide)
      obtain ⟨rfl, Nq230, Kq230, q230_0, q230_1, q230_2, q230_3⟩ := Q230
      have N230 := Fr.app N225 Nq230
      obtain ⟨h230, e230⟩ : ∃ h, T230.heap = h := ⟨_, rfl⟩
      rw [e230] at Kq230 q230_0 q230_1 q230_2 q230_3
      have Z230 : n0 ≤ h230.size := Nat.le_trans Z225 Kq230.1
      have f231 := f226.keep Kq230 (by intro x q; simp only [List.mem_cons, List.not_mem_nil, or_false] at q; rcases q with rfl | rfl <;> first | exact G208 | exact q213_6)
      have f232 := q225_0.keep Kq230
      have f233 := f228.keep Kq230 (by simp only [List.mem_cons, List.not_mem_nil, or_false, not_or]; exact ⟨(Ne.symm q213_9), q213_11⟩)
      have k230 : Go p e below m W T230 60 #[.val (.int p1), .val (.int p2), .val (.int p3), .val (.int p4), .val (.int p5), .val (.int p6), .val (.int (3 : Int32)), .val (.int (1 : Int32)), .val (.ref b208), .unset, .unset, .unset] [] := k230
      have k234 : Go p e below m W T230 65 #[.val (.int p1), .val (.int p2), .val (.int p3), .val (.int p4), .val (.int p5), .val (.int p6), .val (.int (3 : Int32)), .val (.int (1 : Int32)), .val (.ref b208), .unset, .unset, .unset] [(.int p4), (.int (1 : Int32)), (.ref b208)] := ((k230.aload X230 hx (hb hby at_60) rfl rfl).iload X230 hx (hb hby at_62) rfl).iloadN X230 hx (hb hby at_64) rfl
      obtain ⟨T235, v235, L235, X235, Q235, k235⟩ := k234.virt (y := (⟨"com/example/guarantor/guarantor/lts/IntBlocks", "set", "(II)V"⟩ : MethodName)) (z := (⟨"com/example/guarantor/guarantor/lts/IntBlocks", "set", "(II)V"⟩ : MethodName)) (Wd := 0) (cells' := 3) (slots' := 19) (argsL := [(.int (1 : Int32)), (.int p4)]) (rest := []) X230 hx hZ hown (by rw [hml]; rfl) (hv 24 rfl) (hv 25 rfl) (notFace_of_selects (args := #[]) (mvT hZ (hv 27 rfl))) (hv 27 rfl) (hv 26 rfl) (hv 28 rfl) (hv 3 rfl) (hb hby at_65) (by decide) (rms31 l Z a0 hw [] b208 ob_213 oc_213 ok_213 oq_213 p4 p1 p2 p3 h230 n0 Z230 q230_0 q230_1 q230_2 f233 q230_3 G208 q213_6 q213_9 q213_10 q213_11) e230 q230_0 rfl rfl pd_rm0_2 rfl (Nat.le_of_eq rfl) (by decide) (by decide) rfl rfl (by decide) (by decide)
      obtain ⟨rfl, Nq235, Kq235, q235_0⟩ := Q235
      have N235 := Fr.app N230 Nq235
      obtain ⟨h235, e235⟩ : ∃ h, T235.heap = h := ⟨_, rfl⟩
      rw [e235] at Kq235 q235_0
      have Z235 : n0 ≤ h235.size := Nat.le_trans Z230 Kq235.1
      have f236 := f231.keep Kq235 (by intro x q; simp only [List.mem_cons, List.not_mem_nil, or_false] at q; rcases q with rfl; exact q213_6)
      have f237 := q230_0.keep Kq235
      have f238 := f233.keep Kq235 (by simp only [List.mem_cons, List.not_mem_nil, or_false, not_or]; exact q213_11)
      have f239 := q230_1.keep Kq235 (by simp only [List.mem_cons, List.not_mem_nil, or_false, not_or]; exact q213_10)
      have f240 := q230_2.keep Kq235 (by simp only [List.mem_cons, List.not_mem_nil, or_false, not_or]; exact q213_10)
      have k235 : Go p e below m W T235 68 #[.val (.int p1), .val (.int p2), .val (.int p3), .val (.int p4), .val (.int p5), .val (.int p6), .val (.int (3 : Int32)), .val (.int (1 : Int32)), .val (.ref b208), .unset, .unset, .unset] [] := k235
      have k241 : Go p e below m W T235 70 #[.val (.int p1), .val (.int p2), .val (.int p3), .val (.int p4), .val (.int p5), .val (.int p6), .val (.int (3 : Int32)), .val (.int (1 : Int32)), .val (.ref b208), .unset, .unset, .unset] [(.ref b208)] := k235.aload X235 hx (hb hby at_68) rfl rfl
      obtain ⟨T242, v242, L242, X242, Q242, k242⟩ := k241.virt (y := (⟨"com/example/guarantor/guarantor/lts/IntBlocks", "size", "()I"⟩ : MethodName)) (z := (⟨"com/example/guarantor/guarantor/lts/IntBlocks", "size", "()I"⟩ : MethodName)) (Wd := 0) (cells' := 3) (slots' := 19) (argsL := []) (rest := []) X235 hx hZ hown (by rw [hml]; rfl) (hv 37 rfl) (hv 38 rfl) (notFace_of_selects (args := #[]) (mvT hZ (hv 40 rfl))) (hv 40 rfl) (hv 39 rfl) (hv 41 rfl) (hv 3 rfl) (hb hby at_70) (by decide) (rmz l Z a0 hw [] b208 (3 : Int32) h235 n0 Z235 f239) e235 f237 rfl rfl pd_rm0_3 rfl (Nat.le_of_eq rfl) (by decide) (by decide) rfl rfl (by decide) (by decide)
      obtain ⟨rfl, Nq242, e242q⟩ := Q242
      have N242 := Fr.app N235 Nq242
      have e242 : T242.heap = h235 := e242q
      have k242 : Go p e below m W T242 73 #[.val (.int p1), .val (.int p2), .val (.int p3), .val (.int p4), .val (.int p5), .val (.int p6), .val (.int (3 : Int32)), .val (.int (1 : Int32)), .val (.ref b208), .unset, .unset, .unset] [(.int (3 : Int32))] := k242
      have k243 : Go p e below m W T242 85 #[.val (.int p1), .val (.int p2), .val (.int p3), .val (.int p4), .val (.int p5), .val (.int p6), .val (.int (3 : Int32)), .val (.int (1 : Int32)), .val (.ref b208), .val (.int (1 : Int32)), .unset, .unset] [] := ((((k242.iload X242 hx (hb hby at_73) rfl).icmpNo X242 hx (hb hby at_75) (XT.ii_ne_f (by decide))).iconst X242 hx (hb hby at_78) (v := (1 : Int32)) rfl).goto X242 hx (hb hby at_79) (by decide) (by decide)).istore X242 hx (hb hby at_83) rfl
      have k244 : Go p e below m W T242 97 #[.val (.int p1), .val (.int p2), .val (.int p3), .val (.int p4), .val (.int p5), .val (.int p6), .val (.int (3 : Int32)), .val (.int (1 : Int32)), .val (.ref b208), .val (.int (1 : Int32)), .val (.int p1), .unset] [] := (((k243.iload X242 hx (hb hby at_85) rfl).ifYes X242 hx (hb hby at_87) (XT.i0_ne_t (by decide)) (by decide) (by decide)).iloadN X242 hx (hb hby at_94) rfl).istore X242 hx (hb hby at_95) rfl
      have k245 : Go p e below m W T242 105 #[.val (.int p1), .val (.int p2), .val (.int p3), .val (.int p4), .val (.int p5), .val (.int p6), .val (.int (3 : Int32)), .val (.int (1 : Int32)), .val (.ref b208), .val (.int (1 : Int32)), .val (.int p1), .unset] [(.int (0 : Int32)), (.ref b208)] := (((k244.iload X242 hx (hb hby at_97) rfl).ifNo X242 hx (hb hby at_99) (XT.i0_eq_f (by decide))).aload X242 hx (hb hby at_102) rfl rfl).iconst X242 hx (hb hby at_104) (v := (0 : Int32)) rfl
      obtain ⟨T246, v246, L246, X246, Q246, k246⟩ := k245.virt (y := (⟨"com/example/guarantor/guarantor/lts/IntBlocks", "get", "(I)I"⟩ : MethodName)) (z := (⟨"com/example/guarantor/guarantor/lts/IntBlocks", "get", "(I)I"⟩ : MethodName)) (Wd := 0) (cells' := 3) (slots' := 19) (argsL := [(.int (0 : Int32))]) (rest := []) X242 hx hZ hown (by rw [hml]; rfl) (hv 42 rfl) (hv 43 rfl) (notFace_of_selects (args := #[]) (mvT hZ (hv 45 rfl))) (hv 45 rfl) (hv 44 rfl) (hv 46 rfl) (hv 3 rfl) (hb hby at_105) (by decide) (rmg30 l Z a0 hw [] b208 ob_213 oc_213 ok_213 oq_213 p1 p4 p3 h235 n0 Z235 f237 f239 f240 f238 q235_0) e242 f237 rfl rfl pd_rm0_4 rfl (Nat.le_of_eq rfl) (by decide) (by decide) rfl rfl (by decide) (by decide)
      obtain ⟨rfl, Nq246, e246q⟩ := Q246
      have N246 := Fr.app N242 Nq246
      have e246 : T246.heap = h235 := e246q
      have k246 : Go p e below m W T246 108 #[.val (.int p1), .val (.int p2), .val (.int p3), .val (.int p4), .val (.int p5), .val (.int p6), .val (.int (3 : Int32)), .val (.int (1 : Int32)), .val (.ref b208), .val (.int (1 : Int32)), .val (.int p1), .unset] [(.int p1)] := k246
      have k247 : Go p e below m W T246 120 #[.val (.int p1), .val (.int p2), .val (.int p3), .val (.int p4), .val (.int p5), .val (.int p6), .val (.int (3 : Int32)), .val (.int (1 : Int32)), .val (.ref b208), .val (.int (1 : Int32)), .val (.int p1), .unset] [] := ((((k246.iload X246 hx (hb hby at_108) rfl).icmpNo X246 hx (hb hby at_110) (XT.ii_ne_f rfl)).iconst X246 hx (hb hby at_113) (v := (1 : Int32)) rfl).goto X246 hx (hb hby at_114) (by decide) (by decide)).istore X246 hx (hb hby at_118) rfl
      have k248 : Go p e below m W T246 139 #[.val (.int p1), .val (.int p2), .val (.int p3), .val (.int p4), .val (.int p5), .val (.int p6), .val (.int (3 : Int32)), .val (.int (1 : Int32)), .val (.ref b208), .val (.int (1 : Int32)), .val (.int p1), .val (.int p4)] [] := ((((((((k247.iload X246 hx (hb hby at_120) rfl).iconst X246 hx (hb hby at_122) (v := (2 : Int32)) rfl).icmpNo X246 hx (hb hby at_123) (XT.ii_lt_f (by decide))).iload X246 hx (hb hby at_126) rfl).iconst X246 hx (hb hby at_128) (v := (1 : Int32)) rfl).icmpNo X246 hx (hb hby at_129) (XT.ii_ne_f (by decide))).iloadN X246 hx (hb hby at_132) rfl).goto X246 hx (hb hby at_133) (by decide) (by decide)).istore X246 hx (hb hby at_137) rfl
      have k249 : Go p e below m W T246 147 #[.val (.int p1), .val (.int p2), .val (.int p3), .val (.int p4), .val (.int p5), .val (.int p6), .val (.int (3 : Int32)), .val (.int (1 : Int32)), .val (.ref b208), .val (.int (1 : Int32)), .val (.int p1), .val (.int p4)] [(.int (1 : Int32)), (.ref b208)] := (((k248.iload X246 hx (hb hby at_139) rfl).ifNo X246 hx (hb hby at_141) (XT.i0_eq_f (by decide))).aload X246 hx (hb hby at_144) rfl rfl).iconst X246 hx (hb hby at_146) (v := (1 : Int32)) rfl
      obtain ⟨T250, v250, L250, X250, Q250, k250⟩ := k249.virt (y := (⟨"com/example/guarantor/guarantor/lts/IntBlocks", "get", "(I)I"⟩ : MethodName)) (z := (⟨"com/example/guarantor/guarantor/lts/IntBlocks", "get", "(I)I"⟩ : MethodName)) (Wd := 0) (cells' := 3) (slots' := 19) (argsL := [(.int (1 : Int32))]) (rest := []) X246 hx hZ hown (by rw [hml]; rfl) (hv 42 rfl) (hv 43 rfl) (notFace_of_selects (args := #[]) (mvT hZ (hv 45 rfl))) (hv 45 rfl) (hv 44 rfl) (hv 46 rfl) (hv 3 rfl) (hb hby at_147) (by decide) (rmg31 l Z a0 hw [] b208 ob_213 oc_213 ok_213 oq_213 p1 p4 p3 h235 n0 Z235 f237 f239 f240 f238 q235_0) e246 f237 rfl rfl pd_rm0_4 rfl (Nat.le_of_eq rfl) (by decide) (by decide) rfl rfl (by decide) (by decide)
      obtain ⟨rfl, Nq250, e250q⟩ := Q250
      have N250 := Fr.app N246 Nq250
      have e250 : T250.heap = h235 := e250q
      have k250 : Go p e below m W T250 150 #[.val (.int p1), .val (.int p2), .val (.int p3), .val (.int p4), .val (.int p5), .val (.int p6), .val (.int (3 : Int32)), .val (.int (1 : Int32)), .val (.ref b208), .val (.int (1 : Int32)), .val (.int p1), .val (.int p4)] [(.int p4)] := k250
      have k251 : Go p e below m W T250 162 #[.val (.int p1), .val (.int p2), .val (.int p3), .val (.int p4), .val (.int p5), .val (.int p6), .val (.int (3 : Int32)), .val (.int (1 : Int32)), .val (.ref b208), .val (.int (1 : Int32)), .val (.int p1), .val (.int p4)] [] := ((((k250.iload X250 hx (hb hby at_150) rfl).icmpNo X250 hx (hb hby at_152) (XT.ii_ne_f rfl)).iconst X250 hx (hb hby at_155) (v := (1 : Int32)) rfl).goto X250 hx (hb hby at_156) (by decide) (by decide)).istore X250 hx (hb hby at_160) rfl
      have k252 : Go p e below m W T250 181 #[.val (.int p1), .val (.int p2), .val (.int p3), .val (.int p4), .val (.int p5), .val (.int p6), .val (.int (3 : Int32)), .val (.int (1 : Int32)), .val (.ref b208), .val (.int (1 : Int32)), .val (.int p1), .val (.int p3)] [] := (((((((k251.iload X250 hx (hb hby at_162) rfl).iconst X250 hx (hb hby at_164) (v := (3 : Int32)) rfl).icmpNo X250 hx (hb hby at_165) (XT.ii_lt_f (by decide))).iload X250 hx (hb hby at_168) rfl).iconst X250 hx (hb hby at_170) (v := (2 : Int32)) rfl).icmpYes X250 hx (hb hby at_171) (XT.ii_ne_t (by decide)) (by decide) (by decide)).iloadN X250 hx (hb hby at_178) rfl).istore X250 hx (hb hby at_179) rfl
      have k253 : Go p e below m W T250 189 #[.val (.int p1), .val (.int p2), .val (.int p3), .val (.int p4), .val (.int p5), .val (.int p6), .val (.int (3 : Int32)), .val (.int (1 : Int32)), .val (.ref b208), .val (.int (1 : Int32)), .val (.int p1), .val (.int p3)] [(.int (2 : Int32)), (.ref b208)] := (((k252.iload X250 hx (hb hby at_181) rfl).ifNo X250 hx (hb hby at_183) (XT.i0_eq_f (by decide))).aload X250 hx (hb hby at_186) rfl rfl).iconst X250 hx (hb hby at_188) (v := (2 : Int32)) rfl
      obtain ⟨T254, v254, L254, X254, Q254, k254⟩ := k253.virt (y := (⟨"com/example/guarantor/guarantor/lts/IntBlocks", "get", "(I)I"⟩ : MethodName)) (z := (⟨"com/example/guarantor/guarantor/lts/IntBlocks", "get", "(I)I"⟩ : MethodName)) (Wd := 0) (cells' := 3) (slots' := 19) (argsL := [(.int (2 : Int32))]) (rest := []) X250 hx hZ hown (by rw [hml]; rfl) (hv 42 rfl) (hv 43 rfl) (notFace_of_selects (args := #[]) (mvT hZ (hv 45 rfl))) (hv 45 rfl) (hv 44 rfl) (hv 46 rfl) (hv 3 rfl) (hb hby at_189) (by decide) (rmg32 l Z a0 hw [] b208 ob_213 oc_213 ok_213 oq_213 p1 p4 p3 h235 n0 Z235 f237 f239 f240 f238 q235_0) e250 f237 rfl rfl pd_rm0_4 rfl (Nat.le_of_eq rfl) (by decide) (by decide) rfl rfl (by decide) (by decide)
      obtain ⟨rfl, Nq254, e254q⟩ := Q254
      have N254 := Fr.app N250 Nq254
      have e254 : T254.heap = h235 := e254q
      have k254 : Go p e below m W T254 192 #[.val (.int p1), .val (.int p2), .val (.int p3), .val (.int p4), .val (.int p5), .val (.int p6), .val (.int (3 : Int32)), .val (.int (1 : Int32)), .val (.ref b208), .val (.int (1 : Int32)), .val (.int p1), .val (.int p3)] [(.int p3)] := k254
      have k255 : Go p e below m W T254 204 #[.val (.int p1), .val (.int p2), .val (.int p3), .val (.int p4), .val (.int p5), .val (.int p6), .val (.int (3 : Int32)), .val (.int (1 : Int32)), .val (.ref b208), .val (.int (1 : Int32)), .val (.int p1), .val (.int p3)] [] := ((((k254.iload X254 hx (hb hby at_192) rfl).icmpNo X254 hx (hb hby at_194) (XT.ii_ne_f rfl)).iconst X254 hx (hb hby at_197) (v := (1 : Int32)) rfl).goto X254 hx (hb hby at_198) (by decide) (by decide)).istore X254 hx (hb hby at_202) rfl
      have k256 : Go p e below m W T254 206 #[.val (.int p1), .val (.int p2), .val (.int p3), .val (.int p4), .val (.int p5), .val (.int p6), .val (.int (3 : Int32)), .val (.int (1 : Int32)), .val (.ref b208), .val (.int (1 : Int32)), .val (.int p1), .val (.int p3)] [(.int (1 : Int32))] := k255.iload X254 hx (hb hby at_204) rfl
      exact k256.ireturnN X254 hx (t := .boolean) Bd.returns (by simp) rfl (hb hby at_206) (BodyLoose.notSynchronized Bd) (by rw [e254]; exact ⟨rfl, N254⟩) (by decide) (by decide)
    ·
      subst r152
      have k257 : Go p e below m W s₁ 21 #[.val (.int p1), .val (.int p2), .val (.int p3), .val (.int p4), .val (.int p5), .val (.int p6), .val (.int (3 : Int32)), .val (.int (2 : Int32)), .unset, .unset, .unset, .unset] [] := k153.istore X0 hx (hb hby at_19) rfl
      obtain ⟨T258, h258, b258, X258, e258, g258, E258, A258, D258, k258⟩ := k257.newO (cells' := 1) (slots' := 2) X0 hx hZ hown (hv 1 rfl) (hv 2 rfl) (hv 3 rfl) e0 (hb hby at_21) rfl rfl (by decide) (by decide)
      have k258 : Go p e below m W T258 24 #[.val (.int p1), .val (.int p2), .val (.int p3), .val (.int p4), .val (.int p5), .val (.int p6), .val (.int (3 : Int32)), .val (.int (2 : Int32)), .unset, .unset, .unset, .unset] [(.ref b258)] := k258
      have Z258 : n0 ≤ h258.size := Nat.le_trans Z0 E258.1
      have f259 := O0.ext E258
      have G258 : n0 ≤ b258 := g258 ▸ Z0
      have f260 : Fld Z h258 b258 "com/example/guarantor/guarantor/lts/IntBlocks" "blocks" "[[I" .null := D258 (Or.inl (hv 15 rfl)) (ty := (.array (.array .int))) (by decide)
      have f261 : Fld Z h258 b258 "com/example/guarantor/guarantor/lts/IntBlocks" "size" "I" (.int (0 : Int32)) := D258 (Or.inl (hv 22 rfl)) (ty := .int) (by decide)
      have k262 : Go p e below m W T258 25 #[.val (.int p1), .val (.int p2), .val (.int p3), .val (.int p4), .val (.int p5), .val (.int p6), .val (.int (3 : Int32)), .val (.int (2 : Int32)), .unset, .unset, .unset, .unset] [(.ref b258), (.ref b258)] := k258.dup X258 hx (hb hby at_24) rfl
      obtain ⟨T263, v263, L263, X263, Q263, k263⟩ := k262.spec (y := (⟨"com/example/guarantor/guarantor/lts/IntBlocks", "<init>", "()V"⟩ : MethodName)) (b := b258) (Wd := 1) (cells' := 3) (slots' := 19) (argsL := []) (rest := [(.ref b258)]) X258 hx hZ hown (by rw [hml]; rfl) rfl (hv 4 rfl) (hv 5 rfl) (hv 6 rfl) (hv 3 rfl) (hb hby at_25) (by decide) (rmi l Z a0 hw [] b258 .null h258 n0 Z258 A258 G258 f260 f261) e258 rfl rfl pd_rm0_0 rfl (Nat.le_of_eq rfl) (by decide) (by decide) rfl rfl (by decide) (by decide)
      obtain ⟨ob_263, oc_263, ok_263, oq_263, rfl, Nq263, Kq263, q263_0, q263_1, q263_2, q263_3, q263_4, q263_5, q263_6, q263_7, q263_8, q263_9, q263_10, q263_11⟩ := Q263
      have N263 := Fr.app N0 Nq263
      obtain ⟨h263, e263⟩ : ∃ h, T263.heap = h := ⟨_, rfl⟩
      rw [e263] at Kq263 q263_0 q263_1 q263_2 q263_3 q263_4
      have Z263 : n0 ≤ h263.size := Nat.le_trans Z258 Kq263.1
      have f264 := f259.keep Kq263 (by intro x q; simp only [List.mem_cons, List.not_mem_nil, or_false] at q; rcases q with rfl; exact G258)
      have f265 := A258.keep Kq263
      have ne266_b258 : b258 ≠ ob_263 := Nat.ne_of_lt (Nat.lt_of_lt_of_le A258.lt q263_7)
      have ne267_b258 : b258 ≠ oc_263 := Nat.ne_of_lt (Nat.lt_of_lt_of_le A258.lt q263_8)
      have k263 : Go p e below m W T263 28 #[.val (.int p1), .val (.int p2), .val (.int p3), .val (.int p4), .val (.int p5), .val (.int p6), .val (.int (3 : Int32)), .val (.int (2 : Int32)), .unset, .unset, .unset, .unset] [(.ref b258)] := k263
      have k268 : Go p e below m W T263 30 #[.val (.int p1), .val (.int p2), .val (.int p3), .val (.int p4), .val (.int p5), .val (.int p6), .val (.int (3 : Int32)), .val (.int (2 : Int32)), .val (.ref b258), .unset, .unset, .unset] [] := k263.astore X263 hx (hb hby at_28) rfl rfl
      have k269 : Go p e below m W T263 33 #[.val (.int p1), .val (.int p2), .val (.int p3), .val (.int p4), .val (.int p5), .val (.int p6), .val (.int (3 : Int32)), .val (.int (2 : Int32)), .val (.ref b258), .unset, .unset, .unset] [(.int p1), (.ref b258)] := (k268.aload X263 hx (hb hby at_30) rfl rfl).iloadN X263 hx (hb hby at_32) rfl
      obtain ⟨T270, v270, L270, X270, Q270, k270⟩ := k269.virt (y := (⟨"com/example/guarantor/guarantor/lts/IntBlocks", "add", "(I)V"⟩ : MethodName)) (z := (⟨"com/example/guarantor/guarantor/lts/IntBlocks", "add", "(I)V"⟩ : MethodName)) (Wd := 0) (cells' := 3) (slots' := 19) (argsL := [(.int p1)]) (rest := []) X263 hx hZ hown (by rw [hml]; rfl) (hv 16 rfl) (hv 17 rfl) (notFace_of_selects (args := #[]) (mvT hZ (hv 19 rfl))) (hv 19 rfl) (hv 18 rfl) (hv 20 rfl) (hv 3 rfl) (hb hby at_33) (by decide) (rma0 l Z a0 hw [] b258 ob_263 oc_263 ok_263 oq_263 p1 h263 n0 Z263 q263_0 q263_1 q263_2 q263_3 q263_4 G258 q263_6 q263_9 q263_10 q263_11) e263 q263_0 rfl rfl pd_rm0_1 rfl (Nat.le_of_eq rfl) (by decide) (by decide) rfl rfl (by decide) (by decide)
      obtain ⟨rfl, Nq270, Kq270, q270_0, q270_1, q270_2, q270_3⟩ := Q270
      have N270 := Fr.app N263 Nq270
      obtain ⟨h270, e270⟩ : ∃ h, T270.heap = h := ⟨_, rfl⟩
      rw [e270] at Kq270 q270_0 q270_1 q270_2 q270_3
      have Z270 : n0 ≤ h270.size := Nat.le_trans Z263 Kq270.1
      have f271 := f264.keep Kq270 (by intro x q; simp only [List.mem_cons, List.not_mem_nil, or_false] at q; rcases q with rfl | rfl <;> first | exact G258 | exact q263_6)
      have f272 := q263_0.keep Kq270
      have f273 := q263_3.keep Kq270 (by simp only [List.mem_cons, List.not_mem_nil, or_false, not_or]; exact ⟨(Ne.symm q263_9), q263_11⟩)
      have k270 : Go p e below m W T270 36 #[.val (.int p1), .val (.int p2), .val (.int p3), .val (.int p4), .val (.int p5), .val (.int p6), .val (.int (3 : Int32)), .val (.int (2 : Int32)), .val (.ref b258), .unset, .unset, .unset] [] := k270
      have k274 : Go p e below m W T270 45 #[.val (.int p1), .val (.int p2), .val (.int p3), .val (.int p4), .val (.int p5), .val (.int p6), .val (.int (3 : Int32)), .val (.int (2 : Int32)), .val (.ref b258), .unset, .unset, .unset] [(.int p2), (.ref b258)] := ((((k270.iload X270 hx (hb hby at_36) rfl).iconst X270 hx (hb hby at_38) (v := (2 : Int32)) rfl).icmpNo X270 hx (hb hby at_39) (XT.ii_lt_f (by decide))).aload X270 hx (hb hby at_42) rfl rfl).iloadN X270 hx (hb hby at_44) rfl
      obtain ⟨T275, v275, L275, X275, Q275, k275⟩ := k274.virt (y := (⟨"com/example/guarantor/guarantor/lts/IntBlocks", "add", "(I)V"⟩ : MethodName)) (z := (⟨"com/example/guarantor/guarantor/lts/IntBlocks", "add", "(I)V"⟩ : MethodName)) (Wd := 0) (cells' := 3) (slots' := 19) (argsL := [(.int p2)]) (rest := []) X270 hx hZ hown (by rw [hml]; rfl) (hv 16 rfl) (hv 17 rfl) (notFace_of_selects (args := #[]) (mvT hZ (hv 19 rfl))) (hv 19 rfl) (hv 18 rfl) (hv 20 rfl) (hv 3 rfl) (hb hby at_45) (by decide) (rma1 l Z a0 hw [] b258 ob_263 oc_263 ok_263 oq_263 p2 p1 h270 n0 Z270 q270_0 q270_1 q270_2 f273 q270_3 G258 q263_6 q263_9 q263_10 q263_11) e270 q270_0 rfl rfl pd_rm0_1 rfl (Nat.le_of_eq rfl) (by decide) (by decide) rfl rfl (by decide) (by decide)
      obtain ⟨rfl, Nq275, Kq275, q275_0, q275_1, q275_2, q275_3⟩ := Q275
      have N275 := Fr.app N270 Nq275
      obtain ⟨h275, e275⟩ : ∃ h, T275.heap = h := ⟨_, rfl⟩
      rw [e275] at Kq275 q275_0 q275_1 q275_2 q275_3
      have Z275 : n0 ≤ h275.size := Nat.le_trans Z270 Kq275.1
      have f276 := f271.keep Kq275 (by intro x q; simp only [List.mem_cons, List.not_mem_nil, or_false] at q; rcases q with rfl | rfl <;> first | exact G258 | exact q263_6)
      have f277 := q270_0.keep Kq275
      have f278 := f273.keep Kq275 (by simp only [List.mem_cons, List.not_mem_nil, or_false, not_or]; exact ⟨(Ne.symm q263_9), q263_11⟩)
      have k275 : Go p e below m W T275 48 #[.val (.int p1), .val (.int p2), .val (.int p3), .val (.int p4), .val (.int p5), .val (.int p6), .val (.int (3 : Int32)), .val (.int (2 : Int32)), .val (.ref b258), .unset, .unset, .unset] [] := k275
      have k279 : Go p e below m W T275 57 #[.val (.int p1), .val (.int p2), .val (.int p3), .val (.int p4), .val (.int p5), .val (.int p6), .val (.int (3 : Int32)), .val (.int (2 : Int32)), .val (.ref b258), .unset, .unset, .unset] [(.int p3), (.ref b258)] := ((((k275.iload X275 hx (hb hby at_48) rfl).iconst X275 hx (hb hby at_50) (v := (3 : Int32)) rfl).icmpNo X275 hx (hb hby at_51) (XT.ii_lt_f (by decide))).aload X275 hx (hb hby at_54) rfl rfl).iloadN X275 hx (hb hby at_56) rfl
      obtain ⟨T280, v280, L280, X280, Q280, k280⟩ := k279.virt (y := (⟨"com/example/guarantor/guarantor/lts/IntBlocks", "add", "(I)V"⟩ : MethodName)) (z := (⟨"com/example/guarantor/guarantor/lts/IntBlocks", "add", "(I)V"⟩ : MethodName)) (Wd := 0) (cells' := 3) (slots' := 19) (argsL := [(.int p3)]) (rest := []) X275 hx hZ hown (by rw [hml]; rfl) (hv 16 rfl) (hv 17 rfl) (notFace_of_selects (args := #[]) (mvT hZ (hv 19 rfl))) (hv 19 rfl) (hv 18 rfl) (hv 20 rfl) (hv 3 rfl) (hb hby at_57) (by decide) (rma2 l Z a0 hw [] b258 ob_263 oc_263 ok_263 oq_263 p3 p1 p2 h275 n0 Z275 q275_0 q275_1 q275_2 f278 q275_3 G258 q263_6 q263_9 q263_10 q263_11) e275 q275_0 rfl rfl pd_rm0_1 rfl (Nat.le_of_eq rfl) (by decide) (by decide) rfl rfl (by decide) (by decide)
      obtain ⟨rfl, Nq280, Kq280, q280_0, q280_1, q280_2, q280_3⟩ := Q280
      have N280 := Fr.app N275 Nq280
      obtain ⟨h280, e280⟩ : ∃ h, T280.heap = h := ⟨_, rfl⟩
      rw [e280] at Kq280 q280_0 q280_1 q280_2 q280_3
      have Z280 : n0 ≤ h280.size := Nat.le_trans Z275 Kq280.1
      have f281 := f276.keep Kq280 (by intro x q; simp only [List.mem_cons, List.not_mem_nil, or_false] at q; rcases q with rfl | rfl <;> first | exact G258 | exact q263_6)
      have f282 := q275_0.keep Kq280
      have f283 := f278.keep Kq280 (by simp only [List.mem_cons, List.not_mem_nil, or_false, not_or]; exact ⟨(Ne.symm q263_9), q263_11⟩)
      have k280 : Go p e below m W T280 60 #[.val (.int p1), .val (.int p2), .val (.int p3), .val (.int p4), .val (.int p5), .val (.int p6), .val (.int (3 : Int32)), .val (.int (2 : Int32)), .val (.ref b258), .unset, .unset, .unset] [] := k280
      have k284 : Go p e below m W T280 65 #[.val (.int p1), .val (.int p2), .val (.int p3), .val (.int p4), .val (.int p5), .val (.int p6), .val (.int (3 : Int32)), .val (.int (2 : Int32)), .val (.ref b258), .unset, .unset, .unset] [(.int p4), (.int (2 : Int32)), (.ref b258)] := ((k280.aload X280 hx (hb hby at_60) rfl rfl).iload X280 hx (hb hby at_62) rfl).iloadN X280 hx (hb hby at_64) rfl
      obtain ⟨T285, v285, L285, X285, Q285, k285⟩ := k284.virt (y := (⟨"com/example/guarantor/guarantor/lts/IntBlocks", "set", "(II)V"⟩ : MethodName)) (z := (⟨"com/example/guarantor/guarantor/lts/IntBlocks", "set", "(II)V"⟩ : MethodName)) (Wd := 0) (cells' := 3) (slots' := 19) (argsL := [(.int (2 : Int32)), (.int p4)]) (rest := []) X280 hx hZ hown (by rw [hml]; rfl) (hv 24 rfl) (hv 25 rfl) (notFace_of_selects (args := #[]) (mvT hZ (hv 27 rfl))) (hv 27 rfl) (hv 26 rfl) (hv 28 rfl) (hv 3 rfl) (hb hby at_65) (by decide) (rms32 l Z a0 hw [] b258 ob_263 oc_263 ok_263 oq_263 p4 p1 p2 p3 h280 n0 Z280 q280_0 q280_1 q280_2 f283 q280_3 G258 q263_6 q263_9 q263_10 q263_11) e280 q280_0 rfl rfl pd_rm0_2 rfl (Nat.le_of_eq rfl) (by decide) (by decide) rfl rfl (by decide) (by decide)
      obtain ⟨rfl, Nq285, Kq285, q285_0⟩ := Q285
      have N285 := Fr.app N280 Nq285
      obtain ⟨h285, e285⟩ : ∃ h, T285.heap = h := ⟨_, rfl⟩
      rw [e285] at Kq285 q285_0
      have Z285 : n0 ≤ h285.size := Nat.le_trans Z280 Kq285.1
      have f286 := f281.keep Kq285 (by intro x q; simp only [List.mem_cons, List.not_mem_nil, or_false] at q; rcases q with rfl; exact q263_6)
      have f287 := q280_0.keep Kq285
      have f288 := f283.keep Kq285 (by simp only [List.mem_cons, List.not_mem_nil, or_false, not_or]; exact q263_11)
      have f289 := q280_1.keep Kq285 (by simp only [List.mem_cons, List.not_mem_nil, or_false, not_or]; exact q263_10)
      have f290 := q280_2.keep Kq285 (by simp only [List.mem_cons, List.not_mem_nil, or_false, not_or]; exact q263_10)
      have k285 : Go p e below m W T285 68 #[.val (.int p1), .val (.int p2), .val (.int p3), .val (.int p4), .val (.int p5), .val (.int p6), .val (.int (3 : Int32)), .val (.int (2 : Int32)), .val (.ref b258), .unset, .unset, .unset] [] := k285
      have k291 : Go p e below m W T285 70 #[.val (.int p1), .val (.int p2), .val (.int p3), .val (.int p4), .val (.int p5), .val (.int p6), .val (.int (3 : Int32)), .val (.int (2 : Int32)), .val (.ref b258), .unset, .unset, .unset] [(.ref b258)] := k285.aload X285 hx (hb hby at_68) rfl rfl
      obtain ⟨T292, v292, L292, X292, Q292, k292⟩ := k291.virt (y := (⟨"com/example/guarantor/guarantor/lts/IntBlocks", "size", "()I"⟩ : MethodName)) (z := (⟨"com/example/guarantor/guarantor/lts/IntBlocks", "size", "()I"⟩ : MethodName)) (Wd := 0) (cells' := 3) (slots' := 19) (argsL := []) (rest := []) X285 hx hZ hown (by rw [hml]; rfl) (hv 37 rfl) (hv 38 rfl) (notFace_of_selects (args := #[]) (mvT hZ (hv 40 rfl))) (hv 40 rfl) (hv 39 rfl) (hv 41 rfl) (hv 3 rfl) (hb hby at_70) (by decide) (rmz l Z a0 hw [] b258 (3 : Int32) h285 n0 Z285 f289) e285 f287 rfl rfl pd_rm0_3 rfl (Nat.le_of_eq rfl) (by decide) (by decide) rfl rfl (by decide) (by decide)
      obtain ⟨rfl, Nq292, e292q⟩ := Q292
      have N292 := Fr.app N285 Nq292
      have e292 : T292.heap = h285 := e292q
      have k292 : Go p e below m W T292 73 #[.val (.int p1), .val (.int p2), .val (.int p3), .val (.int p4), .val (.int p5), .val (.int p6), .val (.int (3 : Int32)), .val (.int (2 : Int32)), .val (.ref b258), .unset, .unset, .unset] [(.int (3 : Int32))] := k292
      have k293 : Go p e below m W T292 85 #[.val (.int p1), .val (.int p2), .val (.int p3), .val (.int p4), .val (.int p5), .val (.int p6), .val (.int (3 : Int32)), .val (.int (2 : Int32)), .val (.ref b258), .val (.int (1 : Int32)), .unset, .unset] [] := ((((k292.iload X292 hx (hb hby at_73) rfl).icmpNo X292 hx (hb hby at_75) (XT.ii_ne_f (by decide))).iconst X292 hx (hb hby at_78) (v := (1 : Int32)) rfl).goto X292 hx (hb hby at_79) (by decide) (by decide)).istore X292 hx (hb hby at_83) rfl
      have k294 : Go p e below m W T292 97 #[.val (.int p1), .val (.int p2), .val (.int p3), .val (.int p4), .val (.int p5), .val (.int p6), .val (.int (3 : Int32)), .val (.int (2 : Int32)), .val (.ref b258), .val (.int (1 : Int32)), .val (.int p1), .unset] [] := (((k293.iload X292 hx (hb hby at_85) rfl).ifYes X292 hx (hb hby at_87) (XT.i0_ne_t (by decide)) (by decide) (by decide)).iloadN X292 hx (hb hby at_94) rfl).istore X292 hx (hb hby at_95) rfl
      have k295 : Go p e below m W T292 105 #[.val (.int p1), .val (.int p2), .val (.int p3), .val (.int p4), .val (.int p5), .val (.int p6), .val (.int (3 : Int32)), .val (.int (2 : Int32)), .val (.ref b258), .val (.int (1 : Int32)), .val (.int p1), .unset] [(.int (0 : Int32)), (.ref b258)] := (((k294.iload X292 hx (hb hby at_97) rfl).ifNo X292 hx (hb hby at_99) (XT.i0_eq_f (by decide))).aload X292 hx (hb hby at_102) rfl rfl).iconst X292 hx (hb hby at_104) (v := (0 : Int32)) rfl
      obtain ⟨T296, v296, L296, X296, Q296, k296⟩ := k295.virt (y := (⟨"com/example/guarantor/guarantor/lts/IntBlocks", "get", "(I)I"⟩ : MethodName)) (z := (⟨"com/example/guarantor/guarantor/lts/IntBlocks", "get", "(I)I"⟩ : MethodName)) (Wd := 0) (cells' := 3) (slots' := 19) (argsL := [(.int (0 : Int32))]) (rest := []) X292 hx hZ hown (by rw [hml]; rfl) (hv 42 rfl) (hv 43 rfl) (notFace_of_selects (args := #[]) (mvT hZ (hv 45 rfl))) (hv 45 rfl) (hv 44 rfl) (hv 46 rfl) (hv 3 rfl) (hb hby at_105) (by decide) (rmg30 l Z a0 hw [] b258 ob_263 oc_263 ok_263 oq_263 p1 p2 p4 h285 n0 Z285 f287 f289 f290 f288 q285_0) e292 f287 rfl rfl pd_rm0_4 rfl (Nat.le_of_eq rfl) (by decide) (by decide) rfl rfl (by decide) (by decide)
      obtain ⟨rfl, Nq296, e296q⟩ := Q296
      have N296 := Fr.app N292 Nq296
      have e296 : T296.heap = h285 := e296q
      have k296 : Go p e below m W T296 108 #[.val (.int p1), .val (.int p2), .val (.int p3), .val (.int p4), .val (.int p5), .val (.int p6), .val (.int (3 : Int32)), .val (.int (2 : Int32)), .val (.ref b258), .val (.int (1 : Int32)), .val (.int p1), .unset] [(.int p1)] := k296
      have k297 : Go p e below m W T296 120 #[.val (.int p1), .val (.int p2), .val (.int p3), .val (.int p4), .val (.int p5), .val (.int p6), .val (.int (3 : Int32)), .val (.int (2 : Int32)), .val (.ref b258), .val (.int (1 : Int32)), .val (.int p1), .unset] [] := ((((k296.iload X296 hx (hb hby at_108) rfl).icmpNo X296 hx (hb hby at_110) (XT.ii_ne_f rfl)).iconst X296 hx (hb hby at_113) (v := (1 : Int32)) rfl).goto X296 hx (hb hby at_114) (by decide) (by decide)).istore X296 hx (hb hby at_118) rfl
      have k298 : Go p e below m W T296 139 #[.val (.int p1), .val (.int p2), .val (.int p3), .val (.int p4), .val (.int p5), .val (.int p6), .val (.int (3 : Int32)), .val (.int (2 : Int32)), .val (.ref b258), .val (.int (1 : Int32)), .val (.int p1), .val (.int p2)] [] := (((((((k297.iload X296 hx (hb hby at_120) rfl).iconst X296 hx (hb hby at_122) (v := (2 : Int32)) rfl).icmpNo X296 hx (hb hby at_123) (XT.ii_lt_f (by decide))).iload X296 hx (hb hby at_126) rfl).iconst X296 hx (hb hby at_128) (v := (1 : Int32)) rfl).icmpYes X296 hx (hb hby at_129) (XT.ii_ne_t (by decide)) (by decide) (by decide)).iloadN X296 hx (hb hby at_136) rfl).istore X296 hx (hb hby at_137) rfl
      have k299 : Go p e below m W T296 147 #[.val (.int p1), .val (.int p2), .val (.int p3), .val (.int p4), .val (.int p5), .val (.int p6), .val (.int (3 : Int32)), .val (.int (2 : Int32)), .val (.ref b258), .val (.int (1 : Int32)), .val (.int p1), .val (.int p2)] [(.int (1 : Int32)), (.ref b258)] := (((k298.iload X296 hx (hb hby at_139) rfl).ifNo X296 hx (hb hby at_141) (XT.i0_eq_f (by decide))).aload X296 hx (hb hby at_144) rfl rfl).iconst X296 hx (hb hby at_146) (v := (1 : Int32)) rfl
      obtain ⟨T300, v300, L300, X300, Q300, k300⟩ := k299.virt (y := (⟨"com/example/guarantor/guarantor/lts/IntBlocks", "get", "(I)I"⟩ : MethodName)) (z := (⟨"com/example/guarantor/guarantor/lts/IntBlocks", "get", "(I)I"⟩ : MethodName)) (Wd := 0) (cells' := 3) (slots' := 19) (argsL := [(.int (1 : Int32))]) (rest := []) X296 hx hZ hown (by rw [hml]; rfl) (hv 42 rfl) (hv 43 rfl) (notFace_of_selects (args := #[]) (mvT hZ (hv 45 rfl))) (hv 45 rfl) (hv 44 rfl) (hv 46 rfl) (hv 3 rfl) (hb hby at_147) (by decide) (rmg31 l Z a0 hw [] b258 ob_263 oc_263 ok_263 oq_263 p1 p2 p4 h285 n0 Z285 f287 f289 f290 f288 q285_0) e296 f287 rfl rfl pd_rm0_4 rfl (Nat.le_of_eq rfl) (by decide) (by decide) rfl rfl (by decide) (by decide)
      obtain ⟨rfl, Nq300, e300q⟩ := Q300
      have N300 := Fr.app N296 Nq300
      have e300 : T300.heap = h285 := e300q
      have k300 : Go p e below m W T300 150 #[.val (.int p1), .val (.int p2), .val (.int p3), .val (.int p4), .val (.int p5), .val (.int p6), .val (.int (3 : Int32)), .val (.int (2 : Int32)), .val (.ref b258), .val (.int (1 : Int32)), .val (.int p1), .val (.int p2)] [(.int p2)] := k300
      have k301 : Go p e below m W T300 162 #[.val (.int p1), .val (.int p2), .val (.int p3), .val (.int p4), .val (.int p5), .val (.int p6), .val (.int (3 : Int32)), .val (.int (2 : Int32)), .val (.ref b258), .val (.int (1 : Int32)), .val (.int p1), .val (.int p2)] [] := ((((k300.iload X300 hx (hb hby at_150) rfl).icmpNo X300 hx (hb hby at_152) (XT.ii_ne_f rfl)).iconst X300 hx (hb hby at_155) (v := (1 : Int32)) rfl).goto X300 hx (hb hby at_156) (by decide) (by decide)).istore X300 hx (hb hby at_160) rfl
      have k302 : Go p e below m W T300 181 #[.val (.int p1), .val (.int p2), .val (.int p3), .val (.int p4), .val (.int p5), .val (.int p6), .val (.int (3 : Int32)), .val (.int (2 : Int32)), .val (.ref b258), .val (.int (1 : Int32)), .val (.int p1), .val (.int p4)] [] := ((((((((k301.iload X300 hx (hb hby at_162) rfl).iconst X300 hx (hb hby at_164) (v := (3 : Int32)) rfl).icmpNo X300 hx (hb hby at_165) (XT.ii_lt_f (by decide))).iload X300 hx (hb hby at_168) rfl).iconst X300 hx (hb hby at_170) (v := (2 : Int32)) rfl).icmpNo X300 hx (hb hby at_171) (XT.ii_ne_f (by decide))).iloadN X300 hx (hb hby at_174) rfl).goto X300 hx (hb hby at_175) (by decide) (by decide)).istore X300 hx (hb hby at_179) rfl
      have k303 : Go p e below m W T300 189 #[.val (.int p1), .val (.int p2), .val (.int p3), .val (.int p4), .val (.int p5), .val (.int p6), .val (.int (3 : Int32)), .val (.int (2 : Int32)), .val (.ref b258), .val (.int (1 : Int32)), .val (.int p1), .val (.int p4)] [(.int (2 : Int32)), (.ref b258)] := (((k302.iload X300 hx (hb hby at_181) rfl).ifNo X300 hx (hb hby at_183) (XT.i0_eq_f (by decide))).aload X300 hx (hb hby at_186) rfl rfl).iconst X300 hx (hb hby at_188) (v := (2 : Int32)) rfl
      obtain ⟨T304, v304, L304, X304, Q304, k304⟩ := k303.virt (y := (⟨"com/example/guarantor/guarantor/lts/IntBlocks", "get", "(I)I"⟩ : MethodName)) (z := (⟨"com/example/guarantor/guarantor/lts/IntBlocks", "get", "(I)I"⟩ : MethodName)) (Wd := 0) (cells' := 3) (slots' := 19) (argsL := [(.int (2 : Int32))]) (rest := []) X300 hx hZ hown (by rw [hml]; rfl) (hv 42 rfl) (hv 43 rfl) (notFace_of_selects (args := #[]) (mvT hZ (hv 45 rfl))) (hv 45 rfl) (hv 44 rfl) (hv 46 rfl) (hv 3 rfl) (hb hby at_189) (by decide) (rmg32 l Z a0 hw [] b258 ob_263 oc_263 ok_263 oq_263 p1 p2 p4 h285 n0 Z285 f287 f289 f290 f288 q285_0) e300 f287 rfl rfl pd_rm0_4 rfl (Nat.le_of_eq rfl) (by decide) (by decide) rfl rfl (by decide) (by decide)
      obtain ⟨rfl, Nq304, e304q⟩ := Q304
      have N304 := Fr.app N300 Nq304
      have e304 : T304.heap = h285 := e304q
      have k304 : Go p e below m W T304 192 #[.val (.int p1), .val (.int p2), .val (.int p3), .val (.int p4), .val (.int p5), .val (.int p6), .val (.int (3 : Int32)), .val (.int (2 : Int32)), .val (.ref b258), .val (.int (1 : Int32)), .val (.int p1), .val (.int p4)] [(.int p4)] := k304
      have k305 : Go p e below m W T304 204 #[.val (.int p1), .val (.int p2), .val (.int p3), .val (.int p4), .val (.int p5), .val (.int p6), .val (.int (3 : Int32)), .val (.int (2 : Int32)), .val (.ref b258), .val (.int (1 : Int32)), .val (.int p1), .val (.int p4)] [] := ((((k304.iload X304 hx (hb hby at_192) rfl).icmpNo X304 hx (hb hby at_194) (XT.ii_ne_f rfl)).iconst X304 hx (hb hby at_197) (v := (1 : Int32)) rfl).goto X304 hx (hb hby at_198) (by decide) (by decide)).istore X304 hx (hb hby at_202) rfl
      have k306 : Go p e below m W T304 206 #[.val (.int p1), .val (.int p2), .val (.int p3), .val (.int p4), .val (.int p5), .val (.int p6), .val (.int (3 : Int32)), .val (.int (2 : Int32)), .val (.ref b258), .val (.int (1 : Int32)), .val (.int p1), .val (.int p4)] [(.int (1 : Int32))] := k305.iload X304 hx (hb hby at_204) rfl
      exact k306.ireturnN X304 hx (t := .boolean) Bd.returns (by simp) rfl (hb hby at_206) (BodyLoose.notSynchronized Bd) (by rw [e304]; exact ⟨rfl, N304⟩) (by decide) (by decide)

set_option maxRecDepth 65536 in
set_option maxHeartbeats 40000000 in
theorem comes_1 {Post : Tables → Env → Array Value → State → Outcome → State → Prop} (hpost : ∀ tb e args s v u, (limb_1_1.after args s (.returned v) u = true ∧ limb_1_2.after args s (.returned v) u = true ∧ True) → FrameEnd s (.returned v) u (Jvm.fieldLocs frame_1_writes args s ++ Jvm.arrayLocs frame_1_arrays args s ++ Jvm.staticLocs frame_1_statics s) 16 128 → Post tb e args s (.returned v) u) :
    ArmFor flags0 classFile x code maxLocals ret World_1 tables_1 room_1 Calls_1 rest_1 Pre_1 Post := by
  intro l hfl _ _ p e ha hc hk s m args below hf hA hF happ hP
  obtain ⟨hcalls, hrest, hpre⟩ := hP
  obtain ⟨-, -, -, hnamed, -, -, -, hat⟩ := (Spec.applies_iff hf).mp happ
  obtain ⟨hg, hn⟩ := and_e (Cond.before_iff.mp (show (Jvm.Cond.and given_1 narrow_1).before args s = true from hpre))
  obtain ⟨ga, gb⟩ := and_e hg
  obtain ⟨w0, w1, w2, w3, w4, w5, rfl⟩ : ∃ w0 w1 w2 w3 w4 w5 : Value, args = #[w0, w1, w2, w3, w4, w5] := by
    have hs : args.size = 6 := by simpa [Cond.value, given_1] using ga
    obtain ⟨L⟩ := args
    match L, hs with
    | [w0, w1, w2, w3, w4, w5], _ => exact ⟨w0, w1, w2, w3, w4, w5, rfl⟩
  have hw := fun d (hd : d ∈ tables_1) => atoms_spec (ws := Jvm.Cond.code x code maxLocals ret :: tables_1) hat d (List.mem_cons_of_mem _ hd)
  have hv : ∀ (i : Nat) {d : Jvm.Cond}, tables_1[i]? = some d → d.before _ s = true := fun i d q => hw d (List.mem_of_getElem? q)
  have hfit : Fit s := fun {y c} hc i hi => by
    obtain ⟨ha, rfl⟩ := Array.getElem?_eq_some_iff.mp hc
    have q := List.all_eq_true.mp ((Array.all_eq_true_iff_forall_mem.mp hF) _ (Array.getElem_mem ha)) i (List.mem_range.mpr hi)
    simpa [Array.getElem?_eq_getElem hi] using q
  obtain ⟨gi0, gr0⟩ := and_e gb
  obtain ⟨i0, ei0⟩ := is_v gi0
  obtain rfl : w0 = (.int i0) := Option.some.inj ei0
  obtain ⟨gi1, gr1⟩ := and_e gr0
  obtain ⟨i1, ei1⟩ := is_v gi1
  obtain rfl : w1 = (.int i1) := Option.some.inj ei1
  obtain ⟨gi2, gr2⟩ := and_e gr1
  obtain ⟨i2, ei2⟩ := is_v gi2
  obtain rfl : w2 = (.int i2) := Option.some.inj ei2
  obtain ⟨gi3, gr3⟩ := and_e gr2
  obtain ⟨i3, ei3⟩ := is_v gi3
  obtain rfl : w3 = (.int i3) := Option.some.inj ei3
  obtain ⟨gi4, gr4⟩ := and_e gr3
  obtain ⟨i4, ei4⟩ := is_v gi4
  obtain rfl : w4 = (.int i4) := Option.some.inj ei4
  obtain ⟨i5, ei5⟩ := is_v gr4
  obtain rfl : w5 = (.int i5) := Option.some.inj ei5
  have O0 : Old s s.heap.size s.heap := Old.start s
  obtain ⟨n, o, h1, h2, h3, _, L, rfl, ⟨rfl, N⟩, hq⟩ := rm0 l s _ hw tables_1 i0 i1 i2 i3 i4 i5 s.heap s.heap.size (Nat.le_refl _) O0 p e ha hc hk s m _ below hf ((Spec.applies_iff_loose hf).mp happ).1 ⟨rfl, State.Warmed39.refl s, rfl⟩ trivial
  refine ⟨n, _, h1, h2, h3, hpost _ _ _ _ _ _ ⟨Cond.after_iff.mpr rfl, Cond.after_iff.mpr (eq_i res_at (Term.int_eval (1)) rfl), trivial⟩ ⟨hq.1, hq.2.1, (hq.2.2.sift fun y hy => Or.inr (N y hy)).mono (by decide) (by decide)⟩⟩
theorem main_1_1 : Claimed_1_1 := comes_1 fun _ _ _ _ _ _ h hF => ⟨h.1, hF⟩
theorem main_1_2 : Claimed_1_2 := comes_1 fun _ _ _ _ _ _ h hF => ⟨h.2.1, hF⟩
end Jvm.Pilot.@@N@@
namespace Jvm.Pilot.@@N@@
open Jvm Jvm.ClassFile Sem Op Lib Jvm.Free Jvm.Stand Jvm.Pilot.@@N@@.Jvm.D
/-! MADE BY PROGRAM (witnessworld.py) out of the Statement's table words and the real class files: 11 classes; the members and pool entries that the words name. The judged class is class 1, her method 1. -/
namespace start1
open Jvm.ClassFile
def u (s : String) : CpInfo := .utf8 (stringToUtf16 s)
/-- a pool by its gaps: so many unusable entries, then the entry; so many at the end -/
def gap : Nat → List CpInfo → List CpInfo
  | 0, r => r
  | n + 1, r => .unusable :: gap n r
def poolList (es : List (Nat × CpInfo)) (last : Nat) : List CpInfo := es.foldr (fun e r => gap e.1 (e.2 :: r)) (gap last [])
def pool (es : List (Nat × CpInfo)) (last : Nat) : Array CpInfo := ⟨poolList es last⟩
def fileOf (pool : Array CpInfo) (this : Nat) (attrs : Array Attribute := #[]) (ms : Array MethodInfo := #[]) (fl : Nat := 33) (sup : Nat := 0) (ifs : Array Nat := #[]) (fds : Array FieldInfo := #[]) : ClassFile where
  minorVersion := 0
  majorVersion := 65
  constantPool := pool
  accessFlags := fl
  thisClass := this
  superClass := sup
  interfaces := ifs
  fields := fds
  methods := ms
  attributes := attrs
def plain (name : String) (sup : Option ClassId) : Class where
  name := name
  kind := .ordinary
  loader := none
  accessFlags := 33
  super := sup
  interfaces := #[]
  cf := none
  fields := #[]
  methods := #[]
  instanceTypes := #[]
  staticTypes := #[]
  resolved := #[]
  callSites := []
  init := .initialized
  statics := none
  mirror := none

def pool0 : Array CpInfo := pool [(5, u "<init>"), (0, u "()V"), (1, .class_ 10), (1, u "java/lang/Object")] 113

def k0c0 : Code := { maxStack := 0, maxLocals := 1, code := object_method_1_code, exceptionTable := #[], attributes := #[] }
def k0m0 : Method := { name := "<init>", desc := "()V", sig := { parameters := [], returnType := none }, accessFlags := 1, code := some k0c0 }
/-- java/lang/Object -/
def k0 : Class := { plain "java/lang/Object" none with
  accessFlags := 33
  interfaces := #[]
  cf := some (fileOf pool0 8 #[] #[{ accessFlags := 1, nameIndex := 5, descriptorIndex := 6, attributes := #[] }] 33 0 #[] #[])
  fields := #[]
  methods := #[k0m0]
  instanceTypes := #[]
  staticTypes := #[]
  resolved := Array.replicate 124 none
  statics := none }

def pool1 : Array CpInfo := pool [(2, .class_ 4), (0, .nameAndType 5 6), (0, u "java/lang/Object"), (0, u "<init>"), (0, u "()V"), (0, .integer 2147483647), (0, .class_ 9), (0, u "com/example/guarantor/guarantor/lts/IntBlocks"), (0, .methodref 8 3), (0, .methodref 8 12), (0, .nameAndType 13 14), (0, u "add"), (0, u "(I)V"), (0, .methodref 8 16), (0, .nameAndType 17 18), (0, u "set"), (0, u "(II)V"), (0, .methodref 8 20), (0, .nameAndType 21 22), (0, u "size"), (0, u "()I"), (0, .methodref 8 24), (0, .nameAndType 25 26), (0, u "get"), (0, u "(I)I"), (0, .class_ 28), (0, u "com/example/guarantor/guarantor/lts/IntBlocksSetPinLaw"), (2, u "law"), (0, u "(IIIIII)Z")] 3

def k1m0 : Method := { name := "<init>", desc := "()V", sig := { parameters := [], returnType := none }, accessFlags := 1, code := none }
def k1c1 : Code := { maxStack := 3, maxLocals := 12, code := code, exceptionTable := #[], attributes := #[] }
def k1m1 : Method := { name := "law", desc := "(IIIIII)Z", sig := { parameters := [.int, .int, .int, .int, .int, .int], returnType := some .boolean }, accessFlags := 9, code := some k1c1 }
/-- com/example/guarantor/guarantor/lts/IntBlocksSetPinLaw -/
def k1 : Class := { plain "com/example/guarantor/guarantor/lts/IntBlocksSetPinLaw" (some 0) with
  accessFlags := 49
  interfaces := #[]
  cf := some (fileOf pool1 27 #[] #[{ accessFlags := 1, nameIndex := 5, descriptorIndex := 6, attributes := #[] }, { accessFlags := 9, nameIndex := 31, descriptorIndex := 32, attributes := #[] }] 49 2 #[] #[])
  fields := #[]
  methods := #[k1m0, k1m1]
  instanceTypes := #[]
  staticTypes := #[]
  resolved := Array.replicate 36 none
  statics := none }

def pool2 : Array CpInfo := pool [(1, .class_ 2), (0, u "com/example/guarantor/guarantor/lts/IntBlocks"), (0, .methodref 4 5), (0, .class_ 6), (0, .nameAndType 7 8), (0, u "java/lang/Object"), (0, u "<init>"), (0, u "()V"), (0, .class_ 10), (0, u "[I"), (0, .fieldref 1 12), (0, .nameAndType 13 14), (0, u "blocks"), (0, u "[[I"), (3, u "add"), (0, u "(I)V"), (0, .fieldref 1 21), (0, .nameAndType 22 23), (0, u "size"), (0, u "I"), (2, .integer 2147483647), (19, .methodref 47 48), (0, .class_ 49), (0, .nameAndType 50 51), (0, u "java/util/Objects"), (0, u "checkIndex"), (0, u "(II)I"), (2, u "get"), (0, u "(I)I"), (3, u "BLOCK_BITS"), (2, u "BLOCK"), (1, u "AT_BLOCK"), (8, u "set"), (0, u "(II)V"), (0, u "()I")] 19

def k2c0 : Code := { maxStack := 5, maxLocals := 1, code := prog_56_method_1_code, exceptionTable := #[], attributes := #[] }
def k2m0 : Method := { name := "<init>", desc := "()V", sig := { parameters := [], returnType := none }, accessFlags := 0, code := some k2c0 }
def k2c1 : Code := { maxStack := 5, maxLocals := 4, code := prog_56_method_4_code, exceptionTable := #[], attributes := #[] }
def k2m1 : Method := { name := "add", desc := "(I)V", sig := { parameters := [.int], returnType := none }, accessFlags := 0, code := some k2c1 }
def k2c2 : Code := { maxStack := 3, maxLocals := 2, code := prog_56_method_5_code, exceptionTable := #[], attributes := #[] }
def k2m2 : Method := { name := "get", desc := "(I)I", sig := { parameters := [.int], returnType := some .int }, accessFlags := 0, code := some k2c2 }
def k2c3 : Code := { maxStack := 3, maxLocals := 3, code := prog_56_method_6_code, exceptionTable := #[], attributes := #[] }
def k2m3 : Method := { name := "set", desc := "(II)V", sig := { parameters := [.int, .int], returnType := none }, accessFlags := 0, code := some k2c3 }
def k2c4 : Code := { maxStack := 1, maxLocals := 1, code := prog_56_method_7_code, exceptionTable := #[], attributes := #[] }
def k2m4 : Method := { name := "size", desc := "()I", sig := { parameters := [], returnType := some .int }, accessFlags := 0, code := some k2c4 }
/-- com/example/guarantor/guarantor/lts/IntBlocks -/
def k2 : Class := { plain "com/example/guarantor/guarantor/lts/IntBlocks" (some 0) with
  accessFlags := 48
  interfaces := #[]
  cf := some (fileOf pool2 1 #[] #[{ accessFlags := 0, nameIndex := 7, descriptorIndex := 8, attributes := #[] }, { accessFlags := 0, nameIndex := 18, descriptorIndex := 19, attributes := #[] }, { accessFlags := 0, nameIndex := 54, descriptorIndex := 55, attributes := #[] }, { accessFlags := 0, nameIndex := 73, descriptorIndex := 74, attributes := #[] }, { accessFlags := 0, nameIndex := 22, descriptorIndex := 75, attributes := #[] }] 48 4 #[] #[{ accessFlags := 26, nameIndex := 59, descriptorIndex := 23, attributes := #[] }, { accessFlags := 26, nameIndex := 62, descriptorIndex := 23, attributes := #[] }, { accessFlags := 26, nameIndex := 64, descriptorIndex := 23, attributes := #[] }, { accessFlags := 2, nameIndex := 13, descriptorIndex := 14, attributes := #[] }, { accessFlags := 2, nameIndex := 22, descriptorIndex := 23, attributes := #[] }])
  fields := #[{ name := "BLOCK_BITS", type := .int, accessFlags := 26, slot := 0, constantValue := 0 }, { name := "BLOCK", type := .int, accessFlags := 26, slot := 1, constantValue := 0 }, { name := "AT_BLOCK", type := .int, accessFlags := 26, slot := 2, constantValue := 0 }, { name := "blocks", type := (.array (.array .int)), accessFlags := 2, slot := 0, constantValue := 0 }, { name := "size", type := .int, accessFlags := 2, slot := 1, constantValue := 0 }]
  methods := #[k2m0, k2m1, k2m2, k2m3, k2m4]
  instanceTypes := #[(.array (.array .int)), .int]
  staticTypes := #[.int, .int, .int]
  resolved := Array.replicate 95 none
  statics := none }

def pool3 : Array CpInfo := pool [(2, .class_ 4), (1, u "java/lang/Object"), (0, u "<init>"), (0, u "()V"), (35, .class_ 44), (1, u "java/util/Objects"), (60, .methodref 106 107), (0, .class_ 108), (0, .nameAndType 109 110), (0, u "jdk/internal/util/Preconditions"), (0, u "checkIndex"), (0, u "(IILjava/util/function/BiFunction;)I"), (60, u "(II)I")] 12

def k3m0 : Method := { name := "<init>", desc := "()V", sig := { parameters := [], returnType := none }, accessFlags := 2, code := none }
def k3c1 : Code := { maxStack := 3, maxLocals := 2, code := jdk_31_method_17_code, exceptionTable := #[], attributes := #[] }
def k3m1 : Method := { name := "checkIndex", desc := "(II)I", sig := { parameters := [.int, .int], returnType := some .int }, accessFlags := 9, code := some k3c1 }
/-- java/util/Objects -/
def k3 : Class := { plain "java/util/Objects" (some 0) with
  accessFlags := 49
  interfaces := #[]
  cf := some (fileOf pool3 42 #[] #[{ accessFlags := 2, nameIndex := 5, descriptorIndex := 6, attributes := #[] }, { accessFlags := 9, nameIndex := 109, descriptorIndex := 171, attributes := #[] }] 49 2 #[] #[])
  fields := #[]
  methods := #[k3m0, k3m1]
  instanceTypes := #[]
  staticTypes := #[]
  resolved := Array.replicate 184 none
  statics := none }

def pool4 : Array CpInfo := pool [(2, .class_ 4), (1, u "java/lang/Object"), (0, u "<init>"), (0, u "()V"), (17, .class_ 26), (1, u "jdk/internal/util/Preconditions"), (6, u "checkIndex"), (21, .class_ 56), (0, u "jdk/internal/util/Preconditions$4"), (57, .class_ 115), (0, u "jdk/internal/util/Preconditions$1"), (7, u "SIOOBE_FORMATTER"), (0, u "Ljava/util/function/BiFunction;"), (0, .class_ 126), (0, u "jdk/internal/util/Preconditions$2"), (3, u "AIOOBE_FORMATTER"), (0, .class_ 132), (0, u "jdk/internal/util/Preconditions$3"), (3, u "IOOBE_FORMATTER"), (41, u "(IILjava/util/function/BiFunction;)I")] 15

def k4m0 : Method := { name := "<init>", desc := "()V", sig := { parameters := [], returnType := none }, accessFlags := 1, code := none }
def k4c1 : Code := { maxStack := 3, maxLocals := 3, code := jdk_41_method_11_code, exceptionTable := #[], attributes := #[] }
def k4m1 : Method := { name := "checkIndex", desc := "(IILjava/util/function/BiFunction;)I", sig := { parameters := [.int, .int, (.object "java/util/function/BiFunction")], returnType := some .int }, accessFlags := 9, code := some k4c1 }
/-- jdk/internal/util/Preconditions -/
def k4 : Class := { plain "jdk/internal/util/Preconditions" (some 0) with
  accessFlags := 33
  interfaces := #[]
  cf := some (fileOf pool4 24 #[.nestMembers #[55, 131, 125, 114]] #[{ accessFlags := 1, nameIndex := 5, descriptorIndex := 6, attributes := #[] }, { accessFlags := 9, nameIndex := 33, descriptorIndex := 178, attributes := #[] }] 33 2 #[] #[{ accessFlags := 25, nameIndex := 123, descriptorIndex := 124, attributes := #[] }, { accessFlags := 25, nameIndex := 130, descriptorIndex := 124, attributes := #[] }, { accessFlags := 25, nameIndex := 136, descriptorIndex := 124, attributes := #[] }])
  fields := #[{ name := "SIOOBE_FORMATTER", type := (.object "java/util/function/BiFunction"), accessFlags := 25, slot := 0, constantValue := 0 }, { name := "AIOOBE_FORMATTER", type := (.object "java/util/function/BiFunction"), accessFlags := 25, slot := 1, constantValue := 0 }, { name := "IOOBE_FORMATTER", type := (.object "java/util/function/BiFunction"), accessFlags := 25, slot := 2, constantValue := 0 }]
  methods := #[k4m0, k4m1]
  instanceTypes := #[]
  staticTypes := #[(.object "java/util/function/BiFunction"), (.object "java/util/function/BiFunction"), (.object "java/util/function/BiFunction")]
  resolved := Array.replicate 194 none
  statics := none }

def pool5 : Array CpInfo := pool [(1, u "java/lang/Cloneable"), (0, .class_ 1), (0, u "java/lang/Object"), (0, .class_ 3)] 3

/-- java/lang/Cloneable -/
def k5 : Class := { plain "java/lang/Cloneable" (some 0) with
  accessFlags := 1537
  interfaces := #[]
  cf := some (fileOf pool5 2 #[] #[] 1537 4 #[] #[])
  fields := #[]
  methods := #[]
  instanceTypes := #[]
  staticTypes := #[]
  resolved := Array.replicate 8 none
  statics := none }

def pool6 : Array CpInfo := pool [(1, u "java/io/Serializable"), (0, .class_ 1), (0, u "java/lang/Object"), (0, .class_ 3)] 3

/-- java/io/Serializable -/
def k6 : Class := { plain "java/io/Serializable" (some 0) with
  accessFlags := 1537
  interfaces := #[]
  cf := some (fileOf pool6 2 #[] #[] 1537 4 #[] #[])
  fields := #[]
  methods := #[]
  instanceTypes := #[]
  staticTypes := #[]
  resolved := Array.replicate 8 none
  statics := none }

/-- the primitive byte -/
def k7 : Class := { plain "byte" none with kind := .primitive 'B', accessFlags := 0x411 }
/-- [B -/
def k8 : Class := { plain "[B" (some 0) with kind := .array 7 .byte, interfaces := #[5, 6], accessFlags := 1041 }

/-- the primitive int -/
def k9 : Class := { plain "int" none with kind := .primitive 'I', accessFlags := 0x411 }
/-- [I -/
def k10 : Class := { plain "[I" (some 0) with kind := .array 9 .int, interfaces := #[5, 6], accessFlags := 1041 }

def heap : Heap := #[]
/-- [[I -/
def k11 : Class := { plain "[[I" (some 0) with kind := .array 10 (.array .int), interfaces := #[5, 6], accessFlags := 1041 }
def classes : Array Class := #[k0, k1, k2, k3, k4, k5, k6, k7, k8, k9, k10, k11]
def interned : List (Array UInt16 × Addr) := []
def slotsUsed : Nat := 0
def theMethod : MethodId := ⟨1, 1⟩
def args0 : Array Value := #[.int 5, .int 1, .int 2, .int 3, .int 4, .int 6]
def aboutOver (below : List Frame) : State where
  vm := { classes := classes, interned := interned.toArray }
  heap := heap
  slotsUsed := slotsUsed
  threads := #[{ frames := .invoking theMethod args0 :: below }]
def below0 : List Frame := [.native { method := ⟨0, 0⟩, args := #[] }]
def about1 : State := aboutOver below0
def p0 : Program := .bare "" "" ""
def e0 : Env := launch0.env 0 0 0
theorem w_frames : about1.frames = Frame.invoking theMethod args0 :: below0 := rfl
set_option maxRecDepth 65536 in
theorem w_args : argsFit about1.vm theMethod args0 = true := by decide +kernel
set_option maxRecDepth 65536 in
theorem w_heap : heapFits about1 = true := by decide +kernel
set_option maxRecDepth 65536 in
theorem w_runnable : about1.curStatus? = some .runnable := by decide +kernel
set_option maxRecDepth 65536 in
theorem w_alone : about1.alone = true := by decide +kernel
set_option maxRecDepth 65536 in
theorem w_named : about1.methodNamed? x = some theMethod := by decide +kernel
set_option maxRecDepth 65536 in
theorem w_hears : about1.hears theMethod below0 = true := by decide +kernel
set_option maxRecDepth 65536 in
theorem w_ripe : about1.ripe theMethod args0 below0 = true := by decide +kernel
theorem w_running : about1.status = .running := rfl
set_option maxRecDepth 65536 in
theorem w_room : about1.hasRoom e0.platform room_1 = true :=
  launch0.hasRoom_least _ room_1 (by decide +kernel) (by decide +kernel) (by decide +kernel) (by decide +kernel) (by decide +kernel) (by decide +kernel)
theorem allAtoms_all (ts : List Jvm.Cond) (a : Array Jvm.Value) (st : Jvm.State) : (allAtoms ts).before a st = ts.all (fun c => c.before a st) := by
  induction ts with
  | nil => rfl
  | cons c t ih =>
    show (Jvm.Cond.and c (allAtoms t)).before a st = _
    rw [Jvm.Cond.before_and, ih, List.all_cons]
def words1 : List Jvm.Cond := Jvm.Cond.code x code maxLocals ret :: tables_1
/-- a 'code' word, met by the world's own term for the bytes: nothing is compared byte by byte -/
theorem code_word {y : MethodName} {bytes : ByteArray} {mx : Nat} {rt : Option FieldType} {a : Array Value} {s : State} {m : MethodId} {meth : Method} {c : Code} (h1 : s.methodNamed? y = some m) (h2 : s.vm.method? m = some meth) (h3 : meth.code = some c) (h4 : c.code = bytes)
    (h5 : (c.maxLocals == mx && c.exceptionTable.isEmpty && decide (c.maxStack ≤ mostOperands) && decide (meth.sig.returnType = rt) && !meth.locks && decide (parseMethodDescriptor y.desc = some meth.sig)) = true) : (Jvm.Cond.code y bytes mx rt).before a s = true := by
  simp only [Bool.and_eq_true, beq_iff_eq, Bool.not_eq_true', decide_eq_true_eq] at h5
  obtain ⟨⟨⟨⟨⟨g1, g2⟩, g3⟩, g4⟩, g5⟩, g6⟩ := h5
  simp [Cond.before, Cond.holds, Cond.value, h1, h2, h3, h4, g1, g2, g3, g4, g5, g6]
def isCode : Jvm.Cond → Bool
  | .code _ _ _ _ => true
  | _ => false
theorem all_split {L : List Jvm.Cond} {P : Jvm.Cond → Bool} (h1 : L.all (fun c => isCode c || P c) = true) (h2 : ∀ c ∈ L.filter isCode, P c = true) : L.all P = true := by
  refine List.all_eq_true.mpr fun c hc => ?_
  have h := List.all_eq_true.mp h1 c hc
  rcases Bool.eq_false_or_eq_true (isCode c) with hi | hi
  · exact h2 c (List.mem_filter.mpr ⟨hc, hi⟩)
  · simpa [hi] using h
set_option maxRecDepth 65536 in
theorem w_c0 : (Jvm.Cond.code x code maxLocals ret).before args0 about1 = true := code_word (m := ⟨1, 1⟩) (meth := k1m1) (c := k1c1) (by decide +kernel) rfl rfl rfl (by decide +kernel)
set_option maxRecDepth 65536 in
theorem w_c1 : (Jvm.Cond.code ({ cls := "com/example/guarantor/guarantor/lts/IntBlocks", name := "<init>", desc := "()V" } : Jvm.MethodName) prog_56_method_1_code (1 : Nat) (Option.none : Option Jvm.ClassFile.FieldType)).before args0 about1 = true := code_word (m := ⟨2, 0⟩) (meth := k2m0) (c := k2c0) (by decide +kernel) rfl rfl rfl (by decide +kernel)
set_option maxRecDepth 65536 in
theorem w_c2 : (Jvm.Cond.code ({ cls := "java/lang/Object", name := "<init>", desc := "()V" } : Jvm.MethodName) object_method_1_code (1 : Nat) (Option.none : Option Jvm.ClassFile.FieldType)).before args0 about1 = true := code_word (m := ⟨0, 0⟩) (meth := k0m0) (c := k0c0) (by decide +kernel) rfl rfl rfl (by decide +kernel)
set_option maxRecDepth 65536 in
theorem w_c3 : (Jvm.Cond.code ({ cls := "com/example/guarantor/guarantor/lts/IntBlocks", name := "add", desc := "(I)V" } : Jvm.MethodName) prog_56_method_4_code (4 : Nat) (Option.none : Option Jvm.ClassFile.FieldType)).before args0 about1 = true := code_word (m := ⟨2, 1⟩) (meth := k2m1) (c := k2c1) (by decide +kernel) rfl rfl rfl (by decide +kernel)
set_option maxRecDepth 65536 in
theorem w_c4 : (Jvm.Cond.code ({ cls := "com/example/guarantor/guarantor/lts/IntBlocks", name := "set", desc := "(II)V" } : Jvm.MethodName) prog_56_method_6_code (3 : Nat) (Option.none : Option Jvm.ClassFile.FieldType)).before args0 about1 = true := code_word (m := ⟨2, 3⟩) (meth := k2m3) (c := k2c3) (by decide +kernel) rfl rfl rfl (by decide +kernel)
set_option maxRecDepth 65536 in
theorem w_c5 : (Jvm.Cond.code ({ cls := "java/util/Objects", name := "checkIndex", desc := "(II)I" } : Jvm.MethodName) jdk_31_method_17_code (2 : Nat) (Option.some Jvm.ClassFile.FieldType.int)).before args0 about1 = true := code_word (m := ⟨3, 1⟩) (meth := k3m1) (c := k3c1) (by decide +kernel) rfl rfl rfl (by decide +kernel)
set_option maxRecDepth 65536 in
theorem w_c6 : (Jvm.Cond.code ({ cls := "jdk/internal/util/Preconditions", name := "checkIndex", desc := "(IILjava/util/function/BiFunction;)I" } : Jvm.MethodName) jdk_41_method_11_code (3 : Nat) (Option.some Jvm.ClassFile.FieldType.int)).before args0 about1 = true := code_word (m := ⟨4, 1⟩) (meth := k4m1) (c := k4c1) (by decide +kernel) rfl rfl rfl (by decide +kernel)
set_option maxRecDepth 65536 in
theorem w_c7 : (Jvm.Cond.code ({ cls := "com/example/guarantor/guarantor/lts/IntBlocks", name := "size", desc := "()I" } : Jvm.MethodName) prog_56_method_7_code (1 : Nat) (Option.some Jvm.ClassFile.FieldType.int)).before args0 about1 = true := code_word (m := ⟨2, 4⟩) (meth := k2m4) (c := k2c4) (by decide +kernel) rfl rfl rfl (by decide +kernel)
set_option maxRecDepth 65536 in
theorem w_c8 : (Jvm.Cond.code ({ cls := "com/example/guarantor/guarantor/lts/IntBlocks", name := "get", desc := "(I)I" } : Jvm.MethodName) prog_56_method_5_code (2 : Nat) (Option.some Jvm.ClassFile.FieldType.int)).before args0 about1 = true := code_word (m := ⟨2, 2⟩) (meth := k2m2) (c := k2c2) (by decide +kernel) rfl rfl rfl (by decide +kernel)
def codes1 : List Jvm.Cond := [Jvm.Cond.code x code maxLocals ret, Jvm.Cond.code ({ cls := "com/example/guarantor/guarantor/lts/IntBlocks", name := "<init>", desc := "()V" } : Jvm.MethodName) prog_56_method_1_code (1 : Nat) (Option.none : Option Jvm.ClassFile.FieldType), Jvm.Cond.code ({ cls := "java/lang/Object", name := "<init>", desc := "()V" } : Jvm.MethodName) object_method_1_code (1 : Nat) (Option.none : Option Jvm.ClassFile.FieldType), Jvm.Cond.code ({ cls := "com/example/guarantor/guarantor/lts/IntBlocks", name := "add", desc := "(I)V" } : Jvm.MethodName) prog_56_method_4_code (4 : Nat) (Option.none : Option Jvm.ClassFile.FieldType), Jvm.Cond.code ({ cls := "com/example/guarantor/guarantor/lts/IntBlocks", name := "set", desc := "(II)V" } : Jvm.MethodName) prog_56_method_6_code (3 : Nat) (Option.none : Option Jvm.ClassFile.FieldType), Jvm.Cond.code ({ cls := "java/util/Objects", name := "checkIndex", desc := "(II)I" } : Jvm.MethodName) jdk_31_method_17_code (2 : Nat) (Option.some Jvm.ClassFile.FieldType.int), Jvm.Cond.code ({ cls := "jdk/internal/util/Preconditions", name := "checkIndex", desc := "(IILjava/util/function/BiFunction;)I" } : Jvm.MethodName) jdk_41_method_11_code (3 : Nat) (Option.some Jvm.ClassFile.FieldType.int), Jvm.Cond.code ({ cls := "com/example/guarantor/guarantor/lts/IntBlocks", name := "size", desc := "()I" } : Jvm.MethodName) prog_56_method_7_code (1 : Nat) (Option.some Jvm.ClassFile.FieldType.int), Jvm.Cond.code ({ cls := "com/example/guarantor/guarantor/lts/IntBlocks", name := "get", desc := "(I)I" } : Jvm.MethodName) prog_56_method_5_code (2 : Nat) (Option.some Jvm.ClassFile.FieldType.int)]
set_option maxRecDepth 65536 in
theorem codes_eq : words1.filter isCode = codes1 := rfl
theorem w_codes : ∀ c ∈ words1.filter isCode, c.before args0 about1 = true := by
  rw [codes_eq]
  intro c hc
  simp only [codes1, List.mem_cons, List.not_mem_nil, or_false] at hc
  rcases hc with rfl | rfl | rfl | rfl | rfl | rfl | rfl | rfl | rfl
  · exact w_c0
  · exact w_c1
  · exact w_c2
  · exact w_c3
  · exact w_c4
  · exact w_c5
  · exact w_c6
  · exact w_c7
  · exact w_c8
set_option maxRecDepth 65536 in
theorem w_t1 : (words1.take 24).all (fun c => isCode c || c.before args0 about1) = true := by decide +kernel
set_option maxRecDepth 65536 in
theorem w_t2 : (words1.drop 24).all (fun c => isCode c || c.before args0 about1) = true := by decide +kernel
theorem w_tables : (allAtoms (Jvm.Cond.code x code maxLocals ret :: tables_1)).before args0 about1 = true := by
  rw [allAtoms_all]
  show words1.all (fun c => c.before args0 about1) = true
  refine all_split ?_ w_codes
  rw [← List.take_append_drop 24 words1, List.all_append, w_t1, w_t2]
  rfl
set_option maxRecDepth 65536 in
theorem w_case : (Jvm.Cond.and given_1 narrow_1).before args0 about1 = true := by decide +kernel
theorem w_applies : (headSpec (Jvm.Cond.code x code maxLocals ret :: tables_1) room_1).applies x e0.platform about1 = true :=
  (Spec.applies_iff w_frames).mpr ⟨w_running, w_runnable, w_alone, w_named, w_hears, w_ripe, w_room, w_tables⟩
theorem atStart : AtStart classFile x code maxLocals ret World_1 tables_1 room_1 Calls_1 rest_1 Pre_1 launch0 p0 e0 about1 theMethod args0 below0 :=
  ⟨lists_1, trivial, launch0.admits_env _ _ _, launch0.least_env, fairChoices_fair.cas, fairChoices_fair.clock, w_frames, w_args, w_heap, w_applies, trivial, trivial, w_case⟩
end start1
theorem witness_1 : WitnessClaimed_1 := ⟨start1.p0, start1.e0, start1.about1, start1.theMethod, start1.args0, start1.below0, start1.atStart⟩
end Jvm.Pilot.@@N@@
