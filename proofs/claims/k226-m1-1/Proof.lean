import JvmDerived
import JvmDerived.Pilot.@@N@@Statement
import JvmDerived.Pilot.@@N@@Code
set_option linter.unusedVariables false
set_option linter.unusedSimpArgs false
namespace Jvm.RoadKit
open Sem ClassFile Op Lib Jvm.Stand Jvm.Free Jvm.LawKit
section New
variable {p : Program} {l : Launch} {e : Env} {R : Room} {s : State} {m : MethodId} {args : Array Value} {below : List Frame} {meth : Method} {c : Code} {T : State} {locs : List Loc} {cells slots : Nat}
theorem retI (X : Stand p l e R s m args below meth c T locs cells slots) (hx : p.tables.exec = Jvm.exec) {pc : Nat} {Ls : Array Slot} {z : Int32} {rest : List Value} (hret : meth.sig.returnType = some .int) (hd : decode c.code pc = .ok (.ireturn, 1)) {fs : List Frame}
    (hl : ∀ (f : JFrame) (acts : List Action), f.method = m → f.locked = none → f.entered = [] → (doReturn e (T.setTop f) acts (some (.int z))).1 = T.setFrames fs) : Steps p.tables e below (T.setTop (mkF m pc Ls (.int z :: rest))) (T.setFrames fs) := by
  have hm' : T.vm.method? m = some meth := X.method'
  have hn : narrow .int (.int z) = .int z := rfl
  show Steps p.tables e below (T.setTop { method := m, pc := pc, locals := Ls, stack := _ :: rest, locked := none }) _
  jvm_step X.here [X.here.top, hx, hd, hm', hret, hn]
  first | (intro acts; rw [hl _ acts rfl rfl rfl]) | rw [hl _ _ rfl rfl rfl]
  exact Steps.refl _
end New
end Jvm.RoadKit
namespace Jvm.Pilot.@@N@@
open Jvm Jvm.ClassFile Sem Op Lib Jvm.Free Jvm.Stand Jvm.LawKit Jvm.RoadKit Bundle Jvm.Pilot.@@N@@.Jvm.D
section OwnKit
variable {p : Program} {l : Launch} {e : Env} {R : Room} {s : State} {m : MethodId} {args : Array Value} {below : List Frame} {meth : Method} {c : Code} {T W : State} {locs : List Loc} {cells slots : Nat} {Z : State} {a0 : Array Value} {h : Heap} {pc : Nat} {L : Array Slot} {S : List Value}
def Go (p : Program) (e : Env) (below : List Frame) (m : MethodId) (W T : State) (pc : Nat) (L : Array Slot) (S : List Value) : Prop := ∀ t, Steps p.tables e below (T.setTop (mkF m pc L S)) t → Steps p.tables e below W t
theorem Go.iloadN {n : Fin 4} {v : Int32} (k : Go p e below m W T pc L S) (X : Stand p l e R s m args below meth c T locs cells slots) (hx : p.tables.exec = Jvm.exec) (hd : decode c.code pc = .ok (.iload_n n, 1)) (hl : L[n.val]? = some (.val (.int v))) : Go p e below m W T (pc + 1) L (.int v :: S) := fun t kt => k t (Jvm.Free.XS.iloadN X.here hx rfl hd hl kt)
theorem Go.iload {n : Nat} {v : Int32} (k : Go p e below m W T pc L S) (X : Stand p l e R s m args below meth c T locs cells slots) (hx : p.tables.exec = Jvm.exec) (hd : decode c.code pc = .ok (.iload n, 2)) (hl : L[n]? = some (.val (.int v))) : Go p e below m W T (pc + 2) L (.int v :: S) := fun t kt => k t (Jvm.Free.XS.iload X.here hx rfl hd hl kt)
theorem Go.lloadN {n : Fin 4} {v : Int64} (k : Go p e below m W T pc L S) (X : Stand p l e R s m args below meth c T locs cells slots) (hx : p.tables.exec = Jvm.exec) (hd : decode c.code pc = .ok (.lload_n n, 1)) (hl : L[n.val]? = some (.val (.long v))) : Go p e below m W T (pc + 1) L (.long v :: S) := fun t kt => k t (Jvm.Free.XT.lloadN X.here hx rfl hd hl kt)
theorem Go.lload {n : Nat} {v : Int64} (k : Go p e below m W T pc L S) (X : Stand p l e R s m args below meth c T locs cells slots) (hx : p.tables.exec = Jvm.exec) (hd : decode c.code pc = .ok (.lload n, 2)) (hl : L[n]? = some (.val (.long v))) : Go p e below m W T (pc + 2) L (.long v :: S) := fun t kt => k t (Jvm.Free.XT.lload X.here hx rfl hd hl kt)
theorem Go.aloadN {n : Fin 4} {v : Value} (k : Go p e below m W T pc L S) (X : Stand p l e R s m args below meth c T locs cells slots) (hx : p.tables.exec = Jvm.exec) (hd : decode c.code pc = .ok (.aload_n n, 1)) (hl : L[n.val]? = some (.val v)) (hv : v.isRef = true) : Go p e below m W T (pc + 1) L (v :: S) := fun t kt => k t (Jvm.Free.XS.aloadN X.here hx rfl hd hl hv kt)
theorem Go.aload {n : Nat} {v : Value} (k : Go p e below m W T pc L S) (X : Stand p l e R s m args below meth c T locs cells slots) (hx : p.tables.exec = Jvm.exec) (hd : decode c.code pc = .ok (.aload n, 2)) (hl : L[n]? = some (.val v)) (hv : v.isRef = true) : Go p e below m W T (pc + 2) L (v :: S) := fun t kt => k t (Jvm.Free.XS.aload X.here hx rfl hd hl hv kt)
theorem Go.iconst {i : Int} {v : Int32} (k : Go p e below m W T pc L S) (X : Stand p l e R s m args below meth c T locs cells slots) (hx : p.tables.exec = Jvm.exec) (hd : decode c.code pc = .ok (.iconst i, 1)) (hv : Int32.ofInt i = v) : Go p e below m W T (pc + 1) L (.int v :: S) := fun t kt => k t (Jvm.Free.XT.iconstV X.here hx rfl v hd hv kt)
theorem Go.bipush {i : Int} {v : Int32} (k : Go p e below m W T pc L S) (X : Stand p l e R s m args below meth c T locs cells slots) (hx : p.tables.exec = Jvm.exec) (hd : decode c.code pc = .ok (.bipush i, 2)) (hv : (Int8.ofInt i).toInt32 = v) : Go p e below m W T (pc + 2) L (.int v :: S) := fun t kt => k t (Jvm.Free.XT.bipushV X.here hx rfl v hd hv kt)
theorem Go.sipush {i : Int} {v : Int32} (k : Go p e below m W T pc L S) (X : Stand p l e R s m args below meth c T locs cells slots) (hx : p.tables.exec = Jvm.exec) (hd : decode c.code pc = .ok (.sipush i, 3)) (hv : (Int16.ofInt i).toInt32 = v) : Go p e below m W T (pc + 3) L (.int v :: S) := fun t kt => k t (Jvm.Free.XT.sipushV X.here hx rfl v hd hv kt)
theorem Go.lconst {i : Fin 2} {v : Int64} (k : Go p e below m W T pc L S) (X : Stand p l e R s m args below meth c T locs cells slots) (hx : p.tables.exec = Jvm.exec) (hd : decode c.code pc = .ok (.lconst i, 1)) (hv : Int64.ofNat i = v) : Go p e below m W T (pc + 1) L (.long v :: S) := fun t kt => k t (Jvm.Free.XT.lconstV X.here hx rfl v hd hv kt)
theorem Go.aconstNull  (k : Go p e below m W T pc L S) (X : Stand p l e R s m args below meth c T locs cells slots) (hx : p.tables.exec = Jvm.exec) (hd : decode c.code pc = .ok (.aconst_null, 1)) : Go p e below m W T (pc + 1) L (.null :: S) := fun t kt => k t (Jvm.Free.XS.aconstNull X.here hx rfl hd kt)
theorem Go.istoreN {n : Fin 4} {x : Int32} {L' : Array Slot} (k : Go p e below m W T pc L (.int x :: S)) (X : Stand p l e R s m args below meth c T locs cells slots) (hx : p.tables.exec = Jvm.exec) (hd : decode c.code pc = .ok (.istore_n n, 1)) (hl : storeLocals L n.val (.int x) = some L') : Go p e below m W T (pc + 1) L' S := fun t kt => k t (Jvm.Free.XS.istoreN X.here hx rfl hd rfl hl kt)
theorem Go.istore {n : Nat} {x : Int32} {L' : Array Slot} (k : Go p e below m W T pc L (.int x :: S)) (X : Stand p l e R s m args below meth c T locs cells slots) (hx : p.tables.exec = Jvm.exec) (hd : decode c.code pc = .ok (.istore n, 2)) (hl : storeLocals L n (.int x) = some L') : Go p e below m W T (pc + 2) L' S := fun t kt => k t (Jvm.Free.XS.istore X.here hx rfl hd rfl hl kt)
theorem Go.lstoreN {n : Fin 4} {x : Int64} {L' : Array Slot} (k : Go p e below m W T pc L (.long x :: S)) (X : Stand p l e R s m args below meth c T locs cells slots) (hx : p.tables.exec = Jvm.exec) (hd : decode c.code pc = .ok (.lstore_n n, 1)) (hl : storeLocals L n.val (.long x) = some L') : Go p e below m W T (pc + 1) L' S := fun t kt => k t (Jvm.Free.XT.lstoreN X.here hx rfl hd rfl hl kt)
theorem Go.lstore {n : Nat} {x : Int64} {L' : Array Slot} (k : Go p e below m W T pc L (.long x :: S)) (X : Stand p l e R s m args below meth c T locs cells slots) (hx : p.tables.exec = Jvm.exec) (hd : decode c.code pc = .ok (.lstore n, 2)) (hl : storeLocals L n (.long x) = some L') : Go p e below m W T (pc + 2) L' S := fun t kt => k t (Jvm.Free.XT.lstore X.here hx rfl hd rfl hl kt)
theorem Go.astoreN {n : Fin 4} {x : Value} {L' : Array Slot} (k : Go p e below m W T pc L (x :: S)) (X : Stand p l e R s m args below meth c T locs cells slots) (hx : p.tables.exec = Jvm.exec) (hd : decode c.code pc = .ok (.astore_n n, 1)) (hv : x.isRef = true) (hl : storeLocals L n.val x = some L') : Go p e below m W T (pc + 1) L' S := fun t kt => k t (Jvm.Free.XS.astoreN X.here hx rfl hd rfl hv hl kt)
theorem Go.astore {n : Nat} {x : Value} {L' : Array Slot} (k : Go p e below m W T pc L (x :: S)) (X : Stand p l e R s m args below meth c T locs cells slots) (hx : p.tables.exec = Jvm.exec) (hd : decode c.code pc = .ok (.astore n, 2)) (hv : x.isRef = true) (hl : storeLocals L n x = some L') : Go p e below m W T (pc + 2) L' S := fun t kt => k t (Jvm.Free.XS.astore X.here hx rfl hd rfl hv hl kt)
theorem Go.iinc {n : Nat} {i : Int} {x v : Int32} {L' : Array Slot} (k : Go p e below m W T pc L S) (X : Stand p l e R s m args below meth c T locs cells slots) (hx : p.tables.exec = Jvm.exec) (hd : decode c.code pc = .ok (.iinc n i, 3)) (hv : Int32.ofInt i = v) (hl : L[n]? = some (.val (.int x))) (hl' : storeLocals L n (.int (x + v)) = some L') : Go p e below m W T (pc + 3) L' S := fun t kt => k t (Jvm.Free.XT.iincV X.here hx rfl v hd hv hl hl' kt)
theorem Go.iadd {x y : Int32} (k : Go p e below m W T pc L (.int y :: .int x :: S)) (X : Stand p l e R s m args below meth c T locs cells slots) (hx : p.tables.exec = Jvm.exec) (hd : decode c.code pc = .ok (.iadd, 1)) : Go p e below m W T (pc + 1) L (.int (x + y) :: S) := fun t kt => k t (Jvm.Free.XS.iadd X.here hx rfl hd rfl kt)
theorem Go.isub {x y : Int32} (k : Go p e below m W T pc L (.int y :: .int x :: S)) (X : Stand p l e R s m args below meth c T locs cells slots) (hx : p.tables.exec = Jvm.exec) (hd : decode c.code pc = .ok (.isub, 1)) : Go p e below m W T (pc + 1) L (.int (x - y) :: S) := fun t kt => k t (Jvm.Free.XS.isub X.here hx rfl hd rfl kt)
theorem Go.iand {x y : Int32} (k : Go p e below m W T pc L (.int y :: .int x :: S)) (X : Stand p l e R s m args below meth c T locs cells slots) (hx : p.tables.exec = Jvm.exec) (hd : decode c.code pc = .ok (.iand, 1)) : Go p e below m W T (pc + 1) L (.int (x &&& y) :: S) := fun t kt => k t (Jvm.Free.XS.iand X.here hx rfl hd rfl kt)
theorem Go.imul {x y : Int32} (k : Go p e below m W T pc L (.int y :: .int x :: S)) (X : Stand p l e R s m args below meth c T locs cells slots) (hx : p.tables.exec = Jvm.exec) (hd : decode c.code pc = .ok (.imul, 1)) : Go p e below m W T (pc + 1) L (.int (x * y) :: S) := fun t kt => k t (Jvm.Free.XS.imul X.here hx rfl hd rfl kt)
theorem Go.ixor {x y : Int32} (k : Go p e below m W T pc L (.int y :: .int x :: S)) (X : Stand p l e R s m args below meth c T locs cells slots) (hx : p.tables.exec = Jvm.exec) (hd : decode c.code pc = .ok (.ixor, 1)) : Go p e below m W T (pc + 1) L (.int (x ^^^ y) :: S) := fun t kt => k t (Jvm.Free.XT.ixor X.here hx rfl hd rfl kt)
theorem Go.ior {x y : Int32} (k : Go p e below m W T pc L (.int y :: .int x :: S)) (X : Stand p l e R s m args below meth c T locs cells slots) (hx : p.tables.exec = Jvm.exec) (hd : decode c.code pc = .ok (.ior, 1)) : Go p e below m W T (pc + 1) L (.int (x ||| y) :: S) := fun t kt => k t (Jvm.Free.XT.ior X.here hx rfl hd rfl kt)
theorem Go.ishl {x y : Int32} (k : Go p e below m W T pc L (.int y :: .int x :: S)) (X : Stand p l e R s m args below meth c T locs cells slots) (hx : p.tables.exec = Jvm.exec) (hd : decode c.code pc = .ok (.ishl, 1)) : Go p e below m W T (pc + 1) L (.int (x <<< (y &&& 31)) :: S) := fun t kt => k t (Jvm.Free.XT.ishl X.here hx rfl hd rfl kt)
theorem Go.ishr {x y : Int32} (k : Go p e below m W T pc L (.int y :: .int x :: S)) (X : Stand p l e R s m args below meth c T locs cells slots) (hx : p.tables.exec = Jvm.exec) (hd : decode c.code pc = .ok (.ishr, 1)) : Go p e below m W T (pc + 1) L (.int (x >>> (y &&& 31)) :: S) := fun t kt => k t (Jvm.Free.XT.ishr X.here hx rfl hd rfl kt)
theorem Go.iushr {x y : Int32} (k : Go p e below m W T pc L (.int y :: .int x :: S)) (X : Stand p l e R s m args below meth c T locs cells slots) (hx : p.tables.exec = Jvm.exec) (hd : decode c.code pc = .ok (.iushr, 1)) : Go p e below m W T (pc + 1) L (.int (XT.ushr x y) :: S) := fun t kt => k t (Jvm.Free.XT.iushr X.here hx rfl hd rfl kt)
theorem Go.idiv {x y : Int32} (k : Go p e below m W T pc L (.int y :: .int x :: S)) (X : Stand p l e R s m args below meth c T locs cells slots) (hx : p.tables.exec = Jvm.exec) (hd : decode c.code pc = .ok (.idiv, 1)) (hy : y ≠ 0) : Go p e below m W T (pc + 1) L (.int (x / y) :: S) := fun t kt => k t (Jvm.Free.XS.idiv X.here hx rfl hd rfl hy kt)
theorem Go.irem {x y : Int32} (k : Go p e below m W T pc L (.int y :: .int x :: S)) (X : Stand p l e R s m args below meth c T locs cells slots) (hx : p.tables.exec = Jvm.exec) (hd : decode c.code pc = .ok (.irem, 1)) (hy : y ≠ 0) : Go p e below m W T (pc + 1) L (.int (x % y) :: S) := fun t kt => k t (Jvm.RoadKit.iremM X hx rfl hd rfl hy kt)
theorem Go.ineg {x : Int32} (k : Go p e below m W T pc L (.int x :: S)) (X : Stand p l e R s m args below meth c T locs cells slots) (hx : p.tables.exec = Jvm.exec) (hd : decode c.code pc = .ok (.ineg, 1)) : Go p e below m W T (pc + 1) L (.int (-x) :: S) := fun t kt => k t (Jvm.Free.XS.ineg X.here hx rfl hd rfl kt)
theorem Go.ladd {x y : Int64} (k : Go p e below m W T pc L (.long y :: .long x :: S)) (X : Stand p l e R s m args below meth c T locs cells slots) (hx : p.tables.exec = Jvm.exec) (hd : decode c.code pc = .ok (.ladd, 1)) : Go p e below m W T (pc + 1) L (.long (x + y) :: S) := fun t kt => k t (Jvm.Free.XT.ladd X.here hx rfl hd rfl kt)
theorem Go.lsub {x y : Int64} (k : Go p e below m W T pc L (.long y :: .long x :: S)) (X : Stand p l e R s m args below meth c T locs cells slots) (hx : p.tables.exec = Jvm.exec) (hd : decode c.code pc = .ok (.lsub, 1)) : Go p e below m W T (pc + 1) L (.long (x - y) :: S) := fun t kt => k t (Jvm.Free.XT.lsub X.here hx rfl hd rfl kt)
theorem Go.lmul {x y : Int64} (k : Go p e below m W T pc L (.long y :: .long x :: S)) (X : Stand p l e R s m args below meth c T locs cells slots) (hx : p.tables.exec = Jvm.exec) (hd : decode c.code pc = .ok (.lmul, 1)) : Go p e below m W T (pc + 1) L (.long (x * y) :: S) := fun t kt => k t (Jvm.Free.XT.lmul X.here hx rfl hd rfl kt)
theorem Go.land {x y : Int64} (k : Go p e below m W T pc L (.long y :: .long x :: S)) (X : Stand p l e R s m args below meth c T locs cells slots) (hx : p.tables.exec = Jvm.exec) (hd : decode c.code pc = .ok (.land, 1)) : Go p e below m W T (pc + 1) L (.long (x &&& y) :: S) := fun t kt => k t (Jvm.Free.XT.land X.here hx rfl hd rfl kt)
theorem Go.lor {x y : Int64} (k : Go p e below m W T pc L (.long y :: .long x :: S)) (X : Stand p l e R s m args below meth c T locs cells slots) (hx : p.tables.exec = Jvm.exec) (hd : decode c.code pc = .ok (.lor, 1)) : Go p e below m W T (pc + 1) L (.long (x ||| y) :: S) := fun t kt => k t (Jvm.Free.XT.lor X.here hx rfl hd rfl kt)
theorem Go.lxor {x y : Int64} (k : Go p e below m W T pc L (.long y :: .long x :: S)) (X : Stand p l e R s m args below meth c T locs cells slots) (hx : p.tables.exec = Jvm.exec) (hd : decode c.code pc = .ok (.lxor, 1)) : Go p e below m W T (pc + 1) L (.long (x ^^^ y) :: S) := fun t kt => k t (Jvm.Free.XT.lxor X.here hx rfl hd rfl kt)
theorem Go.lshl {x : Int64} {y : Int32} (k : Go p e below m W T pc L (.int y :: .long x :: S)) (X : Stand p l e R s m args below meth c T locs cells slots) (hx : p.tables.exec = Jvm.exec) (hd : decode c.code pc = .ok (.lshl, 1)) : Go p e below m W T (pc + 1) L (.long (x <<< (y.toInt64 &&& 63)) :: S) := fun t kt => k t (Jvm.Free.XT.lshl X.here hx rfl hd rfl kt)
theorem Go.lshr {x : Int64} {y : Int32} (k : Go p e below m W T pc L (.int y :: .long x :: S)) (X : Stand p l e R s m args below meth c T locs cells slots) (hx : p.tables.exec = Jvm.exec) (hd : decode c.code pc = .ok (.lshr, 1)) : Go p e below m W T (pc + 1) L (.long (x >>> (y.toInt64 &&& 63)) :: S) := fun t kt => k t (Jvm.Free.XT.lshr X.here hx rfl hd rfl kt)
theorem Go.lushr {x : Int64} {y : Int32} (k : Go p e below m W T pc L (.int y :: .long x :: S)) (X : Stand p l e R s m args below meth c T locs cells slots) (hx : p.tables.exec = Jvm.exec) (hd : decode c.code pc = .ok (.lushr, 1)) : Go p e below m W T (pc + 1) L (.long (XT.ushrL x y) :: S) := fun t kt => k t (Jvm.Free.XT.lushr X.here hx rfl hd rfl kt)
theorem Go.i2l {x : Int32} (k : Go p e below m W T pc L (.int x :: S)) (X : Stand p l e R s m args below meth c T locs cells slots) (hx : p.tables.exec = Jvm.exec) (hd : decode c.code pc = .ok (.i2l, 1)) : Go p e below m W T (pc + 1) L (.long x.toInt64 :: S) := fun t kt => k t (Jvm.Free.XT.i2l X.here hx rfl hd rfl kt)
theorem Go.l2i {x : Int64} (k : Go p e below m W T pc L (.long x :: S)) (X : Stand p l e R s m args below meth c T locs cells slots) (hx : p.tables.exec = Jvm.exec) (hd : decode c.code pc = .ok (.l2i, 1)) : Go p e below m W T (pc + 1) L (.int x.toInt32 :: S) := fun t kt => k t (Jvm.Free.XT.l2i X.here hx rfl hd rfl kt)
theorem Go.i2b {x : Int32} (k : Go p e below m W T pc L (.int x :: S)) (X : Stand p l e R s m args below meth c T locs cells slots) (hx : p.tables.exec = Jvm.exec) (hd : decode c.code pc = .ok (.i2b, 1)) : Go p e below m W T (pc + 1) L (.int x.toInt8.toInt32 :: S) := fun t kt => k t (Jvm.Free.XT.i2b X.here hx rfl hd rfl kt)
theorem Go.i2c {x : Int32} (k : Go p e below m W T pc L (.int x :: S)) (X : Stand p l e R s m args below meth c T locs cells slots) (hx : p.tables.exec = Jvm.exec) (hd : decode c.code pc = .ok (.i2c, 1)) : Go p e below m W T (pc + 1) L (.int x.toUInt32.toUInt16.toUInt32.toInt32 :: S) := fun t kt => k t (Jvm.Free.XT.i2c X.here hx rfl hd rfl kt)
theorem Go.lcmp {x y : Int64} (k : Go p e below m W T pc L (.long y :: .long x :: S)) (X : Stand p l e R s m args below meth c T locs cells slots) (hx : p.tables.exec = Jvm.exec) (hd : decode c.code pc = .ok (.lcmp, 1)) : Go p e below m W T (pc + 1) L (.int (XT.cmpL x y) :: S) := fun t kt => k t (Jvm.Free.XT.lcmp X.here hx rfl hd rfl kt)
theorem Go.dup {x : Value} (k : Go p e below m W T pc L (x :: S)) (X : Stand p l e R s m args below meth c T locs cells slots) (hx : p.tables.exec = Jvm.exec) (hd : decode c.code pc = .ok (.dup, 1)) (h1 : x.category = 1) : Go p e below m W T (pc + 1) L (x :: x :: S) := fun t kt => k t (Jvm.Free.XS.dup X.here hx rfl hd rfl h1 kt)
theorem Go.pop {x : Value} (k : Go p e below m W T pc L (x :: S)) (X : Stand p l e R s m args below meth c T locs cells slots) (hx : p.tables.exec = Jvm.exec) (hd : decode c.code pc = .ok (.pop, 1)) (h1 : x.category = 1) : Go p e below m W T (pc + 1) L S := fun t kt => k t (Jvm.Free.XT.pop X.here hx rfl hd rfl h1 kt)
theorem Go.dupX1 {x y : Value} (k : Go p e below m W T pc L (x :: y :: S)) (X : Stand p l e R s m args below meth c T locs cells slots) (hx : p.tables.exec = Jvm.exec) (hd : decode c.code pc = .ok (.dup_x1, 1)) (h1 : x.category = 1) (h2 : y.category = 1) : Go p e below m W T (pc + 1) L (x :: y :: x :: S) := fun t kt => k t (Jvm.Free.XT.dupX1 X.here hx rfl hd rfl h1 h2 kt)
theorem Go.dup2 {x y : Value} (k : Go p e below m W T pc L (x :: y :: S)) (X : Stand p l e R s m args below meth c T locs cells slots) (hx : p.tables.exec = Jvm.exec) (hd : decode c.code pc = .ok (.dup2, 1)) (h1 : x.category = 1) (h2 : y.category = 1) : Go p e below m W T (pc + 1) L (x :: y :: x :: y :: S) := fun t kt => k t (Jvm.Free.XT.dup2 X.here hx rfl hd rfl h1 h2 kt)
theorem Go.goto {o : Int} {pc' : Nat} (k : Go p e below m W T pc L S) (X : Stand p l e R s m args below meth c T locs cells slots) (hx : p.tables.exec = Jvm.exec) (hd : decode c.code pc = .ok (.goto o, 3)) (ho : 0 ≤ (pc : Int) + o) (hp : ((pc : Int) + o).toNat = pc') : Go p e below m W T pc' L S := fun t kt => k t (Jvm.Free.XS.goto X.here hx rfl rfl hd ho hp kt)
theorem Go.ifYes {cd : ClassFile.Cond} {o : Int} {pc' : Nat} {x : Int32} (k : Go p e below m W T pc L (.int x :: S)) (X : Stand p l e R s m args below meth c T locs cells slots) (hx : p.tables.exec = Jvm.exec) (hd : decode c.code pc = .ok (.ifCond cd o, 3)) (hc : ifCond.holds cd x = true) (ho : 0 ≤ (pc : Int) + o) (hp : ((pc : Int) + o).toNat = pc') : Go p e below m W T pc' L S := fun t kt => k t (Jvm.Free.XS.ifYes X.here hx rfl rfl hd rfl hc ho hp kt)
theorem Go.ifNo {cd : ClassFile.Cond} {o : Int} {x : Int32} (k : Go p e below m W T pc L (.int x :: S)) (X : Stand p l e R s m args below meth c T locs cells slots) (hx : p.tables.exec = Jvm.exec) (hd : decode c.code pc = .ok (.ifCond cd o, 3)) (hc : ifCond.holds cd x = false) : Go p e below m W T (pc + 3) L S := fun t kt => k t (Jvm.Free.XS.ifNo X.here hx rfl hd rfl hc kt)
theorem Go.icmpYes {cd : ClassFile.Cond} {o : Int} {pc' : Nat} {x y : Int32} (k : Go p e below m W T pc L (.int y :: .int x :: S)) (X : Stand p l e R s m args below meth c T locs cells slots) (hx : p.tables.exec = Jvm.exec) (hd : decode c.code pc = .ok (.if_icmp cd o, 3)) (hc : if_icmp.holds cd x y = true) (ho : 0 ≤ (pc : Int) + o) (hp : ((pc : Int) + o).toNat = pc') : Go p e below m W T pc' L S := fun t kt => k t (Jvm.Free.XS.icmpYes X.here hx rfl rfl hd rfl hc ho hp kt)
theorem Go.icmpNo {cd : ClassFile.Cond} {o : Int} {x y : Int32} (k : Go p e below m W T pc L (.int y :: .int x :: S)) (X : Stand p l e R s m args below meth c T locs cells slots) (hx : p.tables.exec = Jvm.exec) (hd : decode c.code pc = .ok (.if_icmp cd o, 3)) (hc : if_icmp.holds cd x y = false) : Go p e below m W T (pc + 3) L S := fun t kt => k t (Jvm.Free.XS.icmpNo X.here hx rfl hd rfl hc kt)
theorem Go.nullYes {o : Int} {pc' : Nat} {v : Value} (k : Go p e below m W T pc L (v :: S)) (X : Stand p l e R s m args below meth c T locs cells slots) (hx : p.tables.exec = Jvm.exec) (hd : decode c.code pc = .ok (.ifnull o, 3)) (hv : v = .null) (ho : 0 ≤ (pc : Int) + o) (hp : ((pc : Int) + o).toNat = pc') : Go p e below m W T pc' L S := fun t kt => k t (Jvm.Free.XT.nullYes X.here hx rfl rfl hd rfl hv ho hp kt)
theorem Go.nullNo {o : Int} {v : Value} (k : Go p e below m W T pc L (v :: S)) (X : Stand p l e R s m args below meth c T locs cells slots) (hx : p.tables.exec = Jvm.exec) (hd : decode c.code pc = .ok (.ifnull o, 3)) (hr : v.isRef = true) (hv : ¬ v = .null) : Go p e below m W T (pc + 3) L S := fun t kt => k t (Jvm.Free.XT.nullNo X.here hx rfl hd rfl hr hv kt)
theorem Go.nonnullYes {o : Int} {pc' : Nat} {v : Value} (k : Go p e below m W T pc L (v :: S)) (X : Stand p l e R s m args below meth c T locs cells slots) (hx : p.tables.exec = Jvm.exec) (hd : decode c.code pc = .ok (.ifnonnull o, 3)) (hr : v.isRef = true) (hv : ¬ v = .null) (ho : 0 ≤ (pc : Int) + o) (hp : ((pc : Int) + o).toNat = pc') : Go p e below m W T pc' L S := fun t kt => k t (Jvm.Free.XT.nonnullYes X.here hx rfl rfl hd rfl hr hv ho hp kt)
theorem Go.nonnullNo {o : Int} {v : Value} (k : Go p e below m W T pc L (v :: S)) (X : Stand p l e R s m args below meth c T locs cells slots) (hx : p.tables.exec = Jvm.exec) (hd : decode c.code pc = .ok (.ifnonnull o, 3)) (hv : v = .null) : Go p e below m W T (pc + 3) L S := fun t kt => k t (Jvm.Free.XT.nonnullNo X.here hx rfl hd rfl hv kt)
theorem Go.acmpYes {cd : ClassFile.ACond} {o : Int} {pc' : Nat} {x y : Value} (k : Go p e below m W T pc L (y :: x :: S)) (X : Stand p l e R s m args below meth c T locs cells slots) (hx : p.tables.exec = Jvm.exec) (hd : decode c.code pc = .ok (.if_acmp cd o, 3)) (h1 : x.isRef = true) (h2 : y.isRef = true) (hc : XT.acmp cd x y = true) (ho : 0 ≤ (pc : Int) + o) (hp : ((pc : Int) + o).toNat = pc') : Go p e below m W T pc' L S := fun t kt => k t (Jvm.Free.XT.acmpYes X.here hx rfl rfl hd rfl h1 h2 hc ho hp kt)
theorem Go.acmpNo {cd : ClassFile.ACond} {o : Int} {x y : Value} (k : Go p e below m W T pc L (y :: x :: S)) (X : Stand p l e R s m args below meth c T locs cells slots) (hx : p.tables.exec = Jvm.exec) (hd : decode c.code pc = .ok (.if_acmp cd o, 3)) (h1 : x.isRef = true) (h2 : y.isRef = true) (hc : XT.acmp cd x y = false) : Go p e below m W T (pc + 3) L S := fun t kt => k t (Jvm.Free.XT.acmpNo X.here hx rfl hd rfl h1 h2 hc kt)
theorem Go.tsw {dflt low high : Int} {offs : Array Int} {len : Nat} {o : Int} {pc' : Nat} {i : Int32} (k : Go p e below m W T pc L (.int i :: S)) (X : Stand p l e R s m args below meth c T locs cells slots) (hx : p.tables.exec = Jvm.exec) (hd : decode c.code pc = .ok (.tableswitch dflt low high offs, len)) (hin : ¬ (i.toInt < low ∨ i.toInt > high)) (hoff : offs[(i.toInt - low).toNat]? = some o) (ho : 0 ≤ (pc : Int) + o) (hp : ((pc : Int) + o).toNat = pc') : Go p e below m W T pc' L S := fun t kt => k t (Jvm.Free.XS.tswIn X.here hx rfl rfl hd rfl hin hoff ho hp kt)
theorem Go.ldcI {own : String} {index : Nat} {v : Int32} (k : Go p e below m W T pc L S) (X : Stand p l e R s m args below meth c T locs cells slots) (hx : p.tables.exec = Jvm.exec) (hZ : Z.Warmed39 s.vm) (hown : s.vm.findClass own = some m.cls) (w : (Cond.constant own index v).before a0 Z = true) (hd : decode c.code pc = .ok (.ldc index, 2)) : Go p e below m W T (pc + 2) L (.int v :: S) := fun t kt => k t (Jvm.Stand.ldcI X hx hown (mvT hZ w) rfl hd kt)
theorem Go.ldc2J {own : String} {index : Nat} {v : Int64} (k : Go p e below m W T pc L S) (X : Stand p l e R s m args below meth c T locs cells slots) (hx : p.tables.exec = Jvm.exec) (hZ : Z.Warmed39 s.vm) (hown : s.vm.findClass own = some m.cls) (w : (Cond.constantLong own index v).before a0 Z = true) (hd : decode c.code pc = .ok (.ldc2_w index, 3)) : Go p e below m W T (pc + 3) L (.long v :: S) := fun t kt => k t (Jvm.Stand.ldc2J X hx hown (mvT hZ w) rfl hd kt)
theorem Go.getF {own R0 O n d host : String} {index : Nat} {a : Addr} {v : Value} (k : Go p e below m W T pc L (.ref a :: S)) (X : Stand p l e R s m args below meth c T locs cells slots) (hx : p.tables.exec = Jvm.exec) (hZ : Z.Warmed39 s.vm) (hown : s.vm.findClass own = some m.cls) (w : (Cond.fieldLink own index R0 n d).before a0 Z = true ∨ (Cond.fieldLinkNest own index R0 n d host).before a0 Z = true) (via : Via Z R0 O n d) (eT : T.heap = h) (F : Fld Z h a O n d v) (hd : decode c.code pc = .ok (.getfield index, 3)) :
    ∃ T', Stand p l e R s m args below meth c T' locs cells slots ∧ T'.heap = h ∧ Go p e below m W T' (pc + 3) L (v :: S) := by
  obtain ⟨T', X', e', st⟩ := Jvm.RoadKit.getF X hx hZ hown w via eT F (g := mkF m pc L (.ref a :: S)) rfl rfl hd
  exact ⟨T', X', e', fun t kt => k t (st t kt)⟩
theorem Go.getS {own R0 O n d host : String} {index : Nat} {v : Value} (k : Go p e below m W T pc L S) (X : Stand p l e R s m args below meth c T locs cells slots) (hx : p.tables.exec = Jvm.exec) (hZ : Z.Warmed39 s.vm) (hown : s.vm.findClass own = some m.cls) (w : (Cond.fieldLink own index R0 n d).before a0 Z = true ∨ (Cond.fieldLinkNest own index R0 n d host).before a0 Z = true) (via : Via Z R0 O n d) (eT : T.heap = h) (F : Sta Z h O n d v) (hd : decode c.code pc = .ok (.getstatic index, 3)) :
    ∃ T', Stand p l e R s m args below meth c T' locs cells slots ∧ T'.heap = h ∧ Go p e below m W T' (pc + 3) L (v :: S) := by
  obtain ⟨T', X', e', st⟩ := Jvm.RoadKit.getS2 X hx hZ hown w via eT F (g := mkF m pc L S) rfl hd
  exact ⟨T', X', e', fun t kt => k t (st t kt)⟩
theorem Go.putF {own R0 O n d host C : String} {index kk : Nat} {ty : FieldType} {a : Addr} {v old : Value} (k : Go p e below m W T pc L (v :: .ref a :: S)) (X : Stand p l e R s m args below meth c T locs cells slots) (hx : p.tables.exec = Jvm.exec) (hZ : Z.Warmed39 s.vm) (hown : s.vm.findClass own = some m.cls) (w : (Cond.fieldLink own index R0 n d).before a0 Z = true ∨ (Cond.fieldLinkNest own index R0 n d host).before a0 Z = true) (via : Via Z R0 O n d) (eT : T.heap = h) (F : Fld Z h a O n d old) (E : Exa Z h a C)
    (Ly : (Cond.lays C O n d).before a0 Z = true ∨ ((Cond.laysFinal C O n d).before a0 Z = true ∧ own = O ∧ meth.name = "<init>")) (wi : (Cond.instantiable C kk).before a0 Z = true) (hty : parseFieldDescriptor d = some ty) (hn : narrow ty v = v) (hf : fits ty v = true) {n0 : Nat} (N : Fr n0 locs) (g0 : n0 ≤ a) (hd : decode c.code pc = .ok (.putfield index, 3)) :
    ∃ T' h' locs', Stand p l e R s m args below meth c T' locs' cells slots ∧ T'.heap = h' ∧ Wr h h' a (Jvm.RoadKit.slotOf Z O n d) v ∧ Fr n0 locs' ∧ Go p e below m W T' (pc + 3) L S := by
  obtain ⟨T', h', X', e', W', st⟩ := Jvm.RoadKit.putF X hx hZ hown w via eT F E Ly wi hty hn hf (g := mkF m pc L (v :: .ref a :: S)) rfl rfl hd
  exact ⟨T', h', _, X', e', W', Fr.snoc X' N g0, fun t kt => k t (st t kt)⟩
theorem Go.newO {own C : String} {index n cells' slots' : Nat} (k : Go p e below m W T pc L S) (X : Stand p l e R s m args below meth c T locs cells slots) (hx : p.tables.exec = Jvm.exec) (hZ : Z.Warmed39 s.vm) (hown : s.vm.findClass own = some m.cls) (w : (Cond.classLink own index C).before a0 Z = true) (wi : (Cond.instantiable C n).before a0 Z = true) (wz : (Cond.initialized C).before a0 Z = true) (eT : T.heap = h) (hd : decode c.code pc = .ok (.new index, 3)) (h1 : cells + 1 = cells') (h2 : slots + n = slots') (h3 : cells' ≤ R.cells) (h4 : slots' ≤ R.slots) :
    ∃ T' h' b, Stand p l e R s m args below meth c T' locs cells' slots' ∧ T'.heap = h' ∧ b = h.size ∧ Ext h h' ∧ Exa Z h' b C ∧ (∀ {O nm d : String} {ty : FieldType}, Laid Z a0 C O nm d → parseFieldDescriptor d = some ty → Fld Z h' b O nm d (defaultValue ty)) ∧ Go p e below m W T' (pc + 3) L (.ref b :: S) := by
  subst h1 h2
  obtain ⟨T', h', X', e', E', A', D', -, st⟩ := Jvm.RoadKit.newO X hx hZ hown w wi wz eT (g := mkF m pc L S) rfl hd h3 h4
  exact ⟨T', h', _, X', e', rfl, E', A', D', fun t kt => k t (st t kt)⟩
theorem Go.initO {own : String} {idx Wd : Nat} {a : Addr} (k : Go p e below m W T pc L (.ref a :: S)) (X : Stand p l e R s m args below meth c T locs cells slots) (hx : p.tables.exec = Jvm.exec) (hZ : Z.Warmed39 s.vm) (hown : s.vm.findClass own = some m.cls) (hsz : L.size = c.maxLocals) (w1 : (Cond.methodLink own idx Lib.objectInit).before a0 Z = true) (w2 : (Cond.instanceMethod Lib.objectInit).before a0 Z = true)
    (w3 : (Cond.code Lib.objectInit ⟨#[0xb1]⟩ 1 none).before a0 Z = true) (eT : T.heap = h) (hd : decode c.code pc = .ok (.invokespecial idx, 3)) (hW : (S.map fun v => v.category).sum ≤ Wd) (hf : 1 ≤ R.frames) (hl : Wd + 12 ≤ R.locals) :
    ∃ T', Stand p l e R s m args below meth c T' locs cells slots ∧ T'.heap = h ∧ Go p e below m W T' (pc + 3) L S := by
  obtain ⟨T', X', e', st⟩ := Jvm.RoadKit.initO X hx hZ hown w1 w2 w3 eT (g := mkF m pc L (.ref a :: S)) rfl hsz rfl hd hf (W := Wd) (by show 2 * 0 + _ ≤ _; rw [Nat.mul_zero, Nat.zero_add]; exact hW) hl
  exact ⟨T', X', e', fun t kt => k t (st t kt)⟩
theorem Go.virtB {own C : String} {index : Nat} {y z : MethodName} {Wd cells' slots' : Nat} {b : Addr} {argsL rest : List Value} {Q : Option Value → Heap → List Loc → Prop} {as' : Array Value} {ps : List FieldType} {r : Option FieldType} {rc rs : Nat}
    (k : Go p e below m W T pc L S) (X : Stand p l e R s m args below meth c T locs cells slots) (hx : p.tables.exec = Jvm.exec) (hZ : Z.Warmed39 s.vm) (hown : s.vm.findClass own = some m.cls) (hsz : L.size = c.maxLocals)
    (w1 : (Cond.methodLink own index y).before a0 Z = true) (w2 : (Cond.declares y).before a0 Z = true) (hnf : NotFace s y) (w3 : (Cond.selects C y z).before a0 Z = true) (w4 : (Cond.instanceMethod z).before a0 Z = true) (hd : decode c.code pc = .ok (.invokevirtual index, 3)) (hy : y.cls ≠ "java/lang/invoke/MethodHandle" ∧ y.cls ≠ "java/lang/invoke/VarHandle")
    (hK : Back l R p e below s args z 3 Wd (fun A a => a = as' ∧ A.U.heap = h ∧ A.cells + rc ≤ R.cells ∧ A.slots + rs ≤ R.slots) (fun A _ v B => ∃ L, Q v B.U.heap L ∧ B.locs = A.locs ++ L ∧ B.cells = A.cells + rc ∧ B.slots = A.slots + rs))
    (eT : T.heap = h) (E : Exa Z h b C) (hs : S = argsL.reverse ++ .ref b :: rest) (ha : (.ref b :: argsL).toArray = as') (hp : parseMethodDescriptor y.desc = some ⟨ps, r⟩) (hlen : argsL.length = ps.length) (hW : (rest.map fun v => v.category).sum ≤ Wd) (h1 : cells + rc = cells') (h2 : slots + rs = slots') (h3 : cells' ≤ R.cells) (h4 : slots' ≤ R.slots) :
    ∃ T' v L', Stand p l e R s m args below meth c T' (locs ++ L') cells' slots' ∧ Q v T'.heap L' ∧ Go p e below m W T' (pc + 3) L (v.toList ++ rest) := by
  subst hs h1 h2
  obtain ⟨cq, kq, qa, qb, qc⟩ := isOf hZ eT E
  obtain ⟨v, _, ⟨T', L', k', n'⟩, -, X', ⟨Lc, hQ, l1, y1, z1⟩, st⟩ := X.virtualBack hx (y := y) (z := z) hown (mvT hZ w1) (mvT hZ w2) hnf (mvT hZ w3) (mvT hZ w4) hy hK qa qc (g := mkF m pc L (argsL.reverse ++ .ref b :: rest)) rfl hsz (Steps.refl _) (argsL := argsL) (rest := rest) (lenOf hp hlen) rfl (by show 2 * 0 + _ ≤ _; rw [Nat.mul_zero, Nat.zero_add]; exact hW) hd (fun _ _ => ⟨ha, eT, h3, h4⟩)
  dsimp only [Pt.U, Pt.locs, Pt.cells, Pt.slots] at X' l1 y1 z1 st hQ
  subst l1 y1 z1
  exact ⟨T', v, Lc, X', hQ, fun t kt => k t (st.trans kt)⟩
theorem Go.virt {own C : String} {index : Nat} {y z : MethodName} {Wd cells' slots' : Nat} {b : Addr} {argsL rest : List Value} {Q : Option Value → Heap → List Loc → Prop} {as' : Array Value} {ps : List FieldType} {r : Option FieldType} {bytes : ByteArray} {maxL : Nat} {ret : Option FieldType} {rm : Room}
    (k : Go p e below m W T pc L S) (X : Stand p l e R s m args below meth c T locs cells slots) (hx : p.tables.exec = Jvm.exec) (hZ : Z.Warmed39 s.vm) (hown : s.vm.findClass own = some m.cls) (hsz : L.size = c.maxLocals)
    (w1 : (Cond.methodLink own index y).before a0 Z = true) (w2 : (Cond.declares y).before a0 Z = true) (hnf : NotFace s y) (w3 : (Cond.selects C y z).before a0 Z = true) (w4 : (Cond.instanceMethod z).before a0 Z = true) (wc : (Cond.code z bytes maxL ret).before a0 Z = true) (wz : (Cond.initialized z.cls).before a0 Z = true) (hd : decode c.code pc = .ok (.invokevirtual index, 3)) (hy : y.cls ≠ "java/lang/invoke/MethodHandle" ∧ y.cls ≠ "java/lang/invoke/VarHandle")
    (hM : MetFree l z (head1 [Cond.code z bytes maxL ret] rm) (fun a U => a = as' ∧ Z.Warmed39 U.vm ∧ U.heap = h) (fun _ _ _ _ _ => True) (fun _ U o U' => ∃ v L, o = .returned v ∧ Q v U'.heap L ∧ FrameEnd U o U' L rm.cells rm.slots))
    (eT : T.heap = h) (E : Exa Z h b C) (hs : S = argsL.reverse ++ .ref b :: rest) (ha : (.ref b :: argsL).toArray = as') (hp : parseMethodDescriptor y.desc = some ⟨ps, r⟩) (hlen : argsL.length = ps.length) (hW : (rest.map fun v => v.category).sum ≤ Wd) (hf : rm.frames + 1 ≤ R.frames) (hl : Wd + (maxL + 11) + rm.locals ≤ R.locals) (h1 : cells + rm.cells = cells') (h2 : slots + rm.slots = slots') (h3 : cells' ≤ R.cells) (h4 : slots' ≤ R.slots) :
    ∃ T' v L', Stand p l e R s m args below meth c T' (locs ++ L') cells' slots' ∧ Q v T'.heap L' ∧ Go p e below m W T' (pc + 3) L (v.toList ++ rest) :=
  Go.virtB (Wd := Wd) k X hx hZ hown hsz w1 w2 hnf w3 w4 hd hy (backOf (W := Wd) hM hZ wc wz hf hl) eT E hs ha hp hlen hW h1 h2 h3 h4
theorem Go.virtUpB {own C owner : String} {index : Nat} {y z : MethodName} {Wd cells' slots' : Nat} {b : Addr} {argsL rest : List Value} {Q : Option Value → Heap → List Loc → Prop} {as' : Array Value} {ps : List FieldType} {r : Option FieldType} {rc rs : Nat}
    (k : Go p e below m W T pc L S) (X : Stand p l e R s m args below meth c T locs cells slots) (hx : p.tables.exec = Jvm.exec) (hZ : Z.Warmed39 s.vm) (hown : s.vm.findClass own = some m.cls) (hsz : L.size = c.maxLocals)
    (w1 : (Cond.methodLink own index y).before a0 Z = true) (w2 : (Cond.sameMethod y.cls owner y.name y.desc).before a0 Z = true) (w5 : (Cond.declares ⟨owner, y.name, y.desc⟩).before a0 Z = true) (w3 : (Cond.selects C y z).before a0 Z = true) (w4 : (Cond.instanceMethod z).before a0 Z = true) (hd : decode c.code pc = .ok (.invokevirtual index, 3)) (hy : owner ≠ "java/lang/invoke/MethodHandle" ∧ owner ≠ "java/lang/invoke/VarHandle")
    (hK : Back l R p e below s args z 3 Wd (fun A a => a = as' ∧ A.U.heap = h ∧ A.cells + rc ≤ R.cells ∧ A.slots + rs ≤ R.slots) (fun A _ v B => ∃ L, Q v B.U.heap L ∧ B.locs = A.locs ++ L ∧ B.cells = A.cells + rc ∧ B.slots = A.slots + rs))
    (eT : T.heap = h) (E : Exa Z h b C) (hs : S = argsL.reverse ++ .ref b :: rest) (ha : (.ref b :: argsL).toArray = as') (hp : parseMethodDescriptor y.desc = some ⟨ps, r⟩) (hlen : argsL.length = ps.length) (hW : (rest.map fun v => v.category).sum ≤ Wd) (h1 : cells + rc = cells') (h2 : slots + rs = slots') (h3 : cells' ≤ R.cells) (h4 : slots' ≤ R.slots) :
    ∃ T' v L', Stand p l e R s m args below meth c T' (locs ++ L') cells' slots' ∧ Q v T'.heap L' ∧ Go p e below m W T' (pc + 3) L (v.toList ++ rest) := by
  subst hs h1 h2
  obtain ⟨cq, kq, qa, qb, qc⟩ := isOf hZ eT E
  obtain ⟨v, _, ⟨T', L', k', n'⟩, -, X', ⟨Lc, hQ, l1, y1, z1⟩, st⟩ := X.virtualBackUp hx (x := y) (y := z) (owner := owner) hown (mvT hZ w1) (mvT hZ w2) (mvT hZ w5) hy (mvT hZ w3) (mvT hZ w4) hK qa qc (g := mkF m pc L (argsL.reverse ++ .ref b :: rest)) rfl hsz (Steps.refl _) (argsL := argsL) (rest := rest) (lenOf hp hlen) rfl (by show 2 * 0 + _ ≤ _; rw [Nat.mul_zero, Nat.zero_add]; exact hW) hd (fun _ _ => ⟨ha, eT, h3, h4⟩)
  dsimp only [Pt.U, Pt.locs, Pt.cells, Pt.slots] at X' l1 y1 z1 st hQ
  subst l1 y1 z1
  exact ⟨T', v, Lc, X', hQ, fun t kt => k t (st.trans kt)⟩
theorem Go.virtUp {own C owner : String} {index : Nat} {y z : MethodName} {Wd cells' slots' : Nat} {b : Addr} {argsL rest : List Value} {Q : Option Value → Heap → List Loc → Prop} {as' : Array Value} {ps : List FieldType} {r : Option FieldType} {bytes : ByteArray} {maxL : Nat} {ret : Option FieldType} {rm : Room}
    (k : Go p e below m W T pc L S) (X : Stand p l e R s m args below meth c T locs cells slots) (hx : p.tables.exec = Jvm.exec) (hZ : Z.Warmed39 s.vm) (hown : s.vm.findClass own = some m.cls) (hsz : L.size = c.maxLocals)
    (w1 : (Cond.methodLink own index y).before a0 Z = true) (w2 : (Cond.sameMethod y.cls owner y.name y.desc).before a0 Z = true) (w5 : (Cond.declares ⟨owner, y.name, y.desc⟩).before a0 Z = true) (w3 : (Cond.selects C y z).before a0 Z = true) (w4 : (Cond.instanceMethod z).before a0 Z = true) (wc : (Cond.code z bytes maxL ret).before a0 Z = true) (wz : (Cond.initialized z.cls).before a0 Z = true) (hd : decode c.code pc = .ok (.invokevirtual index, 3)) (hy : owner ≠ "java/lang/invoke/MethodHandle" ∧ owner ≠ "java/lang/invoke/VarHandle")
    (hM : MetFree l z (head1 [Cond.code z bytes maxL ret] rm) (fun a U => a = as' ∧ Z.Warmed39 U.vm ∧ U.heap = h) (fun _ _ _ _ _ => True) (fun _ U o U' => ∃ v L, o = .returned v ∧ Q v U'.heap L ∧ FrameEnd U o U' L rm.cells rm.slots))
    (eT : T.heap = h) (E : Exa Z h b C) (hs : S = argsL.reverse ++ .ref b :: rest) (ha : (.ref b :: argsL).toArray = as') (hp : parseMethodDescriptor y.desc = some ⟨ps, r⟩) (hlen : argsL.length = ps.length) (hW : (rest.map fun v => v.category).sum ≤ Wd) (hf : rm.frames + 1 ≤ R.frames) (hl : Wd + (maxL + 11) + rm.locals ≤ R.locals) (h1 : cells + rm.cells = cells') (h2 : slots + rm.slots = slots') (h3 : cells' ≤ R.cells) (h4 : slots' ≤ R.slots) :
    ∃ T' v L', Stand p l e R s m args below meth c T' (locs ++ L') cells' slots' ∧ Q v T'.heap L' ∧ Go p e below m W T' (pc + 3) L (v.toList ++ rest) :=
  Go.virtUpB (Wd := Wd) (owner := owner) k X hx hZ hown hsz w1 w2 w5 w3 w4 hd hy (backOf (W := Wd) hM hZ wc wz hf hl) eT E hs ha hp hlen hW h1 h2 h3 h4
theorem Go.ifaceB {own C : String} {index count : Nat} {y z : MethodName} {Wd cells' slots' : Nat} {b : Addr} {argsL rest : List Value} {Q : Option Value → Heap → List Loc → Prop} {as' : Array Value} {ps : List FieldType} {r : Option FieldType} {rc rs : Nat}
    (k : Go p e below m W T pc L S) (X : Stand p l e R s m args below meth c T locs cells slots) (hx : p.tables.exec = Jvm.exec) (hZ : Z.Warmed39 s.vm) (hown : s.vm.findClass own = some m.cls) (hsz : L.size = c.maxLocals)
    (w1 : (Cond.methodLink own index y).before a0 Z = true) (w2 : (Cond.declares y).before a0 Z = true) (w5 : (Cond.interfaceMethod y.cls y.cls y.name y.desc).before args s = true) (w3 : (Cond.selects C y z).before a0 Z = true) (w4 : (Cond.instanceMethod z).before a0 Z = true) (w6 : (Cond.publicMethod z).before a0 Z = true) (w7 : (Cond.unhidden C y.name y.desc).before a0 Z = true) (w8 : (Cond.castable C y.cls).before a0 Z = true) (hd : decode c.code pc = .ok (.invokeinterface index count, 5)) (hy : y.cls ≠ "java/lang/invoke/MethodHandle" ∧ y.cls ≠ "java/lang/invoke/VarHandle")
    (hK : Back l R p e below s args z 5 Wd (fun A a => a = as' ∧ A.U.heap = h ∧ A.cells + rc ≤ R.cells ∧ A.slots + rs ≤ R.slots) (fun A _ v B => ∃ L, Q v B.U.heap L ∧ B.locs = A.locs ++ L ∧ B.cells = A.cells + rc ∧ B.slots = A.slots + rs))
    (eT : T.heap = h) (E : Exa Z h b C) (hs : S = argsL.reverse ++ .ref b :: rest) (ha : (.ref b :: argsL).toArray = as') (hp : parseMethodDescriptor y.desc = some ⟨ps, r⟩) (hlen : argsL.length = ps.length) (hW : (rest.map fun v => v.category).sum ≤ Wd) (h1 : cells + rc = cells') (h2 : slots + rs = slots') (h3 : cells' ≤ R.cells) (h4 : slots' ≤ R.slots) :
    ∃ T' v L', Stand p l e R s m args below meth c T' (locs ++ L') cells' slots' ∧ Q v T'.heap L' ∧ Go p e below m W T' (pc + 5) L (v.toList ++ rest) := by
  subst hs h1 h2
  obtain ⟨cq, kq, qa, qb, qc⟩ := isOf hZ eT E
  obtain ⟨v, _, ⟨T', L', k', n'⟩, -, X', ⟨Lc, hQ, l1, y1, z1⟩, st⟩ := X.interfaceBack hx (xi := y) (y := z) (count := count) hown (mvT hZ w1) (mvT hZ w2) w5 (mvT hZ w3) (mvT hZ w4) (mvT hZ w6) (mvT hZ w7) (mvT hZ w8) hy hK qa qb qc (g := mkF m pc L (argsL.reverse ++ .ref b :: rest)) rfl hsz (Steps.refl _) (argsL := argsL) (rest := rest) (lenOf hp hlen) rfl (by show 2 * 0 + _ ≤ _; rw [Nat.mul_zero, Nat.zero_add]; exact hW) hd (fun _ _ => ⟨ha, eT, h3, h4⟩)
  dsimp only [Pt.U, Pt.locs, Pt.cells, Pt.slots] at X' l1 y1 z1 st hQ
  subst l1 y1 z1
  exact ⟨T', v, Lc, X', hQ, fun t kt => k t (st.trans kt)⟩
theorem Go.iface {own C : String} {index count : Nat} {y z : MethodName} {Wd cells' slots' : Nat} {b : Addr} {argsL rest : List Value} {Q : Option Value → Heap → List Loc → Prop} {as' : Array Value} {ps : List FieldType} {r : Option FieldType} {bytes : ByteArray} {maxL : Nat} {ret : Option FieldType} {rm : Room}
    (k : Go p e below m W T pc L S) (X : Stand p l e R s m args below meth c T locs cells slots) (hx : p.tables.exec = Jvm.exec) (hZ : Z.Warmed39 s.vm) (hown : s.vm.findClass own = some m.cls) (hsz : L.size = c.maxLocals)
    (w1 : (Cond.methodLink own index y).before a0 Z = true) (w2 : (Cond.declares y).before a0 Z = true) (w5 : (Cond.interfaceMethod y.cls y.cls y.name y.desc).before args s = true) (w3 : (Cond.selects C y z).before a0 Z = true) (w4 : (Cond.instanceMethod z).before a0 Z = true) (w6 : (Cond.publicMethod z).before a0 Z = true) (w7 : (Cond.unhidden C y.name y.desc).before a0 Z = true) (w8 : (Cond.castable C y.cls).before a0 Z = true) (wc : (Cond.code z bytes maxL ret).before a0 Z = true) (wz : (Cond.initialized z.cls).before a0 Z = true) (hd : decode c.code pc = .ok (.invokeinterface index count, 5)) (hy : y.cls ≠ "java/lang/invoke/MethodHandle" ∧ y.cls ≠ "java/lang/invoke/VarHandle")
    (hM : MetFree l z (head1 [Cond.code z bytes maxL ret] rm) (fun a U => a = as' ∧ Z.Warmed39 U.vm ∧ U.heap = h) (fun _ _ _ _ _ => True) (fun _ U o U' => ∃ v L, o = .returned v ∧ Q v U'.heap L ∧ FrameEnd U o U' L rm.cells rm.slots))
    (eT : T.heap = h) (E : Exa Z h b C) (hs : S = argsL.reverse ++ .ref b :: rest) (ha : (.ref b :: argsL).toArray = as') (hp : parseMethodDescriptor y.desc = some ⟨ps, r⟩) (hlen : argsL.length = ps.length) (hW : (rest.map fun v => v.category).sum ≤ Wd) (hf : rm.frames + 1 ≤ R.frames) (hl : Wd + (maxL + 11) + rm.locals ≤ R.locals) (h1 : cells + rm.cells = cells') (h2 : slots + rm.slots = slots') (h3 : cells' ≤ R.cells) (h4 : slots' ≤ R.slots) :
    ∃ T' v L', Stand p l e R s m args below meth c T' (locs ++ L') cells' slots' ∧ Q v T'.heap L' ∧ Go p e below m W T' (pc + 5) L (v.toList ++ rest) :=
  Go.ifaceB (Wd := Wd) k X hx hZ hown hsz w1 w2 w5 w3 w4 w6 w7 w8 hd hy (backOf (W := Wd) hM hZ wc wz hf hl) eT E hs ha hp hlen hW h1 h2 h3 h4
theorem Go.specB {own : String} {index : Nat} {y : MethodName} {bytes : ByteArray} {maxL : Nat} {Wd cells' slots' : Nat} {b : Addr} {argsL rest : List Value} {Q : Option Value → Heap → List Loc → Prop} {as' : Array Value} {ps : List FieldType} {r : Option FieldType} {rc rs : Nat}
    (k : Go p e below m W T pc L S) (X : Stand p l e R s m args below meth c T locs cells slots) (hx : p.tables.exec = Jvm.exec) (hZ : Z.Warmed39 s.vm) (hown : s.vm.findClass own = some m.cls) (hsz : L.size = c.maxLocals)
    (hy1 : y.name = "<init>") (w1 : (Cond.methodLink own index y).before a0 Z = true) (w2 : (Cond.instanceMethod y).before a0 Z = true) (wc : (Cond.code y bytes maxL none).before a0 Z = true) (hd : decode c.code pc = .ok (.invokespecial index, 3)) (hy : y.cls ≠ "java/lang/invoke/MethodHandle" ∧ y.cls ≠ "java/lang/invoke/VarHandle")
    (hK : Back l R p e below s args y 3 Wd (fun A a => a = as' ∧ A.U.heap = h ∧ A.cells + rc ≤ R.cells ∧ A.slots + rs ≤ R.slots) (fun A _ v B => ∃ L, Q v B.U.heap L ∧ B.locs = A.locs ++ L ∧ B.cells = A.cells + rc ∧ B.slots = A.slots + rs))
    (eT : T.heap = h) (hs : S = argsL.reverse ++ .ref b :: rest) (ha : (.ref b :: argsL).toArray = as') (hp : parseMethodDescriptor y.desc = some ⟨ps, r⟩) (hlen : argsL.length = ps.length) (hW : (rest.map fun v => v.category).sum ≤ Wd) (h1 : cells + rc = cells') (h2 : slots + rs = slots') (h3 : cells' ≤ R.cells) (h4 : slots' ≤ R.slots) :
    ∃ T' v L', Stand p l e R s m args below meth c T' (locs ++ L') cells' slots' ∧ Q v T'.heap L' ∧ Go p e below m W T' (pc + 3) L (v.toList ++ rest) := by
  subst hs h1 h2
  obtain ⟨v, _, ⟨T', L', k', n'⟩, -, X', ⟨Lc, hQ, l1, y1, z1⟩, st⟩ := X.specialBack hx (y := y) hy1 hown (mvT hZ w1) (mvT hZ w2) (mvT hZ wc) hy hK (g := mkF m pc L (argsL.reverse ++ .ref b :: rest)) rfl hsz (Steps.refl _) (a := b) (argsL := argsL) (rest := rest) (lenOf hp hlen) rfl (by show 2 * 0 + _ ≤ _; rw [Nat.mul_zero, Nat.zero_add]; exact hW) hd (fun _ _ => ⟨ha, eT, h3, h4⟩)
  dsimp only [Pt.U, Pt.locs, Pt.cells, Pt.slots] at X' l1 y1 z1 st hQ
  subst l1 y1 z1
  exact ⟨T', v, Lc, X', hQ, fun t kt => k t (st.trans kt)⟩
theorem Go.spec {own : String} {index : Nat} {y : MethodName} {bytes : ByteArray} {maxL : Nat} {Wd cells' slots' : Nat} {b : Addr} {argsL rest : List Value} {Q : Option Value → Heap → List Loc → Prop} {as' : Array Value} {ps : List FieldType} {r : Option FieldType} {rm : Room}
    (k : Go p e below m W T pc L S) (X : Stand p l e R s m args below meth c T locs cells slots) (hx : p.tables.exec = Jvm.exec) (hZ : Z.Warmed39 s.vm) (hown : s.vm.findClass own = some m.cls) (hsz : L.size = c.maxLocals)
    (hy1 : y.name = "<init>") (w1 : (Cond.methodLink own index y).before a0 Z = true) (w2 : (Cond.instanceMethod y).before a0 Z = true)  (wc : (Cond.code y bytes maxL none).before a0 Z = true) (wz : (Cond.initialized y.cls).before a0 Z = true) (hd : decode c.code pc = .ok (.invokespecial index, 3)) (hy : y.cls ≠ "java/lang/invoke/MethodHandle" ∧ y.cls ≠ "java/lang/invoke/VarHandle")
    (hM : MetFree l y (head1 [Cond.code y bytes maxL none] rm) (fun a U => a = as' ∧ Z.Warmed39 U.vm ∧ U.heap = h) (fun _ _ _ _ _ => True) (fun _ U o U' => ∃ v L, o = .returned v ∧ Q v U'.heap L ∧ FrameEnd U o U' L rm.cells rm.slots))
    (eT : T.heap = h) (hs : S = argsL.reverse ++ .ref b :: rest) (ha : (.ref b :: argsL).toArray = as') (hp : parseMethodDescriptor y.desc = some ⟨ps, r⟩) (hlen : argsL.length = ps.length) (hW : (rest.map fun v => v.category).sum ≤ Wd) (hf : rm.frames + 1 ≤ R.frames) (hl : Wd + (maxL + 11) + rm.locals ≤ R.locals) (h1 : cells + rm.cells = cells') (h2 : slots + rm.slots = slots') (h3 : cells' ≤ R.cells) (h4 : slots' ≤ R.slots) :
    ∃ T' v L', Stand p l e R s m args below meth c T' (locs ++ L') cells' slots' ∧ Q v T'.heap L' ∧ Go p e below m W T' (pc + 3) L (v.toList ++ rest) :=
  Go.specB (Wd := Wd) k X hx hZ hown hsz hy1 w1 w2 wc hd hy (backOf (W := Wd) hM hZ wc wz hf hl) eT hs ha hp hlen hW h1 h2 h3 h4
theorem Go.statB {own : String} {index : Nat} {y : MethodName} {bytes : ByteArray} {maxL : Nat} {ret : Option FieldType} {Wd cells' slots' : Nat} {argsL rest : List Value} {Q : Option Value → Heap → List Loc → Prop} {as' : Array Value} {ps : List FieldType} {r : Option FieldType} {rc rs : Nat}
    (k : Go p e below m W T pc L S) (X : Stand p l e R s m args below meth c T locs cells slots) (hx : p.tables.exec = Jvm.exec) (hZ : Z.Warmed39 s.vm) (hown : s.vm.findClass own = some m.cls) (hsz : L.size = c.maxLocals)
    (w1 : (Cond.methodLink own index y).before a0 Z = true) (w2 : (Cond.static y).before a0 Z = true) (wc : (Cond.code y bytes maxL ret).before a0 Z = true) (wz : (Cond.initialized y.cls).before a0 Z = true) (hd : decode c.code pc = .ok (.invokestatic index, 3)) (hy : y.cls ≠ "java/lang/invoke/MethodHandle" ∧ y.cls ≠ "java/lang/invoke/VarHandle")
    (hK : Back l R p e below s args y 3 Wd (fun A a => a = as' ∧ A.U.heap = h ∧ A.cells + rc ≤ R.cells ∧ A.slots + rs ≤ R.slots) (fun A _ v B => ∃ L, Q v B.U.heap L ∧ B.locs = A.locs ++ L ∧ B.cells = A.cells + rc ∧ B.slots = A.slots + rs))
    (eT : T.heap = h) (hs : S = argsL.reverse ++ rest) (ha : argsL.toArray = as') (hp : parseMethodDescriptor y.desc = some ⟨ps, r⟩) (hlen : argsL.length = ps.length) (hW : (rest.map fun v => v.category).sum ≤ Wd) (h1 : cells + rc = cells') (h2 : slots + rs = slots') (h3 : cells' ≤ R.cells) (h4 : slots' ≤ R.slots) :
    ∃ T' v L', Stand p l e R s m args below meth c T' (locs ++ L') cells' slots' ∧ Q v T'.heap L' ∧ Go p e below m W T' (pc + 3) L (v.toList ++ rest) := by
  subst hs h1 h2
  obtain ⟨v, _, ⟨T', L', k', n'⟩, -, X', ⟨Lc, hQ, l1, y1, z1⟩, st⟩ := Jvm.LawKit.callS X hx (y := y) hown (mvT hZ w1) (mvT hZ w2) (mvT hZ wz) (mvT hZ wc) hy hK (g := mkF m pc L (argsL.reverse ++ rest)) rfl hsz (argsL := argsL) (rest := rest) (lenOf hp hlen) rfl (by show 2 * 0 + _ ≤ _; rw [Nat.mul_zero, Nat.zero_add]; exact hW) hd (fun _ _ => ⟨ha, eT, h3, h4⟩)
  dsimp only [Pt.U, Pt.locs, Pt.cells, Pt.slots] at X' l1 y1 z1 st hQ
  subst l1 y1 z1
  exact ⟨T', v, Lc, X', hQ, fun t kt => k t (st t kt)⟩
theorem Go.stat {own : String} {index : Nat} {y : MethodName} {bytes : ByteArray} {maxL : Nat} {ret : Option FieldType} {Wd cells' slots' : Nat} {argsL rest : List Value} {Q : Option Value → Heap → List Loc → Prop} {as' : Array Value} {ps : List FieldType} {r : Option FieldType} {rm : Room}
    (k : Go p e below m W T pc L S) (X : Stand p l e R s m args below meth c T locs cells slots) (hx : p.tables.exec = Jvm.exec) (hZ : Z.Warmed39 s.vm) (hown : s.vm.findClass own = some m.cls) (hsz : L.size = c.maxLocals)
    (w1 : (Cond.methodLink own index y).before a0 Z = true) (w2 : (Cond.static y).before a0 Z = true)  (wc : (Cond.code y bytes maxL ret).before a0 Z = true) (wz : (Cond.initialized y.cls).before a0 Z = true) (hd : decode c.code pc = .ok (.invokestatic index, 3)) (hy : y.cls ≠ "java/lang/invoke/MethodHandle" ∧ y.cls ≠ "java/lang/invoke/VarHandle")
    (hM : MetFree l y (head1 [Cond.code y bytes maxL ret] rm) (fun a U => a = as' ∧ Z.Warmed39 U.vm ∧ U.heap = h) (fun _ _ _ _ _ => True) (fun _ U o U' => ∃ v L, o = .returned v ∧ Q v U'.heap L ∧ FrameEnd U o U' L rm.cells rm.slots))
    (eT : T.heap = h) (hs : S = argsL.reverse ++ rest) (ha : argsL.toArray = as') (hp : parseMethodDescriptor y.desc = some ⟨ps, r⟩) (hlen : argsL.length = ps.length) (hW : (rest.map fun v => v.category).sum ≤ Wd) (hf : rm.frames + 1 ≤ R.frames) (hl : Wd + (maxL + 11) + rm.locals ≤ R.locals) (h1 : cells + rm.cells = cells') (h2 : slots + rm.slots = slots') (h3 : cells' ≤ R.cells) (h4 : slots' ≤ R.slots) :
    ∃ T' v L', Stand p l e R s m args below meth c T' (locs ++ L') cells' slots' ∧ Q v T'.heap L' ∧ Go p e below m W T' (pc + 3) L (v.toList ++ rest) :=
  Go.statB (Wd := Wd) k X hx hZ hown hsz w1 w2 wc wz hd hy (backOf (W := Wd) hM hZ wc wz hf hl) eT hs ha hp hlen hW h1 h2 h3 h4
theorem Go.privB {own C : String} {index : Nat} {y : MethodName} {bytes : ByteArray} {maxL : Nat} {ret : Option FieldType} {Wd cells' slots' : Nat} {b : Addr} {argsL rest : List Value} {Q : Option Value → Heap → List Loc → Prop} {as' : Array Value} {ps : List FieldType} {r : Option FieldType} {rc rs : Nat}
    (k : Go p e below m W T pc L S) (X : Stand p l e R s m args below meth c T locs cells slots) (hx : p.tables.exec = Jvm.exec) (hZ : Z.Warmed39 s.vm) (hown : s.vm.findClass own = some m.cls) (hsz : L.size = c.maxLocals)
    (w1 : (Cond.methodLink own index y).before a0 Z = true) (w2 : (Cond.instanceMethod y).before a0 Z = true) (w3 : (Cond.selects y.cls y y).before a0 Z = true) (w4 : (Cond.privateMethod y).before a0 Z = true) (wc : (Cond.code y bytes maxL ret).before a0 Z = true)
    (hd : decode c.code pc = .ok (.invokevirtual index, 3)) (hy : y.cls ≠ "java/lang/invoke/MethodHandle" ∧ y.cls ≠ "java/lang/invoke/VarHandle")
    (hK : Back l R p e below s args y 3 Wd (fun A a => a = as' ∧ A.U.heap = h ∧ A.cells + rc ≤ R.cells ∧ A.slots + rs ≤ R.slots) (fun A _ v B => ∃ L, Q v B.U.heap L ∧ B.locs = A.locs ++ L ∧ B.cells = A.cells + rc ∧ B.slots = A.slots + rs))
    (eT : T.heap = h) (E : Exa Z h b C) (hs : S = argsL.reverse ++ .ref b :: rest) (ha : (.ref b :: argsL).toArray = as') (hp : parseMethodDescriptor y.desc = some ⟨ps, r⟩) (hlen : argsL.length = ps.length) (hW : (rest.map fun v => v.category).sum ≤ Wd) (h1 : cells + rc = cells') (h2 : slots + rs = slots') (h3 : cells' ≤ R.cells) (h4 : slots' ≤ R.slots) :
    ∃ T' v L', Stand p l e R s m args below meth c T' (locs ++ L') cells' slots' ∧ Q v T'.heap L' ∧ Go p e below m W T' (pc + 3) L (v.toList ++ rest) := by
  subst hs h1 h2
  obtain ⟨cq, q1, q2⟩ := E.cell
  obtain ⟨v, _, ⟨T', L', k', n'⟩, -, X', ⟨Lc, hQ, l1, y1, z1⟩, st⟩ := X.privateBack hx (y := y) hown (mvT hZ w1) (mvT hZ w2) (mvT hZ w3) (Cond.privateMethod_at (mvP hZ w4 (args := #[]))) (mvT hZ wc) hy hK (g := mkF m pc L (argsL.reverse ++ .ref b :: rest)) rfl hsz (Steps.refl _) (a := b) (by rw [eT]; exact q1) q2 (argsL := argsL) (rest := rest) (lenOf hp hlen) rfl (by show 2 * 0 + _ ≤ _; rw [Nat.mul_zero, Nat.zero_add]; exact hW) hd (fun _ _ => ⟨ha, eT, h3, h4⟩)
  dsimp only [Pt.U, Pt.locs, Pt.cells, Pt.slots] at X' l1 y1 z1 st hQ
  subst l1 y1 z1
  exact ⟨T', v, Lc, X', hQ, fun t kt => k t (st.trans kt)⟩
theorem Go.priv {own C : String} {index : Nat} {y : MethodName} {bytes : ByteArray} {maxL : Nat} {ret : Option FieldType} {Wd cells' slots' : Nat} {b : Addr} {argsL rest : List Value} {Q : Option Value → Heap → List Loc → Prop} {as' : Array Value} {ps : List FieldType} {r : Option FieldType} {rm : Room}
    (k : Go p e below m W T pc L S) (X : Stand p l e R s m args below meth c T locs cells slots) (hx : p.tables.exec = Jvm.exec) (hZ : Z.Warmed39 s.vm) (hown : s.vm.findClass own = some m.cls) (hsz : L.size = c.maxLocals)
    (w1 : (Cond.methodLink own index y).before a0 Z = true) (w2 : (Cond.instanceMethod y).before a0 Z = true) (w3 : (Cond.selects y.cls y y).before a0 Z = true) (w4 : (Cond.privateMethod y).before a0 Z = true) (wc : (Cond.code y bytes maxL ret).before a0 Z = true) (wz : (Cond.initialized y.cls).before a0 Z = true)
    (hd : decode c.code pc = .ok (.invokevirtual index, 3)) (hy : y.cls ≠ "java/lang/invoke/MethodHandle" ∧ y.cls ≠ "java/lang/invoke/VarHandle")
    (hM : MetFree l y (head1 [Cond.code y bytes maxL ret] rm) (fun a U => a = as' ∧ Z.Warmed39 U.vm ∧ U.heap = h) (fun _ _ _ _ _ => True) (fun _ U o U' => ∃ v L, o = .returned v ∧ Q v U'.heap L ∧ FrameEnd U o U' L rm.cells rm.slots))
    (eT : T.heap = h) (E : Exa Z h b C) (hs : S = argsL.reverse ++ .ref b :: rest) (ha : (.ref b :: argsL).toArray = as') (hp : parseMethodDescriptor y.desc = some ⟨ps, r⟩) (hlen : argsL.length = ps.length) (hW : (rest.map fun v => v.category).sum ≤ Wd) (hf : rm.frames + 1 ≤ R.frames) (hl : Wd + (maxL + 11) + rm.locals ≤ R.locals) (h1 : cells + rm.cells = cells') (h2 : slots + rm.slots = slots') (h3 : cells' ≤ R.cells) (h4 : slots' ≤ R.slots) :
    ∃ T' v L', Stand p l e R s m args below meth c T' (locs ++ L') cells' slots' ∧ Q v T'.heap L' ∧ Go p e below m W T' (pc + 3) L (v.toList ++ rest) :=
  Go.privB (Wd := Wd) k X hx hZ hown hsz w1 w2 w3 w4 wc hd hy (backOf (W := Wd) hM hZ wc wz hf hl) eT E hs ha hp hlen hW h1 h2 h3 h4
theorem Go.castY {own K : String} {index : Nat} {a : Addr} (k : Go p e below m W T pc L (.ref a :: S)) (X : Stand p l e R s m args below meth c T locs cells slots) (hx : p.tables.exec = Jvm.exec) (hZ : Z.Warmed39 s.vm) (hown : s.vm.findClass own = some m.cls) (w : (Cond.classLink own index K).before a0 Z = true) (eT : T.heap = h) (F : Ins Z h a K true) (hd : decode c.code pc = .ok (.checkcast index, 3)) :
    ∃ T', Stand p l e R s m args below meth c T' locs cells slots ∧ T'.heap = h ∧ Go p e below m W T' (pc + 3) L (.ref a :: S) := by
  obtain ⟨T', X', e', st⟩ := Jvm.RoadKit.castY X hx hZ hown w eT F (g := mkF m pc L (.ref a :: S)) rfl rfl hd
  exact ⟨T', X', e', fun t kt => k t (st t kt)⟩
theorem Go.instY {own K : String} {index : Nat} {a : Addr} (k : Go p e below m W T pc L (.ref a :: S)) (X : Stand p l e R s m args below meth c T locs cells slots) (hx : p.tables.exec = Jvm.exec) (hZ : Z.Warmed39 s.vm) (hown : s.vm.findClass own = some m.cls) (w : (Cond.classLink own index K).before a0 Z = true) (eT : T.heap = h) (F : Ins Z h a K true) (hd : decode c.code pc = .ok (.instanceof index, 3)) :
    ∃ T', Stand p l e R s m args below meth c T' locs cells slots ∧ T'.heap = h ∧ Go p e below m W T' (pc + 3) L (.int 1 :: S) := by
  obtain ⟨T', X', e', st⟩ := Jvm.RoadKit.instY X hx hZ hown w eT F (g := mkF m pc L (.ref a :: S)) rfl rfl hd
  exact ⟨T', X', e', fun t kt => k t (st t kt)⟩
theorem Go.instNull {index : Nat} (k : Go p e below m W T pc L (.null :: S)) (X : Stand p l e R s m args below meth c T locs cells slots) (hx : p.tables.exec = Jvm.exec) (hd : decode c.code pc = .ok (.instanceof index, 3)) : Go p e below m W T (pc + 3) L (.int 0 :: S) := fun t kt => k t (X.instanceofNull hx (g := mkF m pc L (.null :: S)) rfl rfl hd t kt)
theorem Go.castNull {index : Nat} (k : Go p e below m W T pc L (.null :: S)) (X : Stand p l e R s m args below meth c T locs cells slots) (hx : p.tables.exec = Jvm.exec) (hd : decode c.code pc = .ok (.checkcast index, 3)) : Go p e below m W T (pc + 3) L (.null :: S) := fun t kt => k t (X.checkcastNull hx (g := mkF m pc L (.null :: S)) rfl rfl hd t kt)
theorem Go.cast {x y : Int32} (k : Go p e below m W T pc L (.int x :: S)) (q : x = y) : Go p e below m W T pc L (.int y :: S) := q ▸ k
theorem Go.castJ {x y : Int64} (k : Go p e below m W T pc L (.long x :: S)) (q : x = y) : Go p e below m W T pc L (.long y :: S) := q ▸ k
/-! the ways out of a body -/
abbrev Done (p : Program) (e : Env) (below : List Frame) (s W : State) (Q : Option Value → Heap → List Loc → Prop) (rc rs : Nat) : Prop :=
  ∃ s₂ o, Steps p.tables e below W s₂ ∧ s₂.status = .running ∧ Ended s₂ below o ∧ ∃ v L, o = .returned v ∧ Q v s₂.heap L ∧ FrameEnd s o s₂ L rc rs
theorem Go.ireturnN {t : FieldType} {x : Int32} {Q : Option Value → Heap → List Loc → Prop} {rc rs : Nat} (k : Go p e below m W T pc L (.int x :: S)) (X : Stand p l e R s m args below meth c T locs cells slots) (hx : p.tables.exec = Jvm.exec) (hret : meth.sig.returnType = some t) (ht : t = .boolean ∨ t = .byte ∨ t = .char ∨ t = .short) (hn : nar t x = x) (hd : decode c.code pc = .ok (.ireturn, 1)) (hlk : meth.locks = false) (hq : Q (some (.int x)) T.heap locs) (h1 : cells ≤ rc) (h2 : slots ≤ rs) : Done p e below s W Q rc rs := by
  obtain ⟨fs, hr, hrun, hended, hW, hsame⟩ := X.leave (v := some (.int x)) (fun q => by rw [hret] at q; cases q) hlk
  refine ⟨_, _, k _ (retN X hx hret ht hd (by rw [hn]; exact hr)), hrun, hended, _, _, rfl, hq, ⟨_, rfl⟩, hW, hsame.mono h1 h2⟩
theorem Go.ireturnI {x : Int32} {Q : Option Value → Heap → List Loc → Prop} {rc rs : Nat} (k : Go p e below m W T pc L (.int x :: S)) (X : Stand p l e R s m args below meth c T locs cells slots) (hx : p.tables.exec = Jvm.exec) (hret : meth.sig.returnType = some .int) (hd : decode c.code pc = .ok (.ireturn, 1)) (hlk : meth.locks = false) (hq : Q (some (.int x)) T.heap locs) (h1 : cells ≤ rc) (h2 : slots ≤ rs) : Done p e below s W Q rc rs := by
  obtain ⟨fs, hr, hrun, hended, hW, hsame⟩ := X.leave (v := some (.int x)) (fun q => by rw [hret] at q; cases q) hlk
  refine ⟨_, _, k _ (retI X hx hret hd hr), hrun, hended, _, _, rfl, hq, ⟨_, rfl⟩, hW, hsame.mono h1 h2⟩
theorem Go.return_ {Q : Option Value → Heap → List Loc → Prop} {rc rs : Nat} (k : Go p e below m W T pc L []) (X : Stand p l e R s m args below meth c T locs cells slots) (hx : p.tables.exec = Jvm.exec) (hret : meth.sig.returnType = none) (hd : decode c.code pc = .ok (.return_, 1)) (hlk : meth.locks = false) (hq : Q none T.heap locs) (h1 : cells ≤ rc) (h2 : slots ≤ rs) : Done p e below s W Q rc rs := by
  obtain ⟨fs, hr, hrun, hended, hW, hsame⟩ := X.leave (v := none) (fun _ => rfl) hlk
  refine ⟨_, _, k _ (X.returnOut hx hret hd hr), hrun, hended, _, _, rfl, hq, ⟨_, rfl⟩, hW, hsame.mono h1 h2⟩
theorem Go.areturn {t : FieldType} {v : Value} {Q : Option Value → Heap → List Loc → Prop} {rc rs : Nat} (k : Go p e below m W T pc L (v :: S)) (X : Stand p l e R s m args below meth c T locs cells slots) (hx : p.tables.exec = Jvm.exec) (hret : meth.sig.returnType = some t) (ht : t.isReference = true) (hv : v.isRef = true) (hd : decode c.code pc = .ok (.areturn, 1)) (hlk : meth.locks = false) (hq : Q (some v) T.heap locs) (h1 : cells ≤ rc) (h2 : slots ≤ rs) : Done p e below s W Q rc rs := by
  obtain ⟨fs, hr, hrun, hended, hW, hsame⟩ := X.leave (v := some v) (fun q => by rw [hret] at q; cases q) hlk
  refine ⟨_, _, k _ ?_, hrun, hended, _, _, rfl, hq, ⟨_, rfl⟩, hW, hsame.mono h1 h2⟩
  jvm_step X.here [X.here.top, hx, hd, X.method', hret, hv, ht]
  first | (intro acts; rw [hr _ acts rfl rfl rfl]) | rw [hr _ _ rfl rfl rfl]
  exact Steps.refl _

theorem own_in {cl : Cell} {z j : Int32} {i n : Nat} (S1 : cl.slots.size = z.toNatClampNeg) (hz : z.toNatClampNeg = n) (hj : j.toNatClampNeg = i) (hj0 : ¬ j < 0) (hi : i < n) : ¬ (j < 0 ∨ cl.slots.size ≤ j.toNatClampNeg) := by
  intro q
  rcases q with q | q
  · exact hj0 q
  · rw [S1, hz, hj] at q; omega

theorem Go.iastore {a : Addr} {kc : ClassId} {z j : Int32} {vs : List Value} {d : Value} {i : Nat} {n0 : Nat} {x : Int32} (k : Go p e below m W T pc L (.int x :: .int j :: .ref a :: S)) (X : Stand p l e R s m args below meth c T locs cells slots) (hx : p.tables.exec = Jvm.exec) (hZ : Z.Warmed39 s.vm) (eT : T.heap = h) (Va : Arv Z h a kc .int z vs d) (hz : z.toNatClampNeg = vs.length) (hj : j.toNatClampNeg = i) (hj0 : ¬ j < 0) (hi : i < vs.length) (N : Fr n0 locs) (g0 : n0 ≤ a) (hd : decode c.code pc = .ok (.iastore, 1)) :
    ∃ T' h' locs', Stand p l e R s m args below meth c T' locs' cells slots ∧ T'.heap = h' ∧ Wr h h' a j.toNatClampNeg (.int x) ∧ Arv Z h' a kc .int z (vs.set i (.int x)) d ∧ Fr n0 locs' ∧ Go p e below m W T' (pc + 1) L S := by
  obtain ⟨cl, A, q1, S1, q3, H, G⟩ := Va
  have hin := own_in S1 hz hj hj0 hi
  obtain ⟨T', h', X', e', W', st⟩ := Jvm.RoadKit.stI X hx hZ eT A hin (g := mkF m pc L (.int x :: .int j :: .ref a :: S)) rfl rfl hd
  exact ⟨T', h', _, X', e', W', Arv.set A q1 S1 q3 H G rfl W' i hj hi, Fr.snoc X' N g0, fun t kt => k t (st t kt)⟩

theorem Go.lastore {a : Addr} {kc : ClassId} {z j : Int32} {vs : List Value} {d : Value} {i : Nat} {n0 : Nat} {x : Int64} (k : Go p e below m W T pc L (.long x :: .int j :: .ref a :: S)) (X : Stand p l e R s m args below meth c T locs cells slots) (hx : p.tables.exec = Jvm.exec) (hZ : Z.Warmed39 s.vm) (eT : T.heap = h) (Va : Arv Z h a kc .long z vs d) (hz : z.toNatClampNeg = vs.length) (hj : j.toNatClampNeg = i) (hj0 : ¬ j < 0) (hi : i < vs.length) (N : Fr n0 locs) (g0 : n0 ≤ a) (hd : decode c.code pc = .ok (.lastore, 1)) :
    ∃ T' h' locs', Stand p l e R s m args below meth c T' locs' cells slots ∧ T'.heap = h' ∧ Wr h h' a j.toNatClampNeg (.long x) ∧ Arv Z h' a kc .long z (vs.set i (.long x)) d ∧ Fr n0 locs' ∧ Go p e below m W T' (pc + 1) L S := by
  obtain ⟨cl, A, q1, S1, q3, H, G⟩ := Va
  have hin := own_in S1 hz hj hj0 hi
  obtain ⟨T', h', X', e', W', st⟩ := Jvm.RoadKit.stJ X hx hZ eT A hin (g := mkF m pc L (.long x :: .int j :: .ref a :: S)) rfl rfl hd
  exact ⟨T', h', _, X', e', W', Arv.set A q1 S1 q3 H G rfl W' i hj hi, Fr.snoc X' N g0, fun t kt => k t (st t kt)⟩

theorem Go.castore {a : Addr} {kc : ClassId} {z j : Int32} {vs : List Value} {d : Value} {i : Nat} {n0 : Nat} {x : Int32} (k : Go p e below m W T pc L (.int x :: .int j :: .ref a :: S)) (X : Stand p l e R s m args below meth c T locs cells slots) (hx : p.tables.exec = Jvm.exec) (hZ : Z.Warmed39 s.vm) (eT : T.heap = h) (Va : Arv Z h a kc .char z vs d) (hz : z.toNatClampNeg = vs.length) (hj : j.toNatClampNeg = i) (hj0 : ¬ j < 0) (hi : i < vs.length) (N : Fr n0 locs) (g0 : n0 ≤ a) (hd : decode c.code pc = .ok (.castore, 1)) :
    ∃ T' h' locs', Stand p l e R s m args below meth c T' locs' cells slots ∧ T'.heap = h' ∧ Wr h h' a j.toNatClampNeg (.int (nar .char x)) ∧ Arv Z h' a kc .char z (vs.set i (.int (nar .char x))) d ∧ Fr n0 locs' ∧ Go p e below m W T' (pc + 1) L S := by
  obtain ⟨cl, A, q1, S1, q3, H, G⟩ := Va
  have hin := own_in S1 hz hj hj0 hi
  obtain ⟨T', h', X', e', W', st⟩ := Jvm.RoadKit.stC X hx hZ eT A hin (g := mkF m pc L (.int x :: .int j :: .ref a :: S)) rfl rfl hd
  exact ⟨T', h', _, X', e', W', Arv.set A q1 S1 q3 H G (fits_nar_char x) W' i hj hi, Fr.snoc X' N g0, fun t kt => k t (st t kt)⟩

theorem Go.bastore {a : Addr} {kc : ClassId} {z j : Int32} {vs : List Value} {d : Value} {i : Nat} {n0 : Nat} {x : Int32} (k : Go p e below m W T pc L (.int x :: .int j :: .ref a :: S)) (X : Stand p l e R s m args below meth c T locs cells slots) (hx : p.tables.exec = Jvm.exec) (hZ : Z.Warmed39 s.vm) (eT : T.heap = h) (Va : Arv Z h a kc .byte z vs d) (hz : z.toNatClampNeg = vs.length) (hj : j.toNatClampNeg = i) (hj0 : ¬ j < 0) (hi : i < vs.length) (N : Fr n0 locs) (g0 : n0 ≤ a) (hd : decode c.code pc = .ok (.bastore, 1)) :
    ∃ T' h' locs', Stand p l e R s m args below meth c T' locs' cells slots ∧ T'.heap = h' ∧ Wr h h' a j.toNatClampNeg (.int (nar .byte x)) ∧ Arv Z h' a kc .byte z (vs.set i (.int (nar .byte x))) d ∧ Fr n0 locs' ∧ Go p e below m W T' (pc + 1) L S := by
  obtain ⟨cl, A, q1, S1, q3, H, G⟩ := Va
  have hin := own_in S1 hz hj hj0 hi
  obtain ⟨T', h', X', e', W', st⟩ := Jvm.RoadKit.stB X hx hZ eT A hin (g := mkF m pc L (.int x :: .int j :: .ref a :: S)) rfl rfl hd
  exact ⟨T', h', _, X', e', W', Arv.set A q1 S1 q3 H G (fits_nar_byte x) W' i hj hi, Fr.snoc X' N g0, fun t kt => k t (st t kt)⟩

theorem Go.aastore {a : Addr} {kc : ClassId} {C : String} {z j : Int32} {vs : List Value} {d v : Value} {i : Nat} {n0 : Nat} (k : Go p e below m W T pc L (v :: .int j :: .ref a :: S)) (X : Stand p l e R s m args below meth c T locs cells slots) (hx : p.tables.exec = Jvm.exec) (hZ : Z.Warmed39 s.vm) (eT : T.heap = h) (Va : Arv Z h a kc (.object C) z vs d) (O : Ovr Z kc C) (hv : v = .null ∨ ∃ y, v = .ref y ∧ Ins Z h y C true) (hz : z.toNatClampNeg = vs.length) (hj : j.toNatClampNeg = i) (hj0 : ¬ j < 0) (hi : i < vs.length) (N : Fr n0 locs) (g0 : n0 ≤ a) (hd : decode c.code pc = .ok (.aastore, 1)) :
    ∃ T' h' locs', Stand p l e R s m args below meth c T' locs' cells slots ∧ T'.heap = h' ∧ Wr h h' a j.toNatClampNeg v ∧ Arv Z h' a kc (.object C) z (vs.set i v) d ∧ Fr n0 locs' ∧ Go p e below m W T' (pc + 1) L S := by
  obtain ⟨cl, A, q1, S1, q3, H, G⟩ := Va
  have hin := own_in S1 hz hj hj0 hi
  have F : Sto Z h a v := by
    rcases hv with rfl | ⟨y, rfl, I⟩
    · exact Or.inl rfl
    · exact Sto.of A (q1 ▸ O) I
  have hf : fits (.object C) v = true := by rcases hv with rfl | ⟨y, rfl, I⟩ <;> rfl
  obtain ⟨T', h', X', e', W', st⟩ := Jvm.RoadKit.stR X hx hZ eT A hin rfl F (g := mkF m pc L (v :: .int j :: .ref a :: S)) rfl rfl hd
  exact ⟨T', h', _, X', e', W', Arv.set A q1 S1 q3 H G hf W' i hj hi, Fr.snoc X' N g0, fun t kt => k t (st t kt)⟩
theorem Go.newP {aty : ArrayType} {n : Int32} {cap cells' slots' : Nat} (k : Go p e below m W T pc L (.int n :: S)) (X : Stand p l e R s m args below meth c T locs cells slots) (hx : p.tables.exec = Jvm.exec) (hZ : Z.Warmed39 s.vm) (w : (Cond.arrayClass (newarray.typeOf aty)).before a0 Z = true) (eT : T.heap = h) (hd : decode c.code pc = .ok (.newarray aty, 2)) (hn : ¬ n < 0) (hcap : n.toNatClampNeg ≤ cap) (hb : cap * 8 ≤ 536870912) (h1 : cells + 1 = cells') (h2 : slots + cap = slots') (h3 : cells' ≤ R.cells) (h4 : slots' ≤ R.slots) :
    ∃ T' h' b kc, Stand p l e R s m args below meth c T' locs cells' slots' ∧ T'.heap = h' ∧ b = h.size ∧ Ext h h' ∧ (∀ len, Arv Z h' b kc (newarray.typeOf aty) n (List.replicate len (defaultValue (newarray.typeOf aty))) (defaultValue (newarray.typeOf aty))) ∧ Go p e below m W T' (pc + 2) L (.ref b :: S) := by
  subst h1 h2
  obtain ⟨T', h', kc, X', e', E', A', st⟩ := Jvm.RoadKit.newP X hx hZ w eT (g := mkF m pc L (.int n :: S)) rfl hd rfl hn hcap hb h3 h4
  exact ⟨T', h', _, kc, X', e', rfl, E', fun len => (Arv.new A' hn).pad (pad_rep [] _ len), fun t kt => k t (st t kt)⟩
theorem Go.newR {own C : String} {index : Nat} {n : Int32} {cap cells' slots' : Nat} (k : Go p e below m W T pc L (.int n :: S)) (X : Stand p l e R s m args below meth c T locs cells slots) (hx : p.tables.exec = Jvm.exec) (hZ : Z.Warmed39 s.vm) (hown : s.vm.findClass own = some m.cls) (w1 : (Cond.classLink own index C).before a0 Z = true) (w2 : (Cond.arrayOver (.object C)).before a0 Z = true) (eT : T.heap = h) (hd : decode c.code pc = .ok (.anewarray index, 3)) (hn : ¬ n < 0) (hcap : n.toNatClampNeg ≤ cap) (hb : cap * 8 ≤ 536870912) (h1 : cells + 1 = cells') (h2 : slots + cap = slots') (h3 : cells' ≤ R.cells) (h4 : slots' ≤ R.slots) :
    ∃ T' h' b kc, Stand p l e R s m args below meth c T' locs cells' slots' ∧ T'.heap = h' ∧ b = h.size ∧ Ext h h' ∧ (∀ len, Arv Z h' b kc (.object C) n (List.replicate len .null) .null) ∧ Ovr Z kc C ∧ Go p e below m W T' (pc + 3) L (.ref b :: S) := by
  subst h1 h2
  obtain ⟨T', h', kc, X', e', E', A', O', st⟩ := Jvm.RoadKit.newR X hx hZ hown w1 w2 eT (g := mkF m pc L (.int n :: S)) rfl hd rfl hn hcap hb h3 h4
  exact ⟨T', h', _, kc, X', e', rfl, E', fun len => (Arv.new A' hn).pad (pad_rep [] _ len), O', fun t kt => k t (st t kt)⟩
theorem Go.arraylength {a : Addr} {kc : ClassId} {ty : FieldType} {z : Int32} {vs : List Value} {d : Value} (k : Go p e below m W T pc L (.ref a :: S)) (X : Stand p l e R s m args below meth c T locs cells slots) (hx : p.tables.exec = Jvm.exec) (hZ : Z.Warmed39 s.vm) (eT : T.heap = h) (Va : Arv Z h a kc ty z vs d) (hd : decode c.code pc = .ok (.arraylength, 1)) : Go p e below m W T (pc + 1) L (.int z :: S) := by
  obtain ⟨cl, A, q1, S1, q3, H, G⟩ := Va
  intro t kt
  refine k t (X.arraylength hx (cell := cl) (by rw [eT]; exact A.1) (State.isArrayOf_alike hZ.alike A.2.1) (g := mkF m pc L (.ref a :: S)) rfl (rest := S) rfl hd t ?_)
  rw [len_of S1 q3]
  exact kt

theorem Go.iaload {a : Addr} {kc : ClassId} {z j : Int32} {vs : List Value} {d v : Value} {i n : Nat}  (k : Go p e below m W T pc L (.int j :: .ref a :: S)) (X : Stand p l e R s m args below meth c T locs cells slots) (hx : p.tables.exec = Jvm.exec) (hZ : Z.Warmed39 s.vm) (eT : T.heap = h) (Va : Arv Z h a kc .int z vs d) (hz : z.toNatClampNeg = n) (hj : j.toNatClampNeg = i) (hj0 : ¬ j < 0) (hi : i < n) (hv : vs.getD i d = v) (hd : decode c.code pc = .ok (.iaload, 1)) : Go p e below m W T (pc + 1) L (v :: S) := by
  obtain ⟨cl, A, q1, S1, q3, H, G⟩ := Va
  have hin := own_in S1 hz hj hj0 hi
  subst hj
  exact fun t kt => k t (X.iaload hx (j := j) (v := v) (by rw [eT]; exact A.1) (State.isArrayOf_alike hZ.alike A.2.1) A.2.2 hin (Has.at H hin hv) (g := mkF m pc L (.int j :: .ref a :: S)) rfl rfl hd t kt)

theorem Go.laload {a : Addr} {kc : ClassId} {z j : Int32} {vs : List Value} {d v : Value} {i n : Nat}  (k : Go p e below m W T pc L (.int j :: .ref a :: S)) (X : Stand p l e R s m args below meth c T locs cells slots) (hx : p.tables.exec = Jvm.exec) (hZ : Z.Warmed39 s.vm) (eT : T.heap = h) (Va : Arv Z h a kc .long z vs d) (hz : z.toNatClampNeg = n) (hj : j.toNatClampNeg = i) (hj0 : ¬ j < 0) (hi : i < n) (hv : vs.getD i d = v) (hd : decode c.code pc = .ok (.laload, 1)) : Go p e below m W T (pc + 1) L (v :: S) := by
  obtain ⟨cl, A, q1, S1, q3, H, G⟩ := Va
  have hin := own_in S1 hz hj hj0 hi
  subst hj
  exact fun t kt => k t (X.laload hx (j := j) (v := v) (by rw [eT]; exact A.1) (State.isArrayOf_alike hZ.alike A.2.1) A.2.2 hin (Has.at H hin hv) (g := mkF m pc L (.int j :: .ref a :: S)) rfl rfl hd t kt)

theorem Go.caload {a : Addr} {kc : ClassId} {z j : Int32} {vs : List Value} {d v : Value} {i n : Nat}  (k : Go p e below m W T pc L (.int j :: .ref a :: S)) (X : Stand p l e R s m args below meth c T locs cells slots) (hx : p.tables.exec = Jvm.exec) (hZ : Z.Warmed39 s.vm) (eT : T.heap = h) (Va : Arv Z h a kc .char z vs d) (hz : z.toNatClampNeg = n) (hj : j.toNatClampNeg = i) (hj0 : ¬ j < 0) (hi : i < n) (hv : vs.getD i d = v) (hd : decode c.code pc = .ok (.caload, 1)) : Go p e below m W T (pc + 1) L (v :: S) := by
  obtain ⟨cl, A, q1, S1, q3, H, G⟩ := Va
  have hin := own_in S1 hz hj hj0 hi
  subst hj
  exact fun t kt => k t (X.caload hx (j := j) (v := v) (by rw [eT]; exact A.1) (State.isArrayOf_alike hZ.alike A.2.1) A.2.2 hin (Has.at H hin hv) (g := mkF m pc L (.int j :: .ref a :: S)) rfl rfl hd t kt)

theorem Go.aaload {a : Addr} {kc : ClassId} {z j : Int32} {vs : List Value} {d v : Value} {i n : Nat} {ty : FieldType} (k : Go p e below m W T pc L (.int j :: .ref a :: S)) (X : Stand p l e R s m args below meth c T locs cells slots) (hx : p.tables.exec = Jvm.exec) (hZ : Z.Warmed39 s.vm) (eT : T.heap = h) (Va : Arv Z h a kc ty z vs d) (hz : z.toNatClampNeg = n) (hj : j.toNatClampNeg = i) (hj0 : ¬ j < 0) (hi : i < n) (hv : vs.getD i d = v) (hty : ty.isReference = true) (hd : decode c.code pc = .ok (.aaload, 1)) : Go p e below m W T (pc + 1) L (v :: S) := by
  obtain ⟨cl, A, q1, S1, q3, H, G⟩ := Va
  have hin := own_in S1 hz hj hj0 hi
  subst hj
  exact fun t kt => k t (X.aaload hx (j := j) (v := v) (by rw [eT]; exact A.1) (State.isArrayOf_alike hZ.alike A.2.1) hty A.2.2 hin (Has.at H hin hv) (g := mkF m pc L (.int j :: .ref a :: S)) rfl rfl hd t kt)

theorem Go.baload {a : Addr} {kc : ClassId} {z j : Int32} {vs : List Value} {d v : Value} {i n : Nat}  (k : Go p e below m W T pc L (.int j :: .ref a :: S)) (X : Stand p l e R s m args below meth c T locs cells slots) (hx : p.tables.exec = Jvm.exec) (hZ : Z.Warmed39 s.vm) (eT : T.heap = h) (Va : Arv Z h a kc .byte z vs d) (hz : z.toNatClampNeg = n) (hj : j.toNatClampNeg = i) (hj0 : ¬ j < 0) (hi : i < n) (hv : vs.getD i d = v) (hd : decode c.code pc = .ok (.baload, 1)) : Go p e below m W T (pc + 1) L (v :: S) := by
  obtain ⟨cl, A, q1, S1, q3, H, G⟩ := Va
  have hin := own_in S1 hz hj hj0 hi
  subst hj
  exact fun t kt => k t (X.baloadBytes hx (j := j) (v := v) (by rw [eT]; exact A.1) (State.isArrayOf_alike hZ.alike A.2.1) A.2.2 hin (Has.at H hin hv) (g := mkF m pc L (.int j :: .ref a :: S)) rfl rfl hd t kt)

theorem Go.newPE {aty : ArrayType} {n : Int32} {cap cells' slots' : Nat} {ad : String} (k : Go p e below m W T pc L (.int n :: S)) (X : Stand p l e R s m args below meth c T locs cells slots) (hx : p.tables.exec = Jvm.exec) (hZ : Z.Warmed39 s.vm) (w : (Cond.arrayClass (newarray.typeOf aty)).before a0 Z = true) (eT : T.heap = h) (hd : decode c.code pc = .ok (.newarray aty, 2)) (hn : ¬ n < 0) (hcap : n.toNatClampNeg ≤ cap) (hb : cap * 8 ≤ 536870912) (h1 : cells + 1 = cells') (h2 : slots + cap = slots') (h3 : cells' ≤ R.cells) (h4 : slots' ≤ R.slots) (had : "[" ++ (newarray.typeOf aty).toString = ad) :
    ∃ T' h' b kc, Stand p l e R s m args below meth c T' locs cells' slots' ∧ T'.heap = h' ∧ b = h.size ∧ Ext h h' ∧ (∀ len, Arv Z h' b kc (newarray.typeOf aty) n (List.replicate len (defaultValue (newarray.typeOf aty))) (defaultValue (newarray.typeOf aty))) ∧ Exa Z h' b ad ∧ Go p e below m W T' (pc + 2) L (.ref b :: S) := by
  subst h1 h2
  obtain ⟨T', h', kc, X', e', E', A', Ex, st⟩ := Jvm.RoadKit.newPE X hx hZ w eT (g := mkF m pc L (.int n :: S)) rfl hd rfl hn hcap hb h3 h4 had
  exact ⟨T', h', _, kc, X', e', rfl, E', fun len => (Arv.new A' hn).pad (pad_rep [] _ len), Ex, fun t kt => k t (st t kt)⟩
theorem Go.newRE {own C : String} {index : Nat} {n : Int32} {cap cells' slots' : Nat} {ad : String} (k : Go p e below m W T pc L (.int n :: S)) (X : Stand p l e R s m args below meth c T locs cells slots) (hx : p.tables.exec = Jvm.exec) (hZ : Z.Warmed39 s.vm) (hown : s.vm.findClass own = some m.cls) (w1 : (Cond.classLink own index C).before a0 Z = true) (w2 : (Cond.arrayOver (.object C)).before a0 Z = true) (eT : T.heap = h) (hd : decode c.code pc = .ok (.anewarray index, 3)) (hn : ¬ n < 0) (hcap : n.toNatClampNeg ≤ cap) (hb : cap * 8 ≤ 536870912) (h1 : cells + 1 = cells') (h2 : slots + cap = slots') (h3 : cells' ≤ R.cells) (h4 : slots' ≤ R.slots) (had : "[" ++ (FieldType.object C).toString = ad) :
    ∃ T' h' b kc, Stand p l e R s m args below meth c T' locs cells' slots' ∧ T'.heap = h' ∧ b = h.size ∧ Ext h h' ∧ (∀ len, Arv Z h' b kc (.object C) n (List.replicate len .null) .null) ∧ Ovr Z kc C ∧ Exa Z h' b ad ∧ Go p e below m W T' (pc + 3) L (.ref b :: S) := by
  subst h1 h2
  obtain ⟨T', h', kc, X', e', E', A', Ex, O', st⟩ := Jvm.RoadKit.newRE X hx hZ hown w1 w2 eT (g := mkF m pc L (.int n :: S)) rfl hd rfl hn hcap hb h3 h4 had
  exact ⟨T', h', _, kc, X', e', rfl, E', fun len => (Arv.new A' hn).pad (pad_rep [] _ len), O', Ex, fun t kt => k t (st t kt)⟩
theorem Go.newRA {own C : String} {ty : FieldType} {index : Nat} {n : Int32} {cap cells' slots' : Nat} {ad : String} (k : Go p e below m W T pc L (.int n :: S)) (X : Stand p l e R s m args below meth c T locs cells slots) (hx : p.tables.exec = Jvm.exec) (hZ : Z.Warmed39 s.vm) (hown : s.vm.findClass own = some m.cls) (hC : (FieldType.array ty).toString = C) (w1 : (Cond.classLink own index C).before a0 Z = true) (w2 : (Cond.arrayOver (.array ty)).before a0 Z = true) (eT : T.heap = h) (hd : decode c.code pc = .ok (.anewarray index, 3)) (hn : ¬ n < 0) (hcap : n.toNatClampNeg ≤ cap) (hb : cap * 8 ≤ 536870912) (h1 : cells + 1 = cells') (h2 : slots + cap = slots') (h3 : cells' ≤ R.cells) (h4 : slots' ≤ R.slots) (had : "[" ++ C = ad) :
    ∃ T' h' b kc, Stand p l e R s m args below meth c T' locs cells' slots' ∧ T'.heap = h' ∧ b = h.size ∧ Ext h h' ∧ (∀ len, Arv Z h' b kc (.array ty) n (List.replicate len .null) .null) ∧ OvrA Z kc ty C ∧ Exa Z h' b ad ∧ Go p e below m W T' (pc + 3) L (.ref b :: S) := by
  subst h1 h2
  obtain ⟨T', h', kc, X', e', E', A', Ex, O', st⟩ := Jvm.RoadKit.newRA X hx hZ hown hC w1 w2 eT (g := mkF m pc L (.int n :: S)) rfl hd rfl hn hcap hb h3 h4 had
  exact ⟨T', h', _, kc, X', e', rfl, E', fun len => (Arv.new A' hn).pad (pad_rep [] _ len), O', Ex, fun t kt => k t (st t kt)⟩
theorem Go.aastoreA {a : Addr} {kc : ClassId} {C : String} {ty : FieldType} {z j : Int32} {vs : List Value} {d v : Value} {i : Nat} {n0 : Nat} (k : Go p e below m W T pc L (v :: .int j :: .ref a :: S)) (X : Stand p l e R s m args below meth c T locs cells slots) (hx : p.tables.exec = Jvm.exec) (hZ : Z.Warmed39 s.vm) (eT : T.heap = h) (Va : Arv Z h a kc (.array ty) z vs d) (O : OvrA Z kc ty C) (hv : v = .null ∨ ∃ y, v = .ref y ∧ Ins Z h y C true) (hz : z.toNatClampNeg = vs.length) (hj : j.toNatClampNeg = i) (hj0 : ¬ j < 0) (hi : i < vs.length) (N : Fr n0 locs) (g0 : n0 ≤ a) (hd : decode c.code pc = .ok (.aastore, 1)) :
    ∃ T' h' locs', Stand p l e R s m args below meth c T' locs' cells slots ∧ T'.heap = h' ∧ Wr h h' a j.toNatClampNeg v ∧ Arv Z h' a kc (.array ty) z (vs.set i v) d ∧ Fr n0 locs' ∧ Go p e below m W T' (pc + 1) L S := by
  obtain ⟨cl, A, q1, S1, q3, H, G⟩ := Va
  have hin := own_in S1 hz hj hj0 hi
  have F : Sto Z h a v := by
    rcases hv with rfl | ⟨y, rfl, I⟩
    · exact Or.inl rfl
    · exact Sto.ofVA A q1 O I
  have hf : fits (.array ty) v = true := by rcases hv with rfl | ⟨y, rfl, I⟩ <;> rfl
  obtain ⟨T', h', X', e', W', st⟩ := Jvm.RoadKit.stR X hx hZ eT A hin rfl F (g := mkF m pc L (v :: .int j :: .ref a :: S)) rfl rfl hd
  exact ⟨T', h', _, X', e', W', Arv.set A q1 S1 q3 H G hf W' i hj hi, Fr.snoc X' N g0, fun t kt => k t (st t kt)⟩
end OwnKit

theorem own_eqi {args : Array Value} {first s : State} {o : Option Outcome} {idx : List Nat} {a : Term} {n : Int32} (h : (Cond.eq a (Term.int n)).value args first o s idx = some true) : a.eval args first o idx s = some (.int n) := by
  obtain ⟨x, y, h1, h2, -, -⟩ := cmp_v (Or.inl h)
  have e2 : (Term.int n).eval args first o idx s = some (.int n) := Term.int_eval n
  cases h2.symm.trans e2
  cases x <;> simp [Cond.value, h1, e2] at h
  rw [h1, h]
theorem own_eqr {args : Array Value} {first s : State} {o : Option Outcome} {idx : List Nat} {a b : Term} {y : Addr} (h : (Cond.eq a b).value args first o s idx = some true) (hb : b.eval args first o idx s = some (.ref y)) : a.eval args first o idx s = some (.ref y) := by
  obtain ⟨x, z, h1, h2, -, -⟩ := cmp_v (Or.inl h)
  cases h2.symm.trans hb
  cases x <;> simp [Cond.value, h1, hb] at h
  rw [h1, h]
theorem own_ne {Z : State} {h : Heap} {a b : Addr} {C n d : String} {v w : Value} (F : Fld Z h a C n d v) (G : Fld Z h b C n d w) (q : v ≠ w) : a ≠ b := by
  intro e
  subst e
  obtain ⟨c1, cf1, k1, i1, f1, h1, h2, -, -, -, -, h7⟩ := F
  obtain ⟨c2, cf2, k2, i2, f2, g1, g2, -, -, -, -, g7⟩ := G
  cases h1.symm.trans g1
  cases h2.symm.trans g2
  exact q (Option.some.inj (h7.symm.trans g7))
theorem own_nz {x : Int32} (h : x = 0 ∨ x = 1) : narrow .boolean (.int x) = .int x ∧ fits .boolean (.int x) = true ∧ nar .boolean x = x := by rcases h with rfl | rfl <;> exact ⟨rfl, rfl, rfl⟩
theorem own_nref {v : Value} {C : String} (h : v.isRef = true) : narrow (.object C) v = v := by cases v <;> first | rfl | simp [Value.isRef] at h
theorem own_fref {v : Value} {C : String} (h : v.isRef = true) : fits (.object C) v = true := by cases v <;> first | rfl | simp [Value.isRef] at h
theorem own_01 {x : Int32} {P : Prop} (h : (P ∧ x = (0 : Int32)) ∨ (¬ P ∧ x = (1 : Int32))) : x = 0 ∨ x = 1 := h.imp And.right And.right
theorem own_10 {x : Int32} {P : Prop} (h : (P ∧ x = (1 : Int32)) ∨ (¬ P ∧ x = (0 : Int32))) : x = 0 ∨ x = 1 := h.symm.imp And.right And.right

theorem own_mask (x : Int32) : 0 ≤ (x &&& (2147483647 : Int32)).toInt := (c_andS x 2147483647).2.2 (by decide)
theorem own_rem {x y : Int32} (hx : 0 ≤ x.toInt) (hy : 0 < y.toInt) : 0 ≤ (x % y).toInt ∧ (x % y).toInt < y.toInt := ⟨((c_iremV x y).1 hx hy).1, ((c_iremV x y).1 hx hy).2.1⟩
theorem own_i {x : Int32} {n : Int} (y : Int32) (h : x.toInt = n) (hy : y.toInt = n) : x = y := Int32.toInt_inj.mp (h.trans hy.symm)

theorem d_rmo_0 : decode jdk_37_method_2_code 0 = .ok (.aload_n 0, 1) := by decide +kernel
theorem d_rmo_1 : decode jdk_37_method_2_code 1 = .ok (.getfield 7, 3) := by decide +kernel
theorem d_rmo_4 : decode jdk_37_method_2_code 4 = .ok (.ireturn, 1) := by decide +kernel
theorem pn_rmo : plainName "java/lang/Enum" = true := by first | (simp [plainName, overriddenIn]; done) | decide +kernel
theorem ef_rmo (m : MethodId) (a1 : Addr) : entryFrame m #[(.ref a1)] 1 = mkF m 0 #[.val (.ref a1)] [] := by first | (simp [entryFrame, mkF, argsToLocals, Value.category]; done) | rfl
def Q_rmo (Z : State) (a1 : Addr) (w2 : Int32) (h0 : Heap) (n0 : Nat) (v : Option Value) (h : Heap) (L : List Loc) : Prop := v = some (.int w2) ∧ Fr n0 L ∧ h = h0
set_option maxRecDepth 65536 in
set_option maxHeartbeats 40000000 in
theorem rmo (l : Launch) (Z : State) (a0 : Array Value) (hw : ∀ d ∈ tables_1, d.before a0 Z = true) (ws : List Jvm.Cond) (a1 : Addr) (w2 : Int32) (h0 : Heap) (n0 : Nat) (Z0 : n0 ≤ h0.size) (F1 : Fld Z h0 a1 "java/lang/Enum" "ordinal" "I" (.int w2)) :
    MetFree l (⟨"java/lang/Enum", "ordinal", "()I"⟩ : MethodName) (head1 (Jvm.Cond.code (⟨"java/lang/Enum", "ordinal", "()I"⟩ : MethodName) jdk_37_method_2_code 1 (some .int) :: ws) ({ frames := 0, cells := 0, slots := 0, locals := 0 } : Room)) (fun a U => a = #[(.ref a1)] ∧ Z.Warmed39 U.vm ∧ U.heap = h0) (fun _ _ _ _ _ => True) (fun _ U o U' => ∃ v L, o = .returned v ∧ Q_rmo Z a1 w2 h0 n0 v U'.heap L ∧ FrameEnd U o U' L ({ frames := 0, cells := 0, slots := 0, locals := 0 } : Room).cells ({ frames := 0, cells := 0, slots := 0, locals := 0 } : Room).slots) := by
  refine MetFree.of_bodySF (plainFor_of_name pn_rmo) hisR ?_
  intro p e s m args_ below meth c s₁ Bd hml0 hP hK
  obtain ⟨hargs, hZ, hh⟩ := hP
  have hx := Bd.exec
  have hby := Bd.bytes
  have hml : c.maxLocals = 1 := hml0
  have hown : s.vm.findClass "java/lang/Enum" = some m.cls := findClass_of_methodNamed Bd.named
  have hnm := (name_of_methodNamed Bd.named Bd.method).1
  have X0 : Stand p l e ({ frames := 0, cells := 0, slots := 0, locals := 0 } : Room) s m args_ below meth c s₁ [] 0 0 := Stand.of_body Bd
  have e0 : s₁.heap = h0 := by rw [← hh, Bd.state]; rfl
  have N0 := Fr.nil n0
  have hv : ∀ (i : Nat) {d : Jvm.Cond}, tables_1[i]? = some d → d.before a0 Z = true := fun i d q => hw d (List.mem_of_getElem? q)
  have k0 : Go p e below m (s₁.setTop (entryFrame m args_ 1)) s₁ 0 #[.val (.ref a1)] [] := by rw [hargs]; exact fun t kt => castTop (ef_rmo m a1) kt
  obtain ⟨W, hWW⟩ : ∃ W, W = s₁.setTop (entryFrame m args_ 1) := ⟨_, rfl⟩
  rw [← hWW] at k0 ⊢
  show Done p e below s W (Q_rmo Z a1 w2 h0 n0) ({ frames := 0, cells := 0, slots := 0, locals := 0 } : Room).cells ({ frames := 0, cells := 0, slots := 0, locals := 0 } : Room).slots
  have k1 : Go p e below m W s₁ 1 #[.val (.ref a1)] [(.ref a1)] := k0.aloadN X0 hx (hb hby d_rmo_0) rfl rfl
  obtain ⟨T2, X2, e2, k2⟩ := k1.getF X0 hx hZ hown (host := "") (Or.inl (hv 20 rfl)) Via.refl e0 F1 (hb hby d_rmo_1)
  have k2 : Go p e below m W T2 4 #[.val (.ref a1)] [(.int w2)] := k2
  exact k2.ireturnI X2 hx Bd.returns (hb hby d_rmo_4) (BodyLoose.notSynchronized Bd) (by rw [e2]; exact ⟨rfl, N0, rfl⟩) (by decide) (by decide)

theorem d_rmb14_0 : decode method_2_code 0 = .ok (.iload_n 1, 1) := by decide +kernel
theorem d_rmb14_1 : decode method_2_code 1 = .ok (.ifCond .eq 7, 3) := by decide +kernel
theorem d_rmb14_4 : decode method_2_code 4 = .ok (.iconst 2, 1) := by decide +kernel
theorem d_rmb14_5 : decode method_2_code 5 = .ok (.goto 4, 3) := by decide +kernel
theorem d_rmb14_8 : decode method_2_code 8 = .ok (.iconst 0, 1) := by decide +kernel
theorem d_rmb14_9 : decode method_2_code 9 = .ok (.iload_n 2, 1) := by decide +kernel
theorem d_rmb14_10 : decode method_2_code 10 = .ok (.ifCond .eq 7, 3) := by decide +kernel
theorem d_rmb14_13 : decode method_2_code 13 = .ok (.iconst 1, 1) := by decide +kernel
theorem d_rmb14_14 : decode method_2_code 14 = .ok (.goto 4, 3) := by decide +kernel
theorem d_rmb14_17 : decode method_2_code 17 = .ok (.iconst 0, 1) := by decide +kernel
theorem d_rmb14_18 : decode method_2_code 18 = .ok (.iadd, 1) := by decide +kernel
theorem d_rmb14_19 : decode method_2_code 19 = .ok (.istore_n 3, 1) := by decide +kernel
theorem d_rmb14_20 : decode method_2_code 20 = .ok (.iload_n 0, 1) := by decide +kernel
theorem d_rmb14_21 : decode method_2_code 21 = .ok (.iload_n 3, 1) := by decide +kernel
theorem d_rmb14_22 : decode method_2_code 22 = .ok (.ishr, 1) := by decide +kernel
theorem d_rmb14_23 : decode method_2_code 23 = .ok (.iconst 1, 1) := by decide +kernel
theorem d_rmb14_24 : decode method_2_code 24 = .ok (.iand, 1) := by decide +kernel
theorem d_rmb14_25 : decode method_2_code 25 = .ok (.ifCond .eq 7, 3) := by decide +kernel
theorem d_rmb14_28 : decode method_2_code 28 = .ok (.iconst 1, 1) := by decide +kernel
theorem d_rmb14_29 : decode method_2_code 29 = .ok (.goto 4, 3) := by decide +kernel
theorem d_rmb14_32 : decode method_2_code 32 = .ok (.iconst 0, 1) := by decide +kernel
theorem d_rmb14_33 : decode method_2_code 33 = .ok (.ireturn, 1) := by decide +kernel
theorem pn_rmb14 : plainName "com/example/paddlefish/paddlefish/OperatorApplyPinLaw" = true := by first | (simp [plainName, overriddenIn]; done) | decide +kernel
theorem ef_rmb14 (m : MethodId) (p2 : Int32) (p3 : Int32) : entryFrame m #[(.int (14 : Int32)), (.int p2), (.int p3)] 4 = mkF m 0 #[.val (.int (14 : Int32)), .val (.int p2), .val (.int p3), .unset] [] := by first | (simp [entryFrame, mkF, argsToLocals, Value.category]; done) | rfl
def Q_rmb14 (Z : State) (p2 : Int32) (p3 : Int32) (h0 : Heap) (n0 : Nat) (v : Option Value) (h : Heap) (L : List Loc) : Prop := ∃ (r : Int32), v = some (.int r) ∧ Fr n0 L ∧ h = h0 ∧ (r = p2 ||| p3)
set_option maxRecDepth 65536 in
set_option maxHeartbeats 40000000 in
theorem rmb14 (l : Launch) (Z : State) (a0 : Array Value) (hw : ∀ d ∈ tables_1, d.before a0 Z = true) (ws : List Jvm.Cond) (p2 : Int32) (p3 : Int32) (h0 : Heap) (n0 : Nat) (Z0 : n0 ≤ h0.size) (B2 : p2 = 0 ∨ p2 = 1) (B3 : p3 = 0 ∨ p3 = 1) :
    MetFree l (⟨"com/example/paddlefish/paddlefish/OperatorApplyPinLaw", "bit", "(IZZ)Z"⟩ : MethodName) (head1 (Jvm.Cond.code (⟨"com/example/paddlefish/paddlefish/OperatorApplyPinLaw", "bit", "(IZZ)Z"⟩ : MethodName) method_2_code 4 (some .boolean) :: ws) ({ frames := 0, cells := 0, slots := 0, locals := 0 } : Room)) (fun a U => a = #[(.int (14 : Int32)), (.int p2), (.int p3)] ∧ Z.Warmed39 U.vm ∧ U.heap = h0) (fun _ _ _ _ _ => True) (fun _ U o U' => ∃ v L, o = .returned v ∧ Q_rmb14 Z p2 p3 h0 n0 v U'.heap L ∧ FrameEnd U o U' L ({ frames := 0, cells := 0, slots := 0, locals := 0 } : Room).cells ({ frames := 0, cells := 0, slots := 0, locals := 0 } : Room).slots) := by
  refine MetFree.of_bodySF (plainFor_of_name pn_rmb14) hisR ?_
  intro p e s m args_ below meth c s₁ Bd hml0 hP hK
  obtain ⟨hargs, hZ, hh⟩ := hP
  have hx := Bd.exec
  have hby := Bd.bytes
  have hml : c.maxLocals = 4 := hml0
  have hown : s.vm.findClass "com/example/paddlefish/paddlefish/OperatorApplyPinLaw" = some m.cls := findClass_of_methodNamed Bd.named
  have hnm := (name_of_methodNamed Bd.named Bd.method).1
  have X0 : Stand p l e ({ frames := 0, cells := 0, slots := 0, locals := 0 } : Room) s m args_ below meth c s₁ [] 0 0 := Stand.of_body Bd
  have e0 : s₁.heap = h0 := by rw [← hh, Bd.state]; rfl
  have N0 := Fr.nil n0
  have hv : ∀ (i : Nat) {d : Jvm.Cond}, tables_1[i]? = some d → d.before a0 Z = true := fun i d q => hw d (List.mem_of_getElem? q)
  have k0 : Go p e below m (s₁.setTop (entryFrame m args_ 4)) s₁ 0 #[.val (.int (14 : Int32)), .val (.int p2), .val (.int p3), .unset] [] := by rw [hargs]; exact fun t kt => castTop (ef_rmb14 m p2 p3) kt
  obtain ⟨W, hWW⟩ : ∃ W, W = s₁.setTop (entryFrame m args_ 4) := ⟨_, rfl⟩
  rw [← hWW] at k0 ⊢
  show Done p e below s W (Q_rmb14 Z p2 p3 h0 n0) ({ frames := 0, cells := 0, slots := 0, locals := 0 } : Room).cells ({ frames := 0, cells := 0, slots := 0, locals := 0 } : Room).slots
  rcases B2 with q1 | q2
  ·
    subst p2
    rcases B3 with q3 | q4
    ·
      subst p3
      have k5 : Go p e below m W s₁ 20 #[.val (.int (14 : Int32)), .val (.int (0 : Int32)), .val (.int (0 : Int32)), .val (.int (0 : Int32))] [] := ((((((((k0.iloadN X0 hx (hb hby d_rmb14_0) rfl).ifYes X0 hx (hb hby d_rmb14_1) (XT.i0_eq_t (by decide)) (by decide) (by decide)).iconst X0 hx (hb hby d_rmb14_8) (v := (0 : Int32)) rfl).iloadN X0 hx (hb hby d_rmb14_9) rfl).ifYes X0 hx (hb hby d_rmb14_10) (XT.i0_eq_t (by decide)) (by decide) (by decide)).iconst X0 hx (hb hby d_rmb14_17) (v := (0 : Int32)) rfl).iadd X0 hx (hb hby d_rmb14_18)).cast (y := (0 : Int32)) (by decide)).istoreN X0 hx (hb hby d_rmb14_19) rfl
      have k6 : Go p e below m W s₁ 33 #[.val (.int (14 : Int32)), .val (.int (0 : Int32)), .val (.int (0 : Int32)), .val (.int (0 : Int32))] [(.int (0 : Int32))] := ((((((((k5.iloadN X0 hx (hb hby d_rmb14_20) rfl).iloadN X0 hx (hb hby d_rmb14_21) rfl).ishr X0 hx (hb hby d_rmb14_22)).cast (y := (14 : Int32)) (by decide)).iconst X0 hx (hb hby d_rmb14_23) (v := (1 : Int32)) rfl).iand X0 hx (hb hby d_rmb14_24)).cast (y := (0 : Int32)) (by decide)).ifYes X0 hx (hb hby d_rmb14_25) (XT.i0_eq_t (by decide)) (by decide) (by decide)).iconst X0 hx (hb hby d_rmb14_32) (v := (0 : Int32)) rfl
      exact k6.ireturnN X0 hx (t := .boolean) Bd.returns (by simp) rfl (hb hby d_rmb14_33) (BodyLoose.notSynchronized Bd) (by rw [e0]; exact ⟨(0 : Int32), rfl, N0, rfl, (by decide)⟩) (by decide) (by decide)
    ·
      subst p3
      have k7 : Go p e below m W s₁ 20 #[.val (.int (14 : Int32)), .val (.int (0 : Int32)), .val (.int (1 : Int32)), .val (.int (1 : Int32))] [] := (((((((((k0.iloadN X0 hx (hb hby d_rmb14_0) rfl).ifYes X0 hx (hb hby d_rmb14_1) (XT.i0_eq_t (by decide)) (by decide) (by decide)).iconst X0 hx (hb hby d_rmb14_8) (v := (0 : Int32)) rfl).iloadN X0 hx (hb hby d_rmb14_9) rfl).ifNo X0 hx (hb hby d_rmb14_10) (XT.i0_eq_f (by decide))).iconst X0 hx (hb hby d_rmb14_13) (v := (1 : Int32)) rfl).goto X0 hx (hb hby d_rmb14_14) (by decide) (by decide)).iadd X0 hx (hb hby d_rmb14_18)).cast (y := (1 : Int32)) (by decide)).istoreN X0 hx (hb hby d_rmb14_19) rfl
      have k8 : Go p e below m W s₁ 33 #[.val (.int (14 : Int32)), .val (.int (0 : Int32)), .val (.int (1 : Int32)), .val (.int (1 : Int32))] [(.int (1 : Int32))] := (((((((((k7.iloadN X0 hx (hb hby d_rmb14_20) rfl).iloadN X0 hx (hb hby d_rmb14_21) rfl).ishr X0 hx (hb hby d_rmb14_22)).cast (y := (7 : Int32)) (by decide)).iconst X0 hx (hb hby d_rmb14_23) (v := (1 : Int32)) rfl).iand X0 hx (hb hby d_rmb14_24)).cast (y := (1 : Int32)) (by decide)).ifNo X0 hx (hb hby d_rmb14_25) (XT.i0_eq_f (by decide))).iconst X0 hx (hb hby d_rmb14_28) (v := (1 : Int32)) rfl).goto X0 hx (hb hby d_rmb14_29) (by decide) (by decide)
      exact k8.ireturnN X0 hx (t := .boolean) Bd.returns (by simp) rfl (hb hby d_rmb14_33) (BodyLoose.notSynchronized Bd) (by rw [e0]; exact ⟨(1 : Int32), rfl, N0, rfl, (by decide)⟩) (by decide) (by decide)
  ·
    subst p2
    rcases B3 with q9 | q10
    ·
      subst p3
      have k11 : Go p e below m W s₁ 20 #[.val (.int (14 : Int32)), .val (.int (1 : Int32)), .val (.int (0 : Int32)), .val (.int (2 : Int32))] [] := (((((((((k0.iloadN X0 hx (hb hby d_rmb14_0) rfl).ifNo X0 hx (hb hby d_rmb14_1) (XT.i0_eq_f (by decide))).iconst X0 hx (hb hby d_rmb14_4) (v := (2 : Int32)) rfl).goto X0 hx (hb hby d_rmb14_5) (by decide) (by decide)).iloadN X0 hx (hb hby d_rmb14_9) rfl).ifYes X0 hx (hb hby d_rmb14_10) (XT.i0_eq_t (by decide)) (by decide) (by decide)).iconst X0 hx (hb hby d_rmb14_17) (v := (0 : Int32)) rfl).iadd X0 hx (hb hby d_rmb14_18)).cast (y := (2 : Int32)) (by decide)).istoreN X0 hx (hb hby d_rmb14_19) rfl
      have k12 : Go p e below m W s₁ 33 #[.val (.int (14 : Int32)), .val (.int (1 : Int32)), .val (.int (0 : Int32)), .val (.int (2 : Int32))] [(.int (1 : Int32))] := (((((((((k11.iloadN X0 hx (hb hby d_rmb14_20) rfl).iloadN X0 hx (hb hby d_rmb14_21) rfl).ishr X0 hx (hb hby d_rmb14_22)).cast (y := (3 : Int32)) (by decide)).iconst X0 hx (hb hby d_rmb14_23) (v := (1 : Int32)) rfl).iand X0 hx (hb hby d_rmb14_24)).cast (y := (1 : Int32)) (by decide)).ifNo X0 hx (hb hby d_rmb14_25) (XT.i0_eq_f (by decide))).iconst X0 hx (hb hby d_rmb14_28) (v := (1 : Int32)) rfl).goto X0 hx (hb hby d_rmb14_29) (by decide) (by decide)
      exact k12.ireturnN X0 hx (t := .boolean) Bd.returns (by simp) rfl (hb hby d_rmb14_33) (BodyLoose.notSynchronized Bd) (by rw [e0]; exact ⟨(1 : Int32), rfl, N0, rfl, (by decide)⟩) (by decide) (by decide)
    ·
      subst p3
      have k13 : Go p e below m W s₁ 19 #[.val (.int (14 : Int32)), .val (.int (1 : Int32)), .val (.int (1 : Int32)), .unset] [(.int (3 : Int32))] := (((((((((k0.iloadN X0 hx (hb hby d_rmb14_0) rfl).ifNo X0 hx (hb hby d_rmb14_1) (XT.i0_eq_f (by decide))).iconst X0 hx (hb hby d_rmb14_4) (v := (2 : Int32)) rfl).goto X0 hx (hb hby d_rmb14_5) (by decide) (by decide)).iloadN X0 hx (hb hby d_rmb14_9) rfl).ifNo X0 hx (hb hby d_rmb14_10) (XT.i0_eq_f (by decide))).iconst X0 hx (hb hby d_rmb14_13) (v := (1 : Int32)) rfl).goto X0 hx (hb hby d_rmb14_14) (by decide) (by decide)).iadd X0 hx (hb hby d_rmb14_18)).cast (y := (3 : Int32)) (by decide)
      have k14 : Go p e below m W s₁ 20 #[.val (.int (14 : Int32)), .val (.int (1 : Int32)), .val (.int (1 : Int32)), .val (.int (3 : Int32))] [] := k13.istoreN X0 hx (hb hby d_rmb14_19) rfl
      have k15 : Go p e below m W s₁ 33 #[.val (.int (14 : Int32)), .val (.int (1 : Int32)), .val (.int (1 : Int32)), .val (.int (3 : Int32))] [(.int (1 : Int32))] := (((((((((k14.iloadN X0 hx (hb hby d_rmb14_20) rfl).iloadN X0 hx (hb hby d_rmb14_21) rfl).ishr X0 hx (hb hby d_rmb14_22)).cast (y := (1 : Int32)) (by decide)).iconst X0 hx (hb hby d_rmb14_23) (v := (1 : Int32)) rfl).iand X0 hx (hb hby d_rmb14_24)).cast (y := (1 : Int32)) (by decide)).ifNo X0 hx (hb hby d_rmb14_25) (XT.i0_eq_f (by decide))).iconst X0 hx (hb hby d_rmb14_28) (v := (1 : Int32)) rfl).goto X0 hx (hb hby d_rmb14_29) (by decide) (by decide)
      exact k15.ireturnN X0 hx (t := .boolean) Bd.returns (by simp) rfl (hb hby d_rmb14_33) (BodyLoose.notSynchronized Bd) (by rw [e0]; exact ⟨(1 : Int32), rfl, N0, rfl, (by decide)⟩) (by decide) (by decide)

theorem d_rmb6_0 : decode method_2_code 0 = .ok (.iload_n 1, 1) := by decide +kernel
theorem d_rmb6_1 : decode method_2_code 1 = .ok (.ifCond .eq 7, 3) := by decide +kernel
theorem d_rmb6_4 : decode method_2_code 4 = .ok (.iconst 2, 1) := by decide +kernel
theorem d_rmb6_5 : decode method_2_code 5 = .ok (.goto 4, 3) := by decide +kernel
theorem d_rmb6_8 : decode method_2_code 8 = .ok (.iconst 0, 1) := by decide +kernel
theorem d_rmb6_9 : decode method_2_code 9 = .ok (.iload_n 2, 1) := by decide +kernel
theorem d_rmb6_10 : decode method_2_code 10 = .ok (.ifCond .eq 7, 3) := by decide +kernel
theorem d_rmb6_13 : decode method_2_code 13 = .ok (.iconst 1, 1) := by decide +kernel
theorem d_rmb6_14 : decode method_2_code 14 = .ok (.goto 4, 3) := by decide +kernel
theorem d_rmb6_17 : decode method_2_code 17 = .ok (.iconst 0, 1) := by decide +kernel
theorem d_rmb6_18 : decode method_2_code 18 = .ok (.iadd, 1) := by decide +kernel
theorem d_rmb6_19 : decode method_2_code 19 = .ok (.istore_n 3, 1) := by decide +kernel
theorem d_rmb6_20 : decode method_2_code 20 = .ok (.iload_n 0, 1) := by decide +kernel
theorem d_rmb6_21 : decode method_2_code 21 = .ok (.iload_n 3, 1) := by decide +kernel
theorem d_rmb6_22 : decode method_2_code 22 = .ok (.ishr, 1) := by decide +kernel
theorem d_rmb6_23 : decode method_2_code 23 = .ok (.iconst 1, 1) := by decide +kernel
theorem d_rmb6_24 : decode method_2_code 24 = .ok (.iand, 1) := by decide +kernel
theorem d_rmb6_25 : decode method_2_code 25 = .ok (.ifCond .eq 7, 3) := by decide +kernel
theorem d_rmb6_28 : decode method_2_code 28 = .ok (.iconst 1, 1) := by decide +kernel
theorem d_rmb6_29 : decode method_2_code 29 = .ok (.goto 4, 3) := by decide +kernel
theorem d_rmb6_32 : decode method_2_code 32 = .ok (.iconst 0, 1) := by decide +kernel
theorem d_rmb6_33 : decode method_2_code 33 = .ok (.ireturn, 1) := by decide +kernel
theorem pn_rmb6 : plainName "com/example/paddlefish/paddlefish/OperatorApplyPinLaw" = true := by first | (simp [plainName, overriddenIn]; done) | decide +kernel
theorem ef_rmb6 (m : MethodId) (p2 : Int32) (p3 : Int32) : entryFrame m #[(.int (6 : Int32)), (.int p2), (.int p3)] 4 = mkF m 0 #[.val (.int (6 : Int32)), .val (.int p2), .val (.int p3), .unset] [] := by first | (simp [entryFrame, mkF, argsToLocals, Value.category]; done) | rfl
def Q_rmb6 (Z : State) (p2 : Int32) (p3 : Int32) (h0 : Heap) (n0 : Nat) (v : Option Value) (h : Heap) (L : List Loc) : Prop := ∃ (r : Int32), v = some (.int r) ∧ Fr n0 L ∧ h = h0 ∧ (r = p2 ^^^ p3)
set_option maxRecDepth 65536 in
set_option maxHeartbeats 40000000 in
theorem rmb6 (l : Launch) (Z : State) (a0 : Array Value) (hw : ∀ d ∈ tables_1, d.before a0 Z = true) (ws : List Jvm.Cond) (p2 : Int32) (p3 : Int32) (h0 : Heap) (n0 : Nat) (Z0 : n0 ≤ h0.size) (B2 : p2 = 0 ∨ p2 = 1) (B3 : p3 = 0 ∨ p3 = 1) :
    MetFree l (⟨"com/example/paddlefish/paddlefish/OperatorApplyPinLaw", "bit", "(IZZ)Z"⟩ : MethodName) (head1 (Jvm.Cond.code (⟨"com/example/paddlefish/paddlefish/OperatorApplyPinLaw", "bit", "(IZZ)Z"⟩ : MethodName) method_2_code 4 (some .boolean) :: ws) ({ frames := 0, cells := 0, slots := 0, locals := 0 } : Room)) (fun a U => a = #[(.int (6 : Int32)), (.int p2), (.int p3)] ∧ Z.Warmed39 U.vm ∧ U.heap = h0) (fun _ _ _ _ _ => True) (fun _ U o U' => ∃ v L, o = .returned v ∧ Q_rmb6 Z p2 p3 h0 n0 v U'.heap L ∧ FrameEnd U o U' L ({ frames := 0, cells := 0, slots := 0, locals := 0 } : Room).cells ({ frames := 0, cells := 0, slots := 0, locals := 0 } : Room).slots) := by
  refine MetFree.of_bodySF (plainFor_of_name pn_rmb6) hisR ?_
  intro p e s m args_ below meth c s₁ Bd hml0 hP hK
  obtain ⟨hargs, hZ, hh⟩ := hP
  have hx := Bd.exec
  have hby := Bd.bytes
  have hml : c.maxLocals = 4 := hml0
  have hown : s.vm.findClass "com/example/paddlefish/paddlefish/OperatorApplyPinLaw" = some m.cls := findClass_of_methodNamed Bd.named
  have hnm := (name_of_methodNamed Bd.named Bd.method).1
  have X0 : Stand p l e ({ frames := 0, cells := 0, slots := 0, locals := 0 } : Room) s m args_ below meth c s₁ [] 0 0 := Stand.of_body Bd
  have e0 : s₁.heap = h0 := by rw [← hh, Bd.state]; rfl
  have N0 := Fr.nil n0
  have hv : ∀ (i : Nat) {d : Jvm.Cond}, tables_1[i]? = some d → d.before a0 Z = true := fun i d q => hw d (List.mem_of_getElem? q)
  have k0 : Go p e below m (s₁.setTop (entryFrame m args_ 4)) s₁ 0 #[.val (.int (6 : Int32)), .val (.int p2), .val (.int p3), .unset] [] := by rw [hargs]; exact fun t kt => castTop (ef_rmb6 m p2 p3) kt
  obtain ⟨W, hWW⟩ : ∃ W, W = s₁.setTop (entryFrame m args_ 4) := ⟨_, rfl⟩
  rw [← hWW] at k0 ⊢
  show Done p e below s W (Q_rmb6 Z p2 p3 h0 n0) ({ frames := 0, cells := 0, slots := 0, locals := 0 } : Room).cells ({ frames := 0, cells := 0, slots := 0, locals := 0 } : Room).slots
  rcases B2 with q1 | q2
  ·
    subst p2
    rcases B3 with q3 | q4
    ·
      subst p3
      have k5 : Go p e below m W s₁ 20 #[.val (.int (6 : Int32)), .val (.int (0 : Int32)), .val (.int (0 : Int32)), .val (.int (0 : Int32))] [] := ((((((((k0.iloadN X0 hx (hb hby d_rmb6_0) rfl).ifYes X0 hx (hb hby d_rmb6_1) (XT.i0_eq_t (by decide)) (by decide) (by decide)).iconst X0 hx (hb hby d_rmb6_8) (v := (0 : Int32)) rfl).iloadN X0 hx (hb hby d_rmb6_9) rfl).ifYes X0 hx (hb hby d_rmb6_10) (XT.i0_eq_t (by decide)) (by decide) (by decide)).iconst X0 hx (hb hby d_rmb6_17) (v := (0 : Int32)) rfl).iadd X0 hx (hb hby d_rmb6_18)).cast (y := (0 : Int32)) (by decide)).istoreN X0 hx (hb hby d_rmb6_19) rfl
      have k6 : Go p e below m W s₁ 33 #[.val (.int (6 : Int32)), .val (.int (0 : Int32)), .val (.int (0 : Int32)), .val (.int (0 : Int32))] [(.int (0 : Int32))] := ((((((((k5.iloadN X0 hx (hb hby d_rmb6_20) rfl).iloadN X0 hx (hb hby d_rmb6_21) rfl).ishr X0 hx (hb hby d_rmb6_22)).cast (y := (6 : Int32)) (by decide)).iconst X0 hx (hb hby d_rmb6_23) (v := (1 : Int32)) rfl).iand X0 hx (hb hby d_rmb6_24)).cast (y := (0 : Int32)) (by decide)).ifYes X0 hx (hb hby d_rmb6_25) (XT.i0_eq_t (by decide)) (by decide) (by decide)).iconst X0 hx (hb hby d_rmb6_32) (v := (0 : Int32)) rfl
      exact k6.ireturnN X0 hx (t := .boolean) Bd.returns (by simp) rfl (hb hby d_rmb6_33) (BodyLoose.notSynchronized Bd) (by rw [e0]; exact ⟨(0 : Int32), rfl, N0, rfl, (by decide)⟩) (by decide) (by decide)
    ·
      subst p3
      have k7 : Go p e below m W s₁ 20 #[.val (.int (6 : Int32)), .val (.int (0 : Int32)), .val (.int (1 : Int32)), .val (.int (1 : Int32))] [] := (((((((((k0.iloadN X0 hx (hb hby d_rmb6_0) rfl).ifYes X0 hx (hb hby d_rmb6_1) (XT.i0_eq_t (by decide)) (by decide) (by decide)).iconst X0 hx (hb hby d_rmb6_8) (v := (0 : Int32)) rfl).iloadN X0 hx (hb hby d_rmb6_9) rfl).ifNo X0 hx (hb hby d_rmb6_10) (XT.i0_eq_f (by decide))).iconst X0 hx (hb hby d_rmb6_13) (v := (1 : Int32)) rfl).goto X0 hx (hb hby d_rmb6_14) (by decide) (by decide)).iadd X0 hx (hb hby d_rmb6_18)).cast (y := (1 : Int32)) (by decide)).istoreN X0 hx (hb hby d_rmb6_19) rfl
      have k8 : Go p e below m W s₁ 33 #[.val (.int (6 : Int32)), .val (.int (0 : Int32)), .val (.int (1 : Int32)), .val (.int (1 : Int32))] [(.int (1 : Int32))] := (((((((((k7.iloadN X0 hx (hb hby d_rmb6_20) rfl).iloadN X0 hx (hb hby d_rmb6_21) rfl).ishr X0 hx (hb hby d_rmb6_22)).cast (y := (3 : Int32)) (by decide)).iconst X0 hx (hb hby d_rmb6_23) (v := (1 : Int32)) rfl).iand X0 hx (hb hby d_rmb6_24)).cast (y := (1 : Int32)) (by decide)).ifNo X0 hx (hb hby d_rmb6_25) (XT.i0_eq_f (by decide))).iconst X0 hx (hb hby d_rmb6_28) (v := (1 : Int32)) rfl).goto X0 hx (hb hby d_rmb6_29) (by decide) (by decide)
      exact k8.ireturnN X0 hx (t := .boolean) Bd.returns (by simp) rfl (hb hby d_rmb6_33) (BodyLoose.notSynchronized Bd) (by rw [e0]; exact ⟨(1 : Int32), rfl, N0, rfl, (by decide)⟩) (by decide) (by decide)
  ·
    subst p2
    rcases B3 with q9 | q10
    ·
      subst p3
      have k11 : Go p e below m W s₁ 20 #[.val (.int (6 : Int32)), .val (.int (1 : Int32)), .val (.int (0 : Int32)), .val (.int (2 : Int32))] [] := (((((((((k0.iloadN X0 hx (hb hby d_rmb6_0) rfl).ifNo X0 hx (hb hby d_rmb6_1) (XT.i0_eq_f (by decide))).iconst X0 hx (hb hby d_rmb6_4) (v := (2 : Int32)) rfl).goto X0 hx (hb hby d_rmb6_5) (by decide) (by decide)).iloadN X0 hx (hb hby d_rmb6_9) rfl).ifYes X0 hx (hb hby d_rmb6_10) (XT.i0_eq_t (by decide)) (by decide) (by decide)).iconst X0 hx (hb hby d_rmb6_17) (v := (0 : Int32)) rfl).iadd X0 hx (hb hby d_rmb6_18)).cast (y := (2 : Int32)) (by decide)).istoreN X0 hx (hb hby d_rmb6_19) rfl
      have k12 : Go p e below m W s₁ 33 #[.val (.int (6 : Int32)), .val (.int (1 : Int32)), .val (.int (0 : Int32)), .val (.int (2 : Int32))] [(.int (1 : Int32))] := (((((((((k11.iloadN X0 hx (hb hby d_rmb6_20) rfl).iloadN X0 hx (hb hby d_rmb6_21) rfl).ishr X0 hx (hb hby d_rmb6_22)).cast (y := (1 : Int32)) (by decide)).iconst X0 hx (hb hby d_rmb6_23) (v := (1 : Int32)) rfl).iand X0 hx (hb hby d_rmb6_24)).cast (y := (1 : Int32)) (by decide)).ifNo X0 hx (hb hby d_rmb6_25) (XT.i0_eq_f (by decide))).iconst X0 hx (hb hby d_rmb6_28) (v := (1 : Int32)) rfl).goto X0 hx (hb hby d_rmb6_29) (by decide) (by decide)
      exact k12.ireturnN X0 hx (t := .boolean) Bd.returns (by simp) rfl (hb hby d_rmb6_33) (BodyLoose.notSynchronized Bd) (by rw [e0]; exact ⟨(1 : Int32), rfl, N0, rfl, (by decide)⟩) (by decide) (by decide)
    ·
      subst p3
      have k13 : Go p e below m W s₁ 19 #[.val (.int (6 : Int32)), .val (.int (1 : Int32)), .val (.int (1 : Int32)), .unset] [(.int (3 : Int32))] := (((((((((k0.iloadN X0 hx (hb hby d_rmb6_0) rfl).ifNo X0 hx (hb hby d_rmb6_1) (XT.i0_eq_f (by decide))).iconst X0 hx (hb hby d_rmb6_4) (v := (2 : Int32)) rfl).goto X0 hx (hb hby d_rmb6_5) (by decide) (by decide)).iloadN X0 hx (hb hby d_rmb6_9) rfl).ifNo X0 hx (hb hby d_rmb6_10) (XT.i0_eq_f (by decide))).iconst X0 hx (hb hby d_rmb6_13) (v := (1 : Int32)) rfl).goto X0 hx (hb hby d_rmb6_14) (by decide) (by decide)).iadd X0 hx (hb hby d_rmb6_18)).cast (y := (3 : Int32)) (by decide)
      have k14 : Go p e below m W s₁ 20 #[.val (.int (6 : Int32)), .val (.int (1 : Int32)), .val (.int (1 : Int32)), .val (.int (3 : Int32))] [] := k13.istoreN X0 hx (hb hby d_rmb6_19) rfl
      have k15 : Go p e below m W s₁ 33 #[.val (.int (6 : Int32)), .val (.int (1 : Int32)), .val (.int (1 : Int32)), .val (.int (3 : Int32))] [(.int (0 : Int32))] := ((((((((k14.iloadN X0 hx (hb hby d_rmb6_20) rfl).iloadN X0 hx (hb hby d_rmb6_21) rfl).ishr X0 hx (hb hby d_rmb6_22)).cast (y := (0 : Int32)) (by decide)).iconst X0 hx (hb hby d_rmb6_23) (v := (1 : Int32)) rfl).iand X0 hx (hb hby d_rmb6_24)).cast (y := (0 : Int32)) (by decide)).ifYes X0 hx (hb hby d_rmb6_25) (XT.i0_eq_t (by decide)) (by decide) (by decide)).iconst X0 hx (hb hby d_rmb6_32) (v := (0 : Int32)) rfl
      exact k15.ireturnN X0 hx (t := .boolean) Bd.returns (by simp) rfl (hb hby d_rmb6_33) (BodyLoose.notSynchronized Bd) (by rw [e0]; exact ⟨(0 : Int32), rfl, N0, rfl, (by decide)⟩) (by decide) (by decide)

theorem d_rmb8_0 : decode method_2_code 0 = .ok (.iload_n 1, 1) := by decide +kernel
theorem d_rmb8_1 : decode method_2_code 1 = .ok (.ifCond .eq 7, 3) := by decide +kernel
theorem d_rmb8_4 : decode method_2_code 4 = .ok (.iconst 2, 1) := by decide +kernel
theorem d_rmb8_5 : decode method_2_code 5 = .ok (.goto 4, 3) := by decide +kernel
theorem d_rmb8_8 : decode method_2_code 8 = .ok (.iconst 0, 1) := by decide +kernel
theorem d_rmb8_9 : decode method_2_code 9 = .ok (.iload_n 2, 1) := by decide +kernel
theorem d_rmb8_10 : decode method_2_code 10 = .ok (.ifCond .eq 7, 3) := by decide +kernel
theorem d_rmb8_13 : decode method_2_code 13 = .ok (.iconst 1, 1) := by decide +kernel
theorem d_rmb8_14 : decode method_2_code 14 = .ok (.goto 4, 3) := by decide +kernel
theorem d_rmb8_17 : decode method_2_code 17 = .ok (.iconst 0, 1) := by decide +kernel
theorem d_rmb8_18 : decode method_2_code 18 = .ok (.iadd, 1) := by decide +kernel
theorem d_rmb8_19 : decode method_2_code 19 = .ok (.istore_n 3, 1) := by decide +kernel
theorem d_rmb8_20 : decode method_2_code 20 = .ok (.iload_n 0, 1) := by decide +kernel
theorem d_rmb8_21 : decode method_2_code 21 = .ok (.iload_n 3, 1) := by decide +kernel
theorem d_rmb8_22 : decode method_2_code 22 = .ok (.ishr, 1) := by decide +kernel
theorem d_rmb8_23 : decode method_2_code 23 = .ok (.iconst 1, 1) := by decide +kernel
theorem d_rmb8_24 : decode method_2_code 24 = .ok (.iand, 1) := by decide +kernel
theorem d_rmb8_25 : decode method_2_code 25 = .ok (.ifCond .eq 7, 3) := by decide +kernel
theorem d_rmb8_28 : decode method_2_code 28 = .ok (.iconst 1, 1) := by decide +kernel
theorem d_rmb8_29 : decode method_2_code 29 = .ok (.goto 4, 3) := by decide +kernel
theorem d_rmb8_32 : decode method_2_code 32 = .ok (.iconst 0, 1) := by decide +kernel
theorem d_rmb8_33 : decode method_2_code 33 = .ok (.ireturn, 1) := by decide +kernel
theorem pn_rmb8 : plainName "com/example/paddlefish/paddlefish/OperatorApplyPinLaw" = true := by first | (simp [plainName, overriddenIn]; done) | decide +kernel
theorem ef_rmb8 (m : MethodId) (p2 : Int32) (p3 : Int32) : entryFrame m #[(.int (8 : Int32)), (.int p2), (.int p3)] 4 = mkF m 0 #[.val (.int (8 : Int32)), .val (.int p2), .val (.int p3), .unset] [] := by first | (simp [entryFrame, mkF, argsToLocals, Value.category]; done) | rfl
def Q_rmb8 (Z : State) (p2 : Int32) (p3 : Int32) (h0 : Heap) (n0 : Nat) (v : Option Value) (h : Heap) (L : List Loc) : Prop := ∃ (r : Int32), v = some (.int r) ∧ Fr n0 L ∧ h = h0 ∧ (r = p2 &&& p3)
set_option maxRecDepth 65536 in
set_option maxHeartbeats 40000000 in
theorem rmb8 (l : Launch) (Z : State) (a0 : Array Value) (hw : ∀ d ∈ tables_1, d.before a0 Z = true) (ws : List Jvm.Cond) (p2 : Int32) (p3 : Int32) (h0 : Heap) (n0 : Nat) (Z0 : n0 ≤ h0.size) (B2 : p2 = 0 ∨ p2 = 1) (B3 : p3 = 0 ∨ p3 = 1) :
    MetFree l (⟨"com/example/paddlefish/paddlefish/OperatorApplyPinLaw", "bit", "(IZZ)Z"⟩ : MethodName) (head1 (Jvm.Cond.code (⟨"com/example/paddlefish/paddlefish/OperatorApplyPinLaw", "bit", "(IZZ)Z"⟩ : MethodName) method_2_code 4 (some .boolean) :: ws) ({ frames := 0, cells := 0, slots := 0, locals := 0 } : Room)) (fun a U => a = #[(.int (8 : Int32)), (.int p2), (.int p3)] ∧ Z.Warmed39 U.vm ∧ U.heap = h0) (fun _ _ _ _ _ => True) (fun _ U o U' => ∃ v L, o = .returned v ∧ Q_rmb8 Z p2 p3 h0 n0 v U'.heap L ∧ FrameEnd U o U' L ({ frames := 0, cells := 0, slots := 0, locals := 0 } : Room).cells ({ frames := 0, cells := 0, slots := 0, locals := 0 } : Room).slots) := by
  refine MetFree.of_bodySF (plainFor_of_name pn_rmb8) hisR ?_
  intro p e s m args_ below meth c s₁ Bd hml0 hP hK
  obtain ⟨hargs, hZ, hh⟩ := hP
  have hx := Bd.exec
  have hby := Bd.bytes
  have hml : c.maxLocals = 4 := hml0
  have hown : s.vm.findClass "com/example/paddlefish/paddlefish/OperatorApplyPinLaw" = some m.cls := findClass_of_methodNamed Bd.named
  have hnm := (name_of_methodNamed Bd.named Bd.method).1
  have X0 : Stand p l e ({ frames := 0, cells := 0, slots := 0, locals := 0 } : Room) s m args_ below meth c s₁ [] 0 0 := Stand.of_body Bd
  have e0 : s₁.heap = h0 := by rw [← hh, Bd.state]; rfl
  have N0 := Fr.nil n0
  have hv : ∀ (i : Nat) {d : Jvm.Cond}, tables_1[i]? = some d → d.before a0 Z = true := fun i d q => hw d (List.mem_of_getElem? q)
  have k0 : Go p e below m (s₁.setTop (entryFrame m args_ 4)) s₁ 0 #[.val (.int (8 : Int32)), .val (.int p2), .val (.int p3), .unset] [] := by rw [hargs]; exact fun t kt => castTop (ef_rmb8 m p2 p3) kt
  obtain ⟨W, hWW⟩ : ∃ W, W = s₁.setTop (entryFrame m args_ 4) := ⟨_, rfl⟩
  rw [← hWW] at k0 ⊢
  show Done p e below s W (Q_rmb8 Z p2 p3 h0 n0) ({ frames := 0, cells := 0, slots := 0, locals := 0 } : Room).cells ({ frames := 0, cells := 0, slots := 0, locals := 0 } : Room).slots
  rcases B2 with q1 | q2
  ·
    subst p2
    rcases B3 with q3 | q4
    ·
      subst p3
      have k5 : Go p e below m W s₁ 20 #[.val (.int (8 : Int32)), .val (.int (0 : Int32)), .val (.int (0 : Int32)), .val (.int (0 : Int32))] [] := ((((((((k0.iloadN X0 hx (hb hby d_rmb8_0) rfl).ifYes X0 hx (hb hby d_rmb8_1) (XT.i0_eq_t (by decide)) (by decide) (by decide)).iconst X0 hx (hb hby d_rmb8_8) (v := (0 : Int32)) rfl).iloadN X0 hx (hb hby d_rmb8_9) rfl).ifYes X0 hx (hb hby d_rmb8_10) (XT.i0_eq_t (by decide)) (by decide) (by decide)).iconst X0 hx (hb hby d_rmb8_17) (v := (0 : Int32)) rfl).iadd X0 hx (hb hby d_rmb8_18)).cast (y := (0 : Int32)) (by decide)).istoreN X0 hx (hb hby d_rmb8_19) rfl
      have k6 : Go p e below m W s₁ 33 #[.val (.int (8 : Int32)), .val (.int (0 : Int32)), .val (.int (0 : Int32)), .val (.int (0 : Int32))] [(.int (0 : Int32))] := ((((((((k5.iloadN X0 hx (hb hby d_rmb8_20) rfl).iloadN X0 hx (hb hby d_rmb8_21) rfl).ishr X0 hx (hb hby d_rmb8_22)).cast (y := (8 : Int32)) (by decide)).iconst X0 hx (hb hby d_rmb8_23) (v := (1 : Int32)) rfl).iand X0 hx (hb hby d_rmb8_24)).cast (y := (0 : Int32)) (by decide)).ifYes X0 hx (hb hby d_rmb8_25) (XT.i0_eq_t (by decide)) (by decide) (by decide)).iconst X0 hx (hb hby d_rmb8_32) (v := (0 : Int32)) rfl
      exact k6.ireturnN X0 hx (t := .boolean) Bd.returns (by simp) rfl (hb hby d_rmb8_33) (BodyLoose.notSynchronized Bd) (by rw [e0]; exact ⟨(0 : Int32), rfl, N0, rfl, (by decide)⟩) (by decide) (by decide)
    ·
      subst p3
      have k7 : Go p e below m W s₁ 20 #[.val (.int (8 : Int32)), .val (.int (0 : Int32)), .val (.int (1 : Int32)), .val (.int (1 : Int32))] [] := (((((((((k0.iloadN X0 hx (hb hby d_rmb8_0) rfl).ifYes X0 hx (hb hby d_rmb8_1) (XT.i0_eq_t (by decide)) (by decide) (by decide)).iconst X0 hx (hb hby d_rmb8_8) (v := (0 : Int32)) rfl).iloadN X0 hx (hb hby d_rmb8_9) rfl).ifNo X0 hx (hb hby d_rmb8_10) (XT.i0_eq_f (by decide))).iconst X0 hx (hb hby d_rmb8_13) (v := (1 : Int32)) rfl).goto X0 hx (hb hby d_rmb8_14) (by decide) (by decide)).iadd X0 hx (hb hby d_rmb8_18)).cast (y := (1 : Int32)) (by decide)).istoreN X0 hx (hb hby d_rmb8_19) rfl
      have k8 : Go p e below m W s₁ 33 #[.val (.int (8 : Int32)), .val (.int (0 : Int32)), .val (.int (1 : Int32)), .val (.int (1 : Int32))] [(.int (0 : Int32))] := ((((((((k7.iloadN X0 hx (hb hby d_rmb8_20) rfl).iloadN X0 hx (hb hby d_rmb8_21) rfl).ishr X0 hx (hb hby d_rmb8_22)).cast (y := (4 : Int32)) (by decide)).iconst X0 hx (hb hby d_rmb8_23) (v := (1 : Int32)) rfl).iand X0 hx (hb hby d_rmb8_24)).cast (y := (0 : Int32)) (by decide)).ifYes X0 hx (hb hby d_rmb8_25) (XT.i0_eq_t (by decide)) (by decide) (by decide)).iconst X0 hx (hb hby d_rmb8_32) (v := (0 : Int32)) rfl
      exact k8.ireturnN X0 hx (t := .boolean) Bd.returns (by simp) rfl (hb hby d_rmb8_33) (BodyLoose.notSynchronized Bd) (by rw [e0]; exact ⟨(0 : Int32), rfl, N0, rfl, (by decide)⟩) (by decide) (by decide)
  ·
    subst p2
    rcases B3 with q9 | q10
    ·
      subst p3
      have k11 : Go p e below m W s₁ 20 #[.val (.int (8 : Int32)), .val (.int (1 : Int32)), .val (.int (0 : Int32)), .val (.int (2 : Int32))] [] := (((((((((k0.iloadN X0 hx (hb hby d_rmb8_0) rfl).ifNo X0 hx (hb hby d_rmb8_1) (XT.i0_eq_f (by decide))).iconst X0 hx (hb hby d_rmb8_4) (v := (2 : Int32)) rfl).goto X0 hx (hb hby d_rmb8_5) (by decide) (by decide)).iloadN X0 hx (hb hby d_rmb8_9) rfl).ifYes X0 hx (hb hby d_rmb8_10) (XT.i0_eq_t (by decide)) (by decide) (by decide)).iconst X0 hx (hb hby d_rmb8_17) (v := (0 : Int32)) rfl).iadd X0 hx (hb hby d_rmb8_18)).cast (y := (2 : Int32)) (by decide)).istoreN X0 hx (hb hby d_rmb8_19) rfl
      have k12 : Go p e below m W s₁ 33 #[.val (.int (8 : Int32)), .val (.int (1 : Int32)), .val (.int (0 : Int32)), .val (.int (2 : Int32))] [(.int (0 : Int32))] := ((((((((k11.iloadN X0 hx (hb hby d_rmb8_20) rfl).iloadN X0 hx (hb hby d_rmb8_21) rfl).ishr X0 hx (hb hby d_rmb8_22)).cast (y := (2 : Int32)) (by decide)).iconst X0 hx (hb hby d_rmb8_23) (v := (1 : Int32)) rfl).iand X0 hx (hb hby d_rmb8_24)).cast (y := (0 : Int32)) (by decide)).ifYes X0 hx (hb hby d_rmb8_25) (XT.i0_eq_t (by decide)) (by decide) (by decide)).iconst X0 hx (hb hby d_rmb8_32) (v := (0 : Int32)) rfl
      exact k12.ireturnN X0 hx (t := .boolean) Bd.returns (by simp) rfl (hb hby d_rmb8_33) (BodyLoose.notSynchronized Bd) (by rw [e0]; exact ⟨(0 : Int32), rfl, N0, rfl, (by decide)⟩) (by decide) (by decide)
    ·
      subst p3
      have k13 : Go p e below m W s₁ 19 #[.val (.int (8 : Int32)), .val (.int (1 : Int32)), .val (.int (1 : Int32)), .unset] [(.int (3 : Int32))] := (((((((((k0.iloadN X0 hx (hb hby d_rmb8_0) rfl).ifNo X0 hx (hb hby d_rmb8_1) (XT.i0_eq_f (by decide))).iconst X0 hx (hb hby d_rmb8_4) (v := (2 : Int32)) rfl).goto X0 hx (hb hby d_rmb8_5) (by decide) (by decide)).iloadN X0 hx (hb hby d_rmb8_9) rfl).ifNo X0 hx (hb hby d_rmb8_10) (XT.i0_eq_f (by decide))).iconst X0 hx (hb hby d_rmb8_13) (v := (1 : Int32)) rfl).goto X0 hx (hb hby d_rmb8_14) (by decide) (by decide)).iadd X0 hx (hb hby d_rmb8_18)).cast (y := (3 : Int32)) (by decide)
      have k14 : Go p e below m W s₁ 20 #[.val (.int (8 : Int32)), .val (.int (1 : Int32)), .val (.int (1 : Int32)), .val (.int (3 : Int32))] [] := k13.istoreN X0 hx (hb hby d_rmb8_19) rfl
      have k15 : Go p e below m W s₁ 33 #[.val (.int (8 : Int32)), .val (.int (1 : Int32)), .val (.int (1 : Int32)), .val (.int (3 : Int32))] [(.int (1 : Int32))] := (((((((((k14.iloadN X0 hx (hb hby d_rmb8_20) rfl).iloadN X0 hx (hb hby d_rmb8_21) rfl).ishr X0 hx (hb hby d_rmb8_22)).cast (y := (1 : Int32)) (by decide)).iconst X0 hx (hb hby d_rmb8_23) (v := (1 : Int32)) rfl).iand X0 hx (hb hby d_rmb8_24)).cast (y := (1 : Int32)) (by decide)).ifNo X0 hx (hb hby d_rmb8_25) (XT.i0_eq_f (by decide))).iconst X0 hx (hb hby d_rmb8_28) (v := (1 : Int32)) rfl).goto X0 hx (hb hby d_rmb8_29) (by decide) (by decide)
      exact k15.ireturnN X0 hx (t := .boolean) Bd.returns (by simp) rfl (hb hby d_rmb8_33) (BodyLoose.notSynchronized Bd) (by rw [e0]; exact ⟨(1 : Int32), rfl, N0, rfl, (by decide)⟩) (by decide) (by decide)

theorem d_rmb9_0 : decode method_2_code 0 = .ok (.iload_n 1, 1) := by decide +kernel
theorem d_rmb9_1 : decode method_2_code 1 = .ok (.ifCond .eq 7, 3) := by decide +kernel
theorem d_rmb9_4 : decode method_2_code 4 = .ok (.iconst 2, 1) := by decide +kernel
theorem d_rmb9_5 : decode method_2_code 5 = .ok (.goto 4, 3) := by decide +kernel
theorem d_rmb9_8 : decode method_2_code 8 = .ok (.iconst 0, 1) := by decide +kernel
theorem d_rmb9_9 : decode method_2_code 9 = .ok (.iload_n 2, 1) := by decide +kernel
theorem d_rmb9_10 : decode method_2_code 10 = .ok (.ifCond .eq 7, 3) := by decide +kernel
theorem d_rmb9_13 : decode method_2_code 13 = .ok (.iconst 1, 1) := by decide +kernel
theorem d_rmb9_14 : decode method_2_code 14 = .ok (.goto 4, 3) := by decide +kernel
theorem d_rmb9_17 : decode method_2_code 17 = .ok (.iconst 0, 1) := by decide +kernel
theorem d_rmb9_18 : decode method_2_code 18 = .ok (.iadd, 1) := by decide +kernel
theorem d_rmb9_19 : decode method_2_code 19 = .ok (.istore_n 3, 1) := by decide +kernel
theorem d_rmb9_20 : decode method_2_code 20 = .ok (.iload_n 0, 1) := by decide +kernel
theorem d_rmb9_21 : decode method_2_code 21 = .ok (.iload_n 3, 1) := by decide +kernel
theorem d_rmb9_22 : decode method_2_code 22 = .ok (.ishr, 1) := by decide +kernel
theorem d_rmb9_23 : decode method_2_code 23 = .ok (.iconst 1, 1) := by decide +kernel
theorem d_rmb9_24 : decode method_2_code 24 = .ok (.iand, 1) := by decide +kernel
theorem d_rmb9_25 : decode method_2_code 25 = .ok (.ifCond .eq 7, 3) := by decide +kernel
theorem d_rmb9_28 : decode method_2_code 28 = .ok (.iconst 1, 1) := by decide +kernel
theorem d_rmb9_29 : decode method_2_code 29 = .ok (.goto 4, 3) := by decide +kernel
theorem d_rmb9_32 : decode method_2_code 32 = .ok (.iconst 0, 1) := by decide +kernel
theorem d_rmb9_33 : decode method_2_code 33 = .ok (.ireturn, 1) := by decide +kernel
theorem pn_rmb9 : plainName "com/example/paddlefish/paddlefish/OperatorApplyPinLaw" = true := by first | (simp [plainName, overriddenIn]; done) | decide +kernel
theorem ef_rmb9 (m : MethodId) (p2 : Int32) (p3 : Int32) : entryFrame m #[(.int (9 : Int32)), (.int p2), (.int p3)] 4 = mkF m 0 #[.val (.int (9 : Int32)), .val (.int p2), .val (.int p3), .unset] [] := by first | (simp [entryFrame, mkF, argsToLocals, Value.category]; done) | rfl
def Q_rmb9 (Z : State) (p2 : Int32) (p3 : Int32) (h0 : Heap) (n0 : Nat) (v : Option Value) (h : Heap) (L : List Loc) : Prop := ∃ (r : Int32), v = some (.int r) ∧ Fr n0 L ∧ h = h0 ∧ (r = (p2 ^^^ p3) ^^^ 1)
set_option maxRecDepth 65536 in
set_option maxHeartbeats 40000000 in
theorem rmb9 (l : Launch) (Z : State) (a0 : Array Value) (hw : ∀ d ∈ tables_1, d.before a0 Z = true) (ws : List Jvm.Cond) (p2 : Int32) (p3 : Int32) (h0 : Heap) (n0 : Nat) (Z0 : n0 ≤ h0.size) (B2 : p2 = 0 ∨ p2 = 1) (B3 : p3 = 0 ∨ p3 = 1) :
    MetFree l (⟨"com/example/paddlefish/paddlefish/OperatorApplyPinLaw", "bit", "(IZZ)Z"⟩ : MethodName) (head1 (Jvm.Cond.code (⟨"com/example/paddlefish/paddlefish/OperatorApplyPinLaw", "bit", "(IZZ)Z"⟩ : MethodName) method_2_code 4 (some .boolean) :: ws) ({ frames := 0, cells := 0, slots := 0, locals := 0 } : Room)) (fun a U => a = #[(.int (9 : Int32)), (.int p2), (.int p3)] ∧ Z.Warmed39 U.vm ∧ U.heap = h0) (fun _ _ _ _ _ => True) (fun _ U o U' => ∃ v L, o = .returned v ∧ Q_rmb9 Z p2 p3 h0 n0 v U'.heap L ∧ FrameEnd U o U' L ({ frames := 0, cells := 0, slots := 0, locals := 0 } : Room).cells ({ frames := 0, cells := 0, slots := 0, locals := 0 } : Room).slots) := by
  refine MetFree.of_bodySF (plainFor_of_name pn_rmb9) hisR ?_
  intro p e s m args_ below meth c s₁ Bd hml0 hP hK
  obtain ⟨hargs, hZ, hh⟩ := hP
  have hx := Bd.exec
  have hby := Bd.bytes
  have hml : c.maxLocals = 4 := hml0
  have hown : s.vm.findClass "com/example/paddlefish/paddlefish/OperatorApplyPinLaw" = some m.cls := findClass_of_methodNamed Bd.named
  have hnm := (name_of_methodNamed Bd.named Bd.method).1
  have X0 : Stand p l e ({ frames := 0, cells := 0, slots := 0, locals := 0 } : Room) s m args_ below meth c s₁ [] 0 0 := Stand.of_body Bd
  have e0 : s₁.heap = h0 := by rw [← hh, Bd.state]; rfl
  have N0 := Fr.nil n0
  have hv : ∀ (i : Nat) {d : Jvm.Cond}, tables_1[i]? = some d → d.before a0 Z = true := fun i d q => hw d (List.mem_of_getElem? q)
  have k0 : Go p e below m (s₁.setTop (entryFrame m args_ 4)) s₁ 0 #[.val (.int (9 : Int32)), .val (.int p2), .val (.int p3), .unset] [] := by rw [hargs]; exact fun t kt => castTop (ef_rmb9 m p2 p3) kt
  obtain ⟨W, hWW⟩ : ∃ W, W = s₁.setTop (entryFrame m args_ 4) := ⟨_, rfl⟩
  rw [← hWW] at k0 ⊢
  show Done p e below s W (Q_rmb9 Z p2 p3 h0 n0) ({ frames := 0, cells := 0, slots := 0, locals := 0 } : Room).cells ({ frames := 0, cells := 0, slots := 0, locals := 0 } : Room).slots
  rcases B2 with q1 | q2
  ·
    subst p2
    rcases B3 with q3 | q4
    ·
      subst p3
      have k5 : Go p e below m W s₁ 20 #[.val (.int (9 : Int32)), .val (.int (0 : Int32)), .val (.int (0 : Int32)), .val (.int (0 : Int32))] [] := ((((((((k0.iloadN X0 hx (hb hby d_rmb9_0) rfl).ifYes X0 hx (hb hby d_rmb9_1) (XT.i0_eq_t (by decide)) (by decide) (by decide)).iconst X0 hx (hb hby d_rmb9_8) (v := (0 : Int32)) rfl).iloadN X0 hx (hb hby d_rmb9_9) rfl).ifYes X0 hx (hb hby d_rmb9_10) (XT.i0_eq_t (by decide)) (by decide) (by decide)).iconst X0 hx (hb hby d_rmb9_17) (v := (0 : Int32)) rfl).iadd X0 hx (hb hby d_rmb9_18)).cast (y := (0 : Int32)) (by decide)).istoreN X0 hx (hb hby d_rmb9_19) rfl
      have k6 : Go p e below m W s₁ 33 #[.val (.int (9 : Int32)), .val (.int (0 : Int32)), .val (.int (0 : Int32)), .val (.int (0 : Int32))] [(.int (1 : Int32))] := (((((((((k5.iloadN X0 hx (hb hby d_rmb9_20) rfl).iloadN X0 hx (hb hby d_rmb9_21) rfl).ishr X0 hx (hb hby d_rmb9_22)).cast (y := (9 : Int32)) (by decide)).iconst X0 hx (hb hby d_rmb9_23) (v := (1 : Int32)) rfl).iand X0 hx (hb hby d_rmb9_24)).cast (y := (1 : Int32)) (by decide)).ifNo X0 hx (hb hby d_rmb9_25) (XT.i0_eq_f (by decide))).iconst X0 hx (hb hby d_rmb9_28) (v := (1 : Int32)) rfl).goto X0 hx (hb hby d_rmb9_29) (by decide) (by decide)
      exact k6.ireturnN X0 hx (t := .boolean) Bd.returns (by simp) rfl (hb hby d_rmb9_33) (BodyLoose.notSynchronized Bd) (by rw [e0]; exact ⟨(1 : Int32), rfl, N0, rfl, (by decide)⟩) (by decide) (by decide)
    ·
      subst p3
      have k7 : Go p e below m W s₁ 20 #[.val (.int (9 : Int32)), .val (.int (0 : Int32)), .val (.int (1 : Int32)), .val (.int (1 : Int32))] [] := (((((((((k0.iloadN X0 hx (hb hby d_rmb9_0) rfl).ifYes X0 hx (hb hby d_rmb9_1) (XT.i0_eq_t (by decide)) (by decide) (by decide)).iconst X0 hx (hb hby d_rmb9_8) (v := (0 : Int32)) rfl).iloadN X0 hx (hb hby d_rmb9_9) rfl).ifNo X0 hx (hb hby d_rmb9_10) (XT.i0_eq_f (by decide))).iconst X0 hx (hb hby d_rmb9_13) (v := (1 : Int32)) rfl).goto X0 hx (hb hby d_rmb9_14) (by decide) (by decide)).iadd X0 hx (hb hby d_rmb9_18)).cast (y := (1 : Int32)) (by decide)).istoreN X0 hx (hb hby d_rmb9_19) rfl
      have k8 : Go p e below m W s₁ 33 #[.val (.int (9 : Int32)), .val (.int (0 : Int32)), .val (.int (1 : Int32)), .val (.int (1 : Int32))] [(.int (0 : Int32))] := ((((((((k7.iloadN X0 hx (hb hby d_rmb9_20) rfl).iloadN X0 hx (hb hby d_rmb9_21) rfl).ishr X0 hx (hb hby d_rmb9_22)).cast (y := (4 : Int32)) (by decide)).iconst X0 hx (hb hby d_rmb9_23) (v := (1 : Int32)) rfl).iand X0 hx (hb hby d_rmb9_24)).cast (y := (0 : Int32)) (by decide)).ifYes X0 hx (hb hby d_rmb9_25) (XT.i0_eq_t (by decide)) (by decide) (by decide)).iconst X0 hx (hb hby d_rmb9_32) (v := (0 : Int32)) rfl
      exact k8.ireturnN X0 hx (t := .boolean) Bd.returns (by simp) rfl (hb hby d_rmb9_33) (BodyLoose.notSynchronized Bd) (by rw [e0]; exact ⟨(0 : Int32), rfl, N0, rfl, (by decide)⟩) (by decide) (by decide)
  ·
    subst p2
    rcases B3 with q9 | q10
    ·
      subst p3
      have k11 : Go p e below m W s₁ 20 #[.val (.int (9 : Int32)), .val (.int (1 : Int32)), .val (.int (0 : Int32)), .val (.int (2 : Int32))] [] := (((((((((k0.iloadN X0 hx (hb hby d_rmb9_0) rfl).ifNo X0 hx (hb hby d_rmb9_1) (XT.i0_eq_f (by decide))).iconst X0 hx (hb hby d_rmb9_4) (v := (2 : Int32)) rfl).goto X0 hx (hb hby d_rmb9_5) (by decide) (by decide)).iloadN X0 hx (hb hby d_rmb9_9) rfl).ifYes X0 hx (hb hby d_rmb9_10) (XT.i0_eq_t (by decide)) (by decide) (by decide)).iconst X0 hx (hb hby d_rmb9_17) (v := (0 : Int32)) rfl).iadd X0 hx (hb hby d_rmb9_18)).cast (y := (2 : Int32)) (by decide)).istoreN X0 hx (hb hby d_rmb9_19) rfl
      have k12 : Go p e below m W s₁ 33 #[.val (.int (9 : Int32)), .val (.int (1 : Int32)), .val (.int (0 : Int32)), .val (.int (2 : Int32))] [(.int (0 : Int32))] := ((((((((k11.iloadN X0 hx (hb hby d_rmb9_20) rfl).iloadN X0 hx (hb hby d_rmb9_21) rfl).ishr X0 hx (hb hby d_rmb9_22)).cast (y := (2 : Int32)) (by decide)).iconst X0 hx (hb hby d_rmb9_23) (v := (1 : Int32)) rfl).iand X0 hx (hb hby d_rmb9_24)).cast (y := (0 : Int32)) (by decide)).ifYes X0 hx (hb hby d_rmb9_25) (XT.i0_eq_t (by decide)) (by decide) (by decide)).iconst X0 hx (hb hby d_rmb9_32) (v := (0 : Int32)) rfl
      exact k12.ireturnN X0 hx (t := .boolean) Bd.returns (by simp) rfl (hb hby d_rmb9_33) (BodyLoose.notSynchronized Bd) (by rw [e0]; exact ⟨(0 : Int32), rfl, N0, rfl, (by decide)⟩) (by decide) (by decide)
    ·
      subst p3
      have k13 : Go p e below m W s₁ 19 #[.val (.int (9 : Int32)), .val (.int (1 : Int32)), .val (.int (1 : Int32)), .unset] [(.int (3 : Int32))] := (((((((((k0.iloadN X0 hx (hb hby d_rmb9_0) rfl).ifNo X0 hx (hb hby d_rmb9_1) (XT.i0_eq_f (by decide))).iconst X0 hx (hb hby d_rmb9_4) (v := (2 : Int32)) rfl).goto X0 hx (hb hby d_rmb9_5) (by decide) (by decide)).iloadN X0 hx (hb hby d_rmb9_9) rfl).ifNo X0 hx (hb hby d_rmb9_10) (XT.i0_eq_f (by decide))).iconst X0 hx (hb hby d_rmb9_13) (v := (1 : Int32)) rfl).goto X0 hx (hb hby d_rmb9_14) (by decide) (by decide)).iadd X0 hx (hb hby d_rmb9_18)).cast (y := (3 : Int32)) (by decide)
      have k14 : Go p e below m W s₁ 20 #[.val (.int (9 : Int32)), .val (.int (1 : Int32)), .val (.int (1 : Int32)), .val (.int (3 : Int32))] [] := k13.istoreN X0 hx (hb hby d_rmb9_19) rfl
      have k15 : Go p e below m W s₁ 33 #[.val (.int (9 : Int32)), .val (.int (1 : Int32)), .val (.int (1 : Int32)), .val (.int (3 : Int32))] [(.int (1 : Int32))] := (((((((((k14.iloadN X0 hx (hb hby d_rmb9_20) rfl).iloadN X0 hx (hb hby d_rmb9_21) rfl).ishr X0 hx (hb hby d_rmb9_22)).cast (y := (1 : Int32)) (by decide)).iconst X0 hx (hb hby d_rmb9_23) (v := (1 : Int32)) rfl).iand X0 hx (hb hby d_rmb9_24)).cast (y := (1 : Int32)) (by decide)).ifNo X0 hx (hb hby d_rmb9_25) (XT.i0_eq_f (by decide))).iconst X0 hx (hb hby d_rmb9_28) (v := (1 : Int32)) rfl).goto X0 hx (hb hby d_rmb9_29) (by decide) (by decide)
      exact k15.ireturnN X0 hx (t := .boolean) Bd.returns (by simp) rfl (hb hby d_rmb9_33) (BodyLoose.notSynchronized Bd) (by rw [e0]; exact ⟨(1 : Int32), rfl, N0, rfl, (by decide)⟩) (by decide) (by decide)

theorem d_rma0_0 : decode prog_6_method_6_code 0 = .ok (.aload_n 0, 1) := by decide +kernel
theorem d_rma0_1 : decode prog_6_method_6_code 1 = .ok (.invokevirtual 46, 3) := by decide +kernel
theorem d_rma0_4 : decode prog_6_method_6_code 4 = .ok (.tableswitch 36 0 4 #[46, 62, 75, 91, 62], 36) := by decide +kernel
theorem d_rma0_50 : decode prog_6_method_6_code 50 = .ok (.iload_n 1, 1) := by decide +kernel
theorem d_rma0_51 : decode prog_6_method_6_code 51 = .ok (.ifCond .ne 7, 3) := by decide +kernel
theorem d_rma0_54 : decode prog_6_method_6_code 54 = .ok (.iload_n 2, 1) := by decide +kernel
theorem d_rma0_55 : decode prog_6_method_6_code 55 = .ok (.ifCond .eq 7, 3) := by decide +kernel
theorem d_rma0_58 : decode prog_6_method_6_code 58 = .ok (.iconst 1, 1) := by decide +kernel
theorem d_rma0_59 : decode prog_6_method_6_code 59 = .ok (.goto 46, 3) := by decide +kernel
theorem d_rma0_62 : decode prog_6_method_6_code 62 = .ok (.iconst 0, 1) := by decide +kernel
theorem d_rma0_63 : decode prog_6_method_6_code 63 = .ok (.goto 42, 3) := by decide +kernel
theorem d_rma0_105 : decode prog_6_method_6_code 105 = .ok (.ireturn, 1) := by decide +kernel
theorem pn_rma0 : plainName "com/example/paddlefish/paddlefish/BooleanExpression$Operator" = true := by first | (simp [plainName, overriddenIn]; done) | decide +kernel
theorem pd_rma0_0 : parseMethodDescriptor "()I" = some ⟨[], (some .int)⟩ := by decide +kernel
theorem ef_rma0 (m : MethodId) (a1 : Addr) (p2 : Int32) (p3 : Int32) : entryFrame m #[(.ref a1), (.int p2), (.int p3)] 3 = mkF m 0 #[.val (.ref a1), .val (.int p2), .val (.int p3)] [] := by first | (simp [entryFrame, mkF, argsToLocals, Value.category]; done) | rfl
def Q_rma0 (Z : State) (a1 : Addr) (p2 : Int32) (p3 : Int32) (h0 : Heap) (n0 : Nat) (v : Option Value) (h : Heap) (L : List Loc) : Prop := ∃ (r : Int32), v = some (.int r) ∧ Fr n0 L ∧ h = h0 ∧ (r = p2 ||| p3)
set_option maxRecDepth 65536 in
set_option maxHeartbeats 40000000 in
theorem rma0 (l : Launch) (Z : State) (a0 : Array Value) (hw : ∀ d ∈ tables_1, d.before a0 Z = true) (ws : List Jvm.Cond) (a1 : Addr) (p2 : Int32) (p3 : Int32) (h0 : Heap) (n0 : Nat) (Z0 : n0 ≤ h0.size) (F1 : Fld Z h0 a1 "java/lang/Enum" "ordinal" "I" (.int (0 : Int32))) (E1 : Exa Z h0 a1 "com/example/paddlefish/paddlefish/BooleanExpression$Operator") (B2 : p2 = 0 ∨ p2 = 1) (B3 : p3 = 0 ∨ p3 = 1) :
    MetFree l (⟨"com/example/paddlefish/paddlefish/BooleanExpression$Operator", "apply", "(ZZ)Z"⟩ : MethodName) (head1 (Jvm.Cond.code (⟨"com/example/paddlefish/paddlefish/BooleanExpression$Operator", "apply", "(ZZ)Z"⟩ : MethodName) prog_6_method_6_code 3 (some .boolean) :: ws) ({ frames := 1, cells := 0, slots := 0, locals := 12 } : Room)) (fun a U => a = #[(.ref a1), (.int p2), (.int p3)] ∧ Z.Warmed39 U.vm ∧ U.heap = h0) (fun _ _ _ _ _ => True) (fun _ U o U' => ∃ v L, o = .returned v ∧ Q_rma0 Z a1 p2 p3 h0 n0 v U'.heap L ∧ FrameEnd U o U' L ({ frames := 1, cells := 0, slots := 0, locals := 12 } : Room).cells ({ frames := 1, cells := 0, slots := 0, locals := 12 } : Room).slots) := by
  refine MetFree.of_bodySF (plainFor_of_name pn_rma0) hisR ?_
  intro p e s m args_ below meth c s₁ Bd hml0 hP hK
  obtain ⟨hargs, hZ, hh⟩ := hP
  have hx := Bd.exec
  have hby := Bd.bytes
  have hml : c.maxLocals = 3 := hml0
  have hown : s.vm.findClass "com/example/paddlefish/paddlefish/BooleanExpression$Operator" = some m.cls := findClass_of_methodNamed Bd.named
  have hnm := (name_of_methodNamed Bd.named Bd.method).1
  have X0 : Stand p l e ({ frames := 1, cells := 0, slots := 0, locals := 12 } : Room) s m args_ below meth c s₁ [] 0 0 := Stand.of_body Bd
  have e0 : s₁.heap = h0 := by rw [← hh, Bd.state]; rfl
  have N0 := Fr.nil n0
  have hv : ∀ (i : Nat) {d : Jvm.Cond}, tables_1[i]? = some d → d.before a0 Z = true := fun i d q => hw d (List.mem_of_getElem? q)
  have k0 : Go p e below m (s₁.setTop (entryFrame m args_ 3)) s₁ 0 #[.val (.ref a1), .val (.int p2), .val (.int p3)] [] := by rw [hargs]; exact fun t kt => castTop (ef_rma0 m a1 p2 p3) kt
  obtain ⟨W, hWW⟩ : ∃ W, W = s₁.setTop (entryFrame m args_ 3) := ⟨_, rfl⟩
  rw [← hWW] at k0 ⊢
  show Done p e below s W (Q_rma0 Z a1 p2 p3 h0 n0) ({ frames := 1, cells := 0, slots := 0, locals := 12 } : Room).cells ({ frames := 1, cells := 0, slots := 0, locals := 12 } : Room).slots
  rcases B2 with q1 | q2
  ·
    subst p2
    rcases B3 with q3 | q4
    ·
      subst p3
      have k5 : Go p e below m W s₁ 1 #[.val (.ref a1), .val (.int (0 : Int32)), .val (.int (0 : Int32))] [(.ref a1)] := k0.aloadN X0 hx (hb hby d_rma0_0) rfl rfl
      obtain ⟨T6, v6, L6, X6, Q6, k6⟩ := k5.virtUp (y := (⟨"com/example/paddlefish/paddlefish/BooleanExpression$Operator", "ordinal", "()I"⟩ : MethodName)) (z := (⟨"java/lang/Enum", "ordinal", "()I"⟩ : MethodName)) (owner := "java/lang/Enum") (Wd := 0) (cells' := 0) (slots' := 0) (argsL := []) (rest := []) X0 hx hZ hown (by rw [hml]; rfl) (hv 13 rfl) (hv 14 rfl) (hv 15 rfl) (hv 17 rfl) (hv 16 rfl) (hv 19 rfl) (hv 18 rfl) (hb hby d_rma0_1) (by decide) (rmo l Z a0 hw [] a1 (0 : Int32) h0 n0 Z0 F1) e0 E1 rfl rfl pd_rma0_0 rfl (Nat.le_of_eq rfl) (by decide) (by decide) rfl rfl (by decide) (by decide)
      obtain ⟨rfl, Nq6, e6q⟩ := Q6
      have N6 := Fr.app N0 Nq6
      have e6 : T6.heap = h0 := e6q
      have k6 : Go p e below m W T6 4 #[.val (.ref a1), .val (.int (0 : Int32)), .val (.int (0 : Int32))] [(.int (0 : Int32))] := k6
      have k7 : Go p e below m W T6 105 #[.val (.ref a1), .val (.int (0 : Int32)), .val (.int (0 : Int32))] [(.int (0 : Int32))] := ((((((k6.tsw X6 hx (hb hby d_rma0_4) (by decide) (o := 46) (by decide) (by decide) (by decide)).iloadN X6 hx (hb hby d_rma0_50) rfl).ifNo X6 hx (hb hby d_rma0_51) (XT.i0_ne_f (by decide))).iloadN X6 hx (hb hby d_rma0_54) rfl).ifYes X6 hx (hb hby d_rma0_55) (XT.i0_eq_t (by decide)) (by decide) (by decide)).iconst X6 hx (hb hby d_rma0_62) (v := (0 : Int32)) rfl).goto X6 hx (hb hby d_rma0_63) (by decide) (by decide)
      exact k7.ireturnN X6 hx (t := .boolean) Bd.returns (by simp) rfl (hb hby d_rma0_105) (BodyLoose.notSynchronized Bd) (by rw [e6]; exact ⟨(0 : Int32), rfl, N6, rfl, (by decide)⟩) (by decide) (by decide)
    ·
      subst p3
      have k8 : Go p e below m W s₁ 1 #[.val (.ref a1), .val (.int (0 : Int32)), .val (.int (1 : Int32))] [(.ref a1)] := k0.aloadN X0 hx (hb hby d_rma0_0) rfl rfl
      obtain ⟨T9, v9, L9, X9, Q9, k9⟩ := k8.virtUp (y := (⟨"com/example/paddlefish/paddlefish/BooleanExpression$Operator", "ordinal", "()I"⟩ : MethodName)) (z := (⟨"java/lang/Enum", "ordinal", "()I"⟩ : MethodName)) (owner := "java/lang/Enum") (Wd := 0) (cells' := 0) (slots' := 0) (argsL := []) (rest := []) X0 hx hZ hown (by rw [hml]; rfl) (hv 13 rfl) (hv 14 rfl) (hv 15 rfl) (hv 17 rfl) (hv 16 rfl) (hv 19 rfl) (hv 18 rfl) (hb hby d_rma0_1) (by decide) (rmo l Z a0 hw [] a1 (0 : Int32) h0 n0 Z0 F1) e0 E1 rfl rfl pd_rma0_0 rfl (Nat.le_of_eq rfl) (by decide) (by decide) rfl rfl (by decide) (by decide)
      obtain ⟨rfl, Nq9, e9q⟩ := Q9
      have N9 := Fr.app N0 Nq9
      have e9 : T9.heap = h0 := e9q
      have k9 : Go p e below m W T9 4 #[.val (.ref a1), .val (.int (0 : Int32)), .val (.int (1 : Int32))] [(.int (0 : Int32))] := k9
      have k10 : Go p e below m W T9 105 #[.val (.ref a1), .val (.int (0 : Int32)), .val (.int (1 : Int32))] [(.int (1 : Int32))] := ((((((k9.tsw X9 hx (hb hby d_rma0_4) (by decide) (o := 46) (by decide) (by decide) (by decide)).iloadN X9 hx (hb hby d_rma0_50) rfl).ifNo X9 hx (hb hby d_rma0_51) (XT.i0_ne_f (by decide))).iloadN X9 hx (hb hby d_rma0_54) rfl).ifNo X9 hx (hb hby d_rma0_55) (XT.i0_eq_f (by decide))).iconst X9 hx (hb hby d_rma0_58) (v := (1 : Int32)) rfl).goto X9 hx (hb hby d_rma0_59) (by decide) (by decide)
      exact k10.ireturnN X9 hx (t := .boolean) Bd.returns (by simp) rfl (hb hby d_rma0_105) (BodyLoose.notSynchronized Bd) (by rw [e9]; exact ⟨(1 : Int32), rfl, N9, rfl, (by decide)⟩) (by decide) (by decide)
  ·
    subst p2
    rcases B3 with q11 | q12
    ·
      subst p3
      have k13 : Go p e below m W s₁ 1 #[.val (.ref a1), .val (.int (1 : Int32)), .val (.int (0 : Int32))] [(.ref a1)] := k0.aloadN X0 hx (hb hby d_rma0_0) rfl rfl
      obtain ⟨T14, v14, L14, X14, Q14, k14⟩ := k13.virtUp (y := (⟨"com/example/paddlefish/paddlefish/BooleanExpression$Operator", "ordinal", "()I"⟩ : MethodName)) (z := (⟨"java/lang/Enum", "ordinal", "()I"⟩ : MethodName)) (owner := "java/lang/Enum") (Wd := 0) (cells' := 0) (slots' := 0) (argsL := []) (rest := []) X0 hx hZ hown (by rw [hml]; rfl) (hv 13 rfl) (hv 14 rfl) (hv 15 rfl) (hv 17 rfl) (hv 16 rfl) (hv 19 rfl) (hv 18 rfl) (hb hby d_rma0_1) (by decide) (rmo l Z a0 hw [] a1 (0 : Int32) h0 n0 Z0 F1) e0 E1 rfl rfl pd_rma0_0 rfl (Nat.le_of_eq rfl) (by decide) (by decide) rfl rfl (by decide) (by decide)
      obtain ⟨rfl, Nq14, e14q⟩ := Q14
      have N14 := Fr.app N0 Nq14
      have e14 : T14.heap = h0 := e14q
      have k14 : Go p e below m W T14 4 #[.val (.ref a1), .val (.int (1 : Int32)), .val (.int (0 : Int32))] [(.int (0 : Int32))] := k14
      have k15 : Go p e below m W T14 105 #[.val (.ref a1), .val (.int (1 : Int32)), .val (.int (0 : Int32))] [(.int (1 : Int32))] := ((((k14.tsw X14 hx (hb hby d_rma0_4) (by decide) (o := 46) (by decide) (by decide) (by decide)).iloadN X14 hx (hb hby d_rma0_50) rfl).ifYes X14 hx (hb hby d_rma0_51) (XT.i0_ne_t (by decide)) (by decide) (by decide)).iconst X14 hx (hb hby d_rma0_58) (v := (1 : Int32)) rfl).goto X14 hx (hb hby d_rma0_59) (by decide) (by decide)
      exact k15.ireturnN X14 hx (t := .boolean) Bd.returns (by simp) rfl (hb hby d_rma0_105) (BodyLoose.notSynchronized Bd) (by rw [e14]; exact ⟨(1 : Int32), rfl, N14, rfl, (by decide)⟩) (by decide) (by decide)
    ·
      subst p3
      have k16 : Go p e below m W s₁ 1 #[.val (.ref a1), .val (.int (1 : Int32)), .val (.int (1 : Int32))] [(.ref a1)] := k0.aloadN X0 hx (hb hby d_rma0_0) rfl rfl
      obtain ⟨T17, v17, L17, X17, Q17, k17⟩ := k16.virtUp (y := (⟨"com/example/paddlefish/paddlefish/BooleanExpression$Operator", "ordinal", "()I"⟩ : MethodName)) (z := (⟨"java/lang/Enum", "ordinal", "()I"⟩ : MethodName)) (owner := "java/lang/Enum") (Wd := 0) (cells' := 0) (slots' := 0) (argsL := []) (rest := []) X0 hx hZ hown (by rw [hml]; rfl) (hv 13 rfl) (hv 14 rfl) (hv 15 rfl) (hv 17 rfl) (hv 16 rfl) (hv 19 rfl) (hv 18 rfl) (hb hby d_rma0_1) (by decide) (rmo l Z a0 hw [] a1 (0 : Int32) h0 n0 Z0 F1) e0 E1 rfl rfl pd_rma0_0 rfl (Nat.le_of_eq rfl) (by decide) (by decide) rfl rfl (by decide) (by decide)
      obtain ⟨rfl, Nq17, e17q⟩ := Q17
      have N17 := Fr.app N0 Nq17
      have e17 : T17.heap = h0 := e17q
      have k17 : Go p e below m W T17 4 #[.val (.ref a1), .val (.int (1 : Int32)), .val (.int (1 : Int32))] [(.int (0 : Int32))] := k17
      have k18 : Go p e below m W T17 105 #[.val (.ref a1), .val (.int (1 : Int32)), .val (.int (1 : Int32))] [(.int (1 : Int32))] := ((((k17.tsw X17 hx (hb hby d_rma0_4) (by decide) (o := 46) (by decide) (by decide) (by decide)).iloadN X17 hx (hb hby d_rma0_50) rfl).ifYes X17 hx (hb hby d_rma0_51) (XT.i0_ne_t (by decide)) (by decide) (by decide)).iconst X17 hx (hb hby d_rma0_58) (v := (1 : Int32)) rfl).goto X17 hx (hb hby d_rma0_59) (by decide) (by decide)
      exact k18.ireturnN X17 hx (t := .boolean) Bd.returns (by simp) rfl (hb hby d_rma0_105) (BodyLoose.notSynchronized Bd) (by rw [e17]; exact ⟨(1 : Int32), rfl, N17, rfl, (by decide)⟩) (by decide) (by decide)

theorem d_rmc0_0 : decode method_3_code 0 = .ok (.aload_n 0, 1) := by decide +kernel
theorem d_rmc0_1 : decode method_3_code 1 = .ok (.iload_n 2, 1) := by decide +kernel
theorem d_rmc0_2 : decode method_3_code 2 = .ok (.iload_n 3, 1) := by decide +kernel
theorem d_rmc0_3 : decode method_3_code 3 = .ok (.invokevirtual 7, 3) := by decide +kernel
theorem d_rmc0_6 : decode method_3_code 6 = .ok (.iload_n 1, 1) := by decide +kernel
theorem d_rmc0_7 : decode method_3_code 7 = .ok (.iload_n 2, 1) := by decide +kernel
theorem d_rmc0_8 : decode method_3_code 8 = .ok (.iload_n 3, 1) := by decide +kernel
theorem d_rmc0_9 : decode method_3_code 9 = .ok (.invokestatic 13, 3) := by decide +kernel
theorem d_rmc0_12 : decode method_3_code 12 = .ok (.if_icmp .ne 7, 3) := by decide +kernel
theorem d_rmc0_15 : decode method_3_code 15 = .ok (.iconst 1, 1) := by decide +kernel
theorem d_rmc0_16 : decode method_3_code 16 = .ok (.goto 4, 3) := by decide +kernel
theorem d_rmc0_20 : decode method_3_code 20 = .ok (.ireturn, 1) := by decide +kernel
theorem pn_rmc0 : plainName "com/example/paddlefish/paddlefish/OperatorApplyPinLaw" = true := by first | (simp [plainName, overriddenIn]; done) | decide +kernel
theorem pd_rmc0_0 : parseMethodDescriptor "(ZZ)Z" = some ⟨[.boolean, .boolean], (some .boolean)⟩ := by decide +kernel
theorem pd_rmc0_1 : parseMethodDescriptor "(IZZ)Z" = some ⟨[.int, .boolean, .boolean], (some .boolean)⟩ := by decide +kernel
theorem ef_rmc0 (m : MethodId) (a1 : Addr) (p2 : Int32) (p3 : Int32) : entryFrame m #[(.ref a1), (.int (14 : Int32)), (.int p2), (.int p3)] 4 = mkF m 0 #[.val (.ref a1), .val (.int (14 : Int32)), .val (.int p2), .val (.int p3)] [] := by first | (simp [entryFrame, mkF, argsToLocals, Value.category]; done) | rfl
def Q_rmc0 (Z : State) (a1 : Addr) (p2 : Int32) (p3 : Int32) (h0 : Heap) (n0 : Nat) (v : Option Value) (h : Heap) (L : List Loc) : Prop := v = some (.int (1 : Int32)) ∧ Fr n0 L ∧ h = h0
set_option maxRecDepth 65536 in
set_option maxHeartbeats 40000000 in
theorem rmc0 (l : Launch) (Z : State) (a0 : Array Value) (hw : ∀ d ∈ tables_1, d.before a0 Z = true) (ws : List Jvm.Cond) (a1 : Addr) (p2 : Int32) (p3 : Int32) (h0 : Heap) (n0 : Nat) (Z0 : n0 ≤ h0.size) (F1 : Fld Z h0 a1 "java/lang/Enum" "ordinal" "I" (.int (0 : Int32))) (E1 : Exa Z h0 a1 "com/example/paddlefish/paddlefish/BooleanExpression$Operator") (B2 : p2 = 0 ∨ p2 = 1) (B3 : p3 = 0 ∨ p3 = 1) :
    MetFree l (⟨"com/example/paddlefish/paddlefish/OperatorApplyPinLaw", "check", "(Lcom/example/paddlefish/paddlefish/BooleanExpression$Operator;IZZ)Z"⟩ : MethodName) (head1 (Jvm.Cond.code (⟨"com/example/paddlefish/paddlefish/OperatorApplyPinLaw", "check", "(Lcom/example/paddlefish/paddlefish/BooleanExpression$Operator;IZZ)Z"⟩ : MethodName) method_3_code 4 (some .boolean) :: ws) ({ frames := 2, cells := 0, slots := 0, locals := 26 } : Room)) (fun a U => a = #[(.ref a1), (.int (14 : Int32)), (.int p2), (.int p3)] ∧ Z.Warmed39 U.vm ∧ U.heap = h0) (fun _ _ _ _ _ => True) (fun _ U o U' => ∃ v L, o = .returned v ∧ Q_rmc0 Z a1 p2 p3 h0 n0 v U'.heap L ∧ FrameEnd U o U' L ({ frames := 2, cells := 0, slots := 0, locals := 26 } : Room).cells ({ frames := 2, cells := 0, slots := 0, locals := 26 } : Room).slots) := by
  refine MetFree.of_bodySF (plainFor_of_name pn_rmc0) hisR ?_
  intro p e s m args_ below meth c s₁ Bd hml0 hP hK
  obtain ⟨hargs, hZ, hh⟩ := hP
  have hx := Bd.exec
  have hby := Bd.bytes
  have hml : c.maxLocals = 4 := hml0
  have hown : s.vm.findClass "com/example/paddlefish/paddlefish/OperatorApplyPinLaw" = some m.cls := findClass_of_methodNamed Bd.named
  have hnm := (name_of_methodNamed Bd.named Bd.method).1
  have X0 : Stand p l e ({ frames := 2, cells := 0, slots := 0, locals := 26 } : Room) s m args_ below meth c s₁ [] 0 0 := Stand.of_body Bd
  have e0 : s₁.heap = h0 := by rw [← hh, Bd.state]; rfl
  have N0 := Fr.nil n0
  have hv : ∀ (i : Nat) {d : Jvm.Cond}, tables_1[i]? = some d → d.before a0 Z = true := fun i d q => hw d (List.mem_of_getElem? q)
  have k0 : Go p e below m (s₁.setTop (entryFrame m args_ 4)) s₁ 0 #[.val (.ref a1), .val (.int (14 : Int32)), .val (.int p2), .val (.int p3)] [] := by rw [hargs]; exact fun t kt => castTop (ef_rmc0 m a1 p2 p3) kt
  obtain ⟨W, hWW⟩ : ∃ W, W = s₁.setTop (entryFrame m args_ 4) := ⟨_, rfl⟩
  rw [← hWW] at k0 ⊢
  show Done p e below s W (Q_rmc0 Z a1 p2 p3 h0 n0) ({ frames := 2, cells := 0, slots := 0, locals := 26 } : Room).cells ({ frames := 2, cells := 0, slots := 0, locals := 26 } : Room).slots
  have k1 : Go p e below m W s₁ 3 #[.val (.ref a1), .val (.int (14 : Int32)), .val (.int p2), .val (.int p3)] [(.int p3), (.int p2), (.ref a1)] := ((k0.aloadN X0 hx (hb hby d_rmc0_0) rfl rfl).iloadN X0 hx (hb hby d_rmc0_1) rfl).iloadN X0 hx (hb hby d_rmc0_2) rfl
  obtain ⟨T2, v2, L2, X2, Q2, k2⟩ := k1.virt (y := (⟨"com/example/paddlefish/paddlefish/BooleanExpression$Operator", "apply", "(ZZ)Z"⟩ : MethodName)) (z := (⟨"com/example/paddlefish/paddlefish/BooleanExpression$Operator", "apply", "(ZZ)Z"⟩ : MethodName)) (Wd := 0) (cells' := 0) (slots' := 0) (argsL := [(.int p2), (.int p3)]) (rest := []) X0 hx hZ hown (by rw [hml]; rfl) (hv 8 rfl) (hv 9 rfl) (notFace_of_selects (args := #[]) (mvT hZ (hv 11 rfl))) (hv 11 rfl) (hv 10 rfl) (hv 12 rfl) (hv 2 rfl) (hb hby d_rmc0_3) (by decide) (rma0 l Z a0 hw [] a1 p2 p3 h0 n0 Z0 F1 E1 B2 B3) e0 E1 rfl rfl pd_rmc0_0 rfl (Nat.le_of_eq rfl) (by decide) (by decide) rfl rfl (by decide) (by decide)
  obtain ⟨r_2, rfl, Nq2, e2q, p2_0⟩ := Q2
  have N2 := Fr.app N0 Nq2
  have e2 : T2.heap = h0 := e2q
  have k2 : Go p e below m W T2 6 #[.val (.ref a1), .val (.int (14 : Int32)), .val (.int p2), .val (.int p3)] [(.int r_2)] := k2
  have k3 : Go p e below m W T2 9 #[.val (.ref a1), .val (.int (14 : Int32)), .val (.int p2), .val (.int p3)] [(.int p3), (.int p2), (.int (14 : Int32)), (.int r_2)] := ((k2.iloadN X2 hx (hb hby d_rmc0_6) rfl).iloadN X2 hx (hb hby d_rmc0_7) rfl).iloadN X2 hx (hb hby d_rmc0_8) rfl
  obtain ⟨T4, v4, L4, X4, Q4, k4⟩ := k3.stat (y := (⟨"com/example/paddlefish/paddlefish/OperatorApplyPinLaw", "bit", "(IZZ)Z"⟩ : MethodName)) (Wd := 1) (cells' := 0) (slots' := 0) (argsL := [(.int (14 : Int32)), (.int p2), (.int p3)]) (rest := [(.int r_2)]) X2 hx hZ hown (by rw [hml]; rfl) (hv 22 rfl) (hv 23 rfl) (hv 24 rfl) (hv 6 rfl) (hb hby d_rmc0_9) (by decide) (rmb14 l Z a0 hw [] p2 p3 h0 n0 Z0 B2 B3) e2 rfl rfl pd_rmc0_1 rfl (Nat.le_of_eq rfl) (by decide) (by decide) rfl rfl (by decide) (by decide)
  obtain ⟨r_4, rfl, Nq4, e4q, p4_0⟩ := Q4
  have N4 := Fr.app N2 Nq4
  have e4 : T4.heap = h0 := e4q
  have k4 : Go p e below m W T4 12 #[.val (.ref a1), .val (.int (14 : Int32)), .val (.int p2), .val (.int p3)] [(.int r_4), (.int r_2)] := k4
  have k5 : Go p e below m W T4 20 #[.val (.ref a1), .val (.int (14 : Int32)), .val (.int p2), .val (.int p3)] [(.int (1 : Int32))] := ((k4.icmpNo X4 hx (hb hby d_rmc0_12) (XT.ii_ne_f (p2_0.trans p4_0.symm))).iconst X4 hx (hb hby d_rmc0_15) (v := (1 : Int32)) rfl).goto X4 hx (hb hby d_rmc0_16) (by decide) (by decide)
  exact k5.ireturnN X4 hx (t := .boolean) Bd.returns (by simp) rfl (hb hby d_rmc0_20) (BodyLoose.notSynchronized Bd) (by rw [e4]; exact ⟨rfl, N4, rfl⟩) (by decide) (by decide)

theorem d_rma1_0 : decode prog_6_method_6_code 0 = .ok (.aload_n 0, 1) := by decide +kernel
theorem d_rma1_1 : decode prog_6_method_6_code 1 = .ok (.invokevirtual 46, 3) := by decide +kernel
theorem d_rma1_4 : decode prog_6_method_6_code 4 = .ok (.tableswitch 36 0 4 #[46, 62, 75, 91, 62], 36) := by decide +kernel
theorem d_rma1_66 : decode prog_6_method_6_code 66 = .ok (.iload_n 1, 1) := by decide +kernel
theorem d_rma1_67 : decode prog_6_method_6_code 67 = .ok (.iload_n 2, 1) := by decide +kernel
theorem d_rma1_68 : decode prog_6_method_6_code 68 = .ok (.if_icmp .eq 7, 3) := by decide +kernel
theorem d_rma1_71 : decode prog_6_method_6_code 71 = .ok (.iconst 1, 1) := by decide +kernel
theorem d_rma1_72 : decode prog_6_method_6_code 72 = .ok (.goto 33, 3) := by decide +kernel
theorem d_rma1_75 : decode prog_6_method_6_code 75 = .ok (.iconst 0, 1) := by decide +kernel
theorem d_rma1_76 : decode prog_6_method_6_code 76 = .ok (.goto 29, 3) := by decide +kernel
theorem d_rma1_105 : decode prog_6_method_6_code 105 = .ok (.ireturn, 1) := by decide +kernel
theorem pn_rma1 : plainName "com/example/paddlefish/paddlefish/BooleanExpression$Operator" = true := by first | (simp [plainName, overriddenIn]; done) | decide +kernel
theorem pd_rma1_0 : parseMethodDescriptor "()I" = some ⟨[], (some .int)⟩ := by decide +kernel
theorem ef_rma1 (m : MethodId) (a1 : Addr) (p2 : Int32) (p3 : Int32) : entryFrame m #[(.ref a1), (.int p2), (.int p3)] 3 = mkF m 0 #[.val (.ref a1), .val (.int p2), .val (.int p3)] [] := by first | (simp [entryFrame, mkF, argsToLocals, Value.category]; done) | rfl
def Q_rma1 (Z : State) (a1 : Addr) (p2 : Int32) (p3 : Int32) (h0 : Heap) (n0 : Nat) (v : Option Value) (h : Heap) (L : List Loc) : Prop := ∃ (r : Int32), v = some (.int r) ∧ Fr n0 L ∧ h = h0 ∧ (r = p2 ^^^ p3)
set_option maxRecDepth 65536 in
set_option maxHeartbeats 40000000 in
theorem rma1 (l : Launch) (Z : State) (a0 : Array Value) (hw : ∀ d ∈ tables_1, d.before a0 Z = true) (ws : List Jvm.Cond) (a1 : Addr) (p2 : Int32) (p3 : Int32) (h0 : Heap) (n0 : Nat) (Z0 : n0 ≤ h0.size) (F1 : Fld Z h0 a1 "java/lang/Enum" "ordinal" "I" (.int (1 : Int32))) (E1 : Exa Z h0 a1 "com/example/paddlefish/paddlefish/BooleanExpression$Operator") (B2 : p2 = 0 ∨ p2 = 1) (B3 : p3 = 0 ∨ p3 = 1) :
    MetFree l (⟨"com/example/paddlefish/paddlefish/BooleanExpression$Operator", "apply", "(ZZ)Z"⟩ : MethodName) (head1 (Jvm.Cond.code (⟨"com/example/paddlefish/paddlefish/BooleanExpression$Operator", "apply", "(ZZ)Z"⟩ : MethodName) prog_6_method_6_code 3 (some .boolean) :: ws) ({ frames := 1, cells := 0, slots := 0, locals := 12 } : Room)) (fun a U => a = #[(.ref a1), (.int p2), (.int p3)] ∧ Z.Warmed39 U.vm ∧ U.heap = h0) (fun _ _ _ _ _ => True) (fun _ U o U' => ∃ v L, o = .returned v ∧ Q_rma1 Z a1 p2 p3 h0 n0 v U'.heap L ∧ FrameEnd U o U' L ({ frames := 1, cells := 0, slots := 0, locals := 12 } : Room).cells ({ frames := 1, cells := 0, slots := 0, locals := 12 } : Room).slots) := by
  refine MetFree.of_bodySF (plainFor_of_name pn_rma1) hisR ?_
  intro p e s m args_ below meth c s₁ Bd hml0 hP hK
  obtain ⟨hargs, hZ, hh⟩ := hP
  have hx := Bd.exec
  have hby := Bd.bytes
  have hml : c.maxLocals = 3 := hml0
  have hown : s.vm.findClass "com/example/paddlefish/paddlefish/BooleanExpression$Operator" = some m.cls := findClass_of_methodNamed Bd.named
  have hnm := (name_of_methodNamed Bd.named Bd.method).1
  have X0 : Stand p l e ({ frames := 1, cells := 0, slots := 0, locals := 12 } : Room) s m args_ below meth c s₁ [] 0 0 := Stand.of_body Bd
  have e0 : s₁.heap = h0 := by rw [← hh, Bd.state]; rfl
  have N0 := Fr.nil n0
  have hv : ∀ (i : Nat) {d : Jvm.Cond}, tables_1[i]? = some d → d.before a0 Z = true := fun i d q => hw d (List.mem_of_getElem? q)
  have k0 : Go p e below m (s₁.setTop (entryFrame m args_ 3)) s₁ 0 #[.val (.ref a1), .val (.int p2), .val (.int p3)] [] := by rw [hargs]; exact fun t kt => castTop (ef_rma1 m a1 p2 p3) kt
  obtain ⟨W, hWW⟩ : ∃ W, W = s₁.setTop (entryFrame m args_ 3) := ⟨_, rfl⟩
  rw [← hWW] at k0 ⊢
  show Done p e below s W (Q_rma1 Z a1 p2 p3 h0 n0) ({ frames := 1, cells := 0, slots := 0, locals := 12 } : Room).cells ({ frames := 1, cells := 0, slots := 0, locals := 12 } : Room).slots
  rcases B2 with q1 | q2
  ·
    subst p2
    rcases B3 with q3 | q4
    ·
      subst p3
      have k5 : Go p e below m W s₁ 1 #[.val (.ref a1), .val (.int (0 : Int32)), .val (.int (0 : Int32))] [(.ref a1)] := k0.aloadN X0 hx (hb hby d_rma1_0) rfl rfl
      obtain ⟨T6, v6, L6, X6, Q6, k6⟩ := k5.virtUp (y := (⟨"com/example/paddlefish/paddlefish/BooleanExpression$Operator", "ordinal", "()I"⟩ : MethodName)) (z := (⟨"java/lang/Enum", "ordinal", "()I"⟩ : MethodName)) (owner := "java/lang/Enum") (Wd := 0) (cells' := 0) (slots' := 0) (argsL := []) (rest := []) X0 hx hZ hown (by rw [hml]; rfl) (hv 13 rfl) (hv 14 rfl) (hv 15 rfl) (hv 17 rfl) (hv 16 rfl) (hv 19 rfl) (hv 18 rfl) (hb hby d_rma1_1) (by decide) (rmo l Z a0 hw [] a1 (1 : Int32) h0 n0 Z0 F1) e0 E1 rfl rfl pd_rma1_0 rfl (Nat.le_of_eq rfl) (by decide) (by decide) rfl rfl (by decide) (by decide)
      obtain ⟨rfl, Nq6, e6q⟩ := Q6
      have N6 := Fr.app N0 Nq6
      have e6 : T6.heap = h0 := e6q
      have k6 : Go p e below m W T6 4 #[.val (.ref a1), .val (.int (0 : Int32)), .val (.int (0 : Int32))] [(.int (1 : Int32))] := k6
      have k7 : Go p e below m W T6 105 #[.val (.ref a1), .val (.int (0 : Int32)), .val (.int (0 : Int32))] [(.int (0 : Int32))] := (((((k6.tsw X6 hx (hb hby d_rma1_4) (by decide) (o := 62) (by decide) (by decide) (by decide)).iloadN X6 hx (hb hby d_rma1_66) rfl).iloadN X6 hx (hb hby d_rma1_67) rfl).icmpYes X6 hx (hb hby d_rma1_68) (XT.ii_eq_t (by decide)) (by decide) (by decide)).iconst X6 hx (hb hby d_rma1_75) (v := (0 : Int32)) rfl).goto X6 hx (hb hby d_rma1_76) (by decide) (by decide)
      exact k7.ireturnN X6 hx (t := .boolean) Bd.returns (by simp) rfl (hb hby d_rma1_105) (BodyLoose.notSynchronized Bd) (by rw [e6]; exact ⟨(0 : Int32), rfl, N6, rfl, (by decide)⟩) (by decide) (by decide)
    ·
      subst p3
      have k8 : Go p e below m W s₁ 1 #[.val (.ref a1), .val (.int (0 : Int32)), .val (.int (1 : Int32))] [(.ref a1)] := k0.aloadN X0 hx (hb hby d_rma1_0) rfl rfl
      obtain ⟨T9, v9, L9, X9, Q9, k9⟩ := k8.virtUp (y := (⟨"com/example/paddlefish/paddlefish/BooleanExpression$Operator", "ordinal", "()I"⟩ : MethodName)) (z := (⟨"java/lang/Enum", "ordinal", "()I"⟩ : MethodName)) (owner := "java/lang/Enum") (Wd := 0) (cells' := 0) (slots' := 0) (argsL := []) (rest := []) X0 hx hZ hown (by rw [hml]; rfl) (hv 13 rfl) (hv 14 rfl) (hv 15 rfl) (hv 17 rfl) (hv 16 rfl) (hv 19 rfl) (hv 18 rfl) (hb hby d_rma1_1) (by decide) (rmo l Z a0 hw [] a1 (1 : Int32) h0 n0 Z0 F1) e0 E1 rfl rfl pd_rma1_0 rfl (Nat.le_of_eq rfl) (by decide) (by decide) rfl rfl (by decide) (by decide)
      obtain ⟨rfl, Nq9, e9q⟩ := Q9
      have N9 := Fr.app N0 Nq9
      have e9 : T9.heap = h0 := e9q
      have k9 : Go p e below m W T9 4 #[.val (.ref a1), .val (.int (0 : Int32)), .val (.int (1 : Int32))] [(.int (1 : Int32))] := k9
      have k10 : Go p e below m W T9 105 #[.val (.ref a1), .val (.int (0 : Int32)), .val (.int (1 : Int32))] [(.int (1 : Int32))] := (((((k9.tsw X9 hx (hb hby d_rma1_4) (by decide) (o := 62) (by decide) (by decide) (by decide)).iloadN X9 hx (hb hby d_rma1_66) rfl).iloadN X9 hx (hb hby d_rma1_67) rfl).icmpNo X9 hx (hb hby d_rma1_68) (XT.ii_eq_f (by decide))).iconst X9 hx (hb hby d_rma1_71) (v := (1 : Int32)) rfl).goto X9 hx (hb hby d_rma1_72) (by decide) (by decide)
      exact k10.ireturnN X9 hx (t := .boolean) Bd.returns (by simp) rfl (hb hby d_rma1_105) (BodyLoose.notSynchronized Bd) (by rw [e9]; exact ⟨(1 : Int32), rfl, N9, rfl, (by decide)⟩) (by decide) (by decide)
  ·
    subst p2
    rcases B3 with q11 | q12
    ·
      subst p3
      have k13 : Go p e below m W s₁ 1 #[.val (.ref a1), .val (.int (1 : Int32)), .val (.int (0 : Int32))] [(.ref a1)] := k0.aloadN X0 hx (hb hby d_rma1_0) rfl rfl
      obtain ⟨T14, v14, L14, X14, Q14, k14⟩ := k13.virtUp (y := (⟨"com/example/paddlefish/paddlefish/BooleanExpression$Operator", "ordinal", "()I"⟩ : MethodName)) (z := (⟨"java/lang/Enum", "ordinal", "()I"⟩ : MethodName)) (owner := "java/lang/Enum") (Wd := 0) (cells' := 0) (slots' := 0) (argsL := []) (rest := []) X0 hx hZ hown (by rw [hml]; rfl) (hv 13 rfl) (hv 14 rfl) (hv 15 rfl) (hv 17 rfl) (hv 16 rfl) (hv 19 rfl) (hv 18 rfl) (hb hby d_rma1_1) (by decide) (rmo l Z a0 hw [] a1 (1 : Int32) h0 n0 Z0 F1) e0 E1 rfl rfl pd_rma1_0 rfl (Nat.le_of_eq rfl) (by decide) (by decide) rfl rfl (by decide) (by decide)
      obtain ⟨rfl, Nq14, e14q⟩ := Q14
      have N14 := Fr.app N0 Nq14
      have e14 : T14.heap = h0 := e14q
      have k14 : Go p e below m W T14 4 #[.val (.ref a1), .val (.int (1 : Int32)), .val (.int (0 : Int32))] [(.int (1 : Int32))] := k14
      have k15 : Go p e below m W T14 105 #[.val (.ref a1), .val (.int (1 : Int32)), .val (.int (0 : Int32))] [(.int (1 : Int32))] := (((((k14.tsw X14 hx (hb hby d_rma1_4) (by decide) (o := 62) (by decide) (by decide) (by decide)).iloadN X14 hx (hb hby d_rma1_66) rfl).iloadN X14 hx (hb hby d_rma1_67) rfl).icmpNo X14 hx (hb hby d_rma1_68) (XT.ii_eq_f (by decide))).iconst X14 hx (hb hby d_rma1_71) (v := (1 : Int32)) rfl).goto X14 hx (hb hby d_rma1_72) (by decide) (by decide)
      exact k15.ireturnN X14 hx (t := .boolean) Bd.returns (by simp) rfl (hb hby d_rma1_105) (BodyLoose.notSynchronized Bd) (by rw [e14]; exact ⟨(1 : Int32), rfl, N14, rfl, (by decide)⟩) (by decide) (by decide)
    ·
      subst p3
      have k16 : Go p e below m W s₁ 1 #[.val (.ref a1), .val (.int (1 : Int32)), .val (.int (1 : Int32))] [(.ref a1)] := k0.aloadN X0 hx (hb hby d_rma1_0) rfl rfl
      obtain ⟨T17, v17, L17, X17, Q17, k17⟩ := k16.virtUp (y := (⟨"com/example/paddlefish/paddlefish/BooleanExpression$Operator", "ordinal", "()I"⟩ : MethodName)) (z := (⟨"java/lang/Enum", "ordinal", "()I"⟩ : MethodName)) (owner := "java/lang/Enum") (Wd := 0) (cells' := 0) (slots' := 0) (argsL := []) (rest := []) X0 hx hZ hown (by rw [hml]; rfl) (hv 13 rfl) (hv 14 rfl) (hv 15 rfl) (hv 17 rfl) (hv 16 rfl) (hv 19 rfl) (hv 18 rfl) (hb hby d_rma1_1) (by decide) (rmo l Z a0 hw [] a1 (1 : Int32) h0 n0 Z0 F1) e0 E1 rfl rfl pd_rma1_0 rfl (Nat.le_of_eq rfl) (by decide) (by decide) rfl rfl (by decide) (by decide)
      obtain ⟨rfl, Nq17, e17q⟩ := Q17
      have N17 := Fr.app N0 Nq17
      have e17 : T17.heap = h0 := e17q
      have k17 : Go p e below m W T17 4 #[.val (.ref a1), .val (.int (1 : Int32)), .val (.int (1 : Int32))] [(.int (1 : Int32))] := k17
      have k18 : Go p e below m W T17 105 #[.val (.ref a1), .val (.int (1 : Int32)), .val (.int (1 : Int32))] [(.int (0 : Int32))] := (((((k17.tsw X17 hx (hb hby d_rma1_4) (by decide) (o := 62) (by decide) (by decide) (by decide)).iloadN X17 hx (hb hby d_rma1_66) rfl).iloadN X17 hx (hb hby d_rma1_67) rfl).icmpYes X17 hx (hb hby d_rma1_68) (XT.ii_eq_t (by decide)) (by decide) (by decide)).iconst X17 hx (hb hby d_rma1_75) (v := (0 : Int32)) rfl).goto X17 hx (hb hby d_rma1_76) (by decide) (by decide)
      exact k18.ireturnN X17 hx (t := .boolean) Bd.returns (by simp) rfl (hb hby d_rma1_105) (BodyLoose.notSynchronized Bd) (by rw [e17]; exact ⟨(0 : Int32), rfl, N17, rfl, (by decide)⟩) (by decide) (by decide)

theorem d_rmc1_0 : decode method_3_code 0 = .ok (.aload_n 0, 1) := by decide +kernel
theorem d_rmc1_1 : decode method_3_code 1 = .ok (.iload_n 2, 1) := by decide +kernel
theorem d_rmc1_2 : decode method_3_code 2 = .ok (.iload_n 3, 1) := by decide +kernel
theorem d_rmc1_3 : decode method_3_code 3 = .ok (.invokevirtual 7, 3) := by decide +kernel
theorem d_rmc1_6 : decode method_3_code 6 = .ok (.iload_n 1, 1) := by decide +kernel
theorem d_rmc1_7 : decode method_3_code 7 = .ok (.iload_n 2, 1) := by decide +kernel
theorem d_rmc1_8 : decode method_3_code 8 = .ok (.iload_n 3, 1) := by decide +kernel
theorem d_rmc1_9 : decode method_3_code 9 = .ok (.invokestatic 13, 3) := by decide +kernel
theorem d_rmc1_12 : decode method_3_code 12 = .ok (.if_icmp .ne 7, 3) := by decide +kernel
theorem d_rmc1_15 : decode method_3_code 15 = .ok (.iconst 1, 1) := by decide +kernel
theorem d_rmc1_16 : decode method_3_code 16 = .ok (.goto 4, 3) := by decide +kernel
theorem d_rmc1_20 : decode method_3_code 20 = .ok (.ireturn, 1) := by decide +kernel
theorem pn_rmc1 : plainName "com/example/paddlefish/paddlefish/OperatorApplyPinLaw" = true := by first | (simp [plainName, overriddenIn]; done) | decide +kernel
theorem pd_rmc1_0 : parseMethodDescriptor "(ZZ)Z" = some ⟨[.boolean, .boolean], (some .boolean)⟩ := by decide +kernel
theorem pd_rmc1_1 : parseMethodDescriptor "(IZZ)Z" = some ⟨[.int, .boolean, .boolean], (some .boolean)⟩ := by decide +kernel
theorem ef_rmc1 (m : MethodId) (a1 : Addr) (p2 : Int32) (p3 : Int32) : entryFrame m #[(.ref a1), (.int (6 : Int32)), (.int p2), (.int p3)] 4 = mkF m 0 #[.val (.ref a1), .val (.int (6 : Int32)), .val (.int p2), .val (.int p3)] [] := by first | (simp [entryFrame, mkF, argsToLocals, Value.category]; done) | rfl
def Q_rmc1 (Z : State) (a1 : Addr) (p2 : Int32) (p3 : Int32) (h0 : Heap) (n0 : Nat) (v : Option Value) (h : Heap) (L : List Loc) : Prop := v = some (.int (1 : Int32)) ∧ Fr n0 L ∧ h = h0
set_option maxRecDepth 65536 in
set_option maxHeartbeats 40000000 in
theorem rmc1 (l : Launch) (Z : State) (a0 : Array Value) (hw : ∀ d ∈ tables_1, d.before a0 Z = true) (ws : List Jvm.Cond) (a1 : Addr) (p2 : Int32) (p3 : Int32) (h0 : Heap) (n0 : Nat) (Z0 : n0 ≤ h0.size) (F1 : Fld Z h0 a1 "java/lang/Enum" "ordinal" "I" (.int (1 : Int32))) (E1 : Exa Z h0 a1 "com/example/paddlefish/paddlefish/BooleanExpression$Operator") (B2 : p2 = 0 ∨ p2 = 1) (B3 : p3 = 0 ∨ p3 = 1) :
    MetFree l (⟨"com/example/paddlefish/paddlefish/OperatorApplyPinLaw", "check", "(Lcom/example/paddlefish/paddlefish/BooleanExpression$Operator;IZZ)Z"⟩ : MethodName) (head1 (Jvm.Cond.code (⟨"com/example/paddlefish/paddlefish/OperatorApplyPinLaw", "check", "(Lcom/example/paddlefish/paddlefish/BooleanExpression$Operator;IZZ)Z"⟩ : MethodName) method_3_code 4 (some .boolean) :: ws) ({ frames := 2, cells := 0, slots := 0, locals := 26 } : Room)) (fun a U => a = #[(.ref a1), (.int (6 : Int32)), (.int p2), (.int p3)] ∧ Z.Warmed39 U.vm ∧ U.heap = h0) (fun _ _ _ _ _ => True) (fun _ U o U' => ∃ v L, o = .returned v ∧ Q_rmc1 Z a1 p2 p3 h0 n0 v U'.heap L ∧ FrameEnd U o U' L ({ frames := 2, cells := 0, slots := 0, locals := 26 } : Room).cells ({ frames := 2, cells := 0, slots := 0, locals := 26 } : Room).slots) := by
  refine MetFree.of_bodySF (plainFor_of_name pn_rmc1) hisR ?_
  intro p e s m args_ below meth c s₁ Bd hml0 hP hK
  obtain ⟨hargs, hZ, hh⟩ := hP
  have hx := Bd.exec
  have hby := Bd.bytes
  have hml : c.maxLocals = 4 := hml0
  have hown : s.vm.findClass "com/example/paddlefish/paddlefish/OperatorApplyPinLaw" = some m.cls := findClass_of_methodNamed Bd.named
  have hnm := (name_of_methodNamed Bd.named Bd.method).1
  have X0 : Stand p l e ({ frames := 2, cells := 0, slots := 0, locals := 26 } : Room) s m args_ below meth c s₁ [] 0 0 := Stand.of_body Bd
  have e0 : s₁.heap = h0 := by rw [← hh, Bd.state]; rfl
  have N0 := Fr.nil n0
  have hv : ∀ (i : Nat) {d : Jvm.Cond}, tables_1[i]? = some d → d.before a0 Z = true := fun i d q => hw d (List.mem_of_getElem? q)
  have k0 : Go p e below m (s₁.setTop (entryFrame m args_ 4)) s₁ 0 #[.val (.ref a1), .val (.int (6 : Int32)), .val (.int p2), .val (.int p3)] [] := by rw [hargs]; exact fun t kt => castTop (ef_rmc1 m a1 p2 p3) kt
  obtain ⟨W, hWW⟩ : ∃ W, W = s₁.setTop (entryFrame m args_ 4) := ⟨_, rfl⟩
  rw [← hWW] at k0 ⊢
  show Done p e below s W (Q_rmc1 Z a1 p2 p3 h0 n0) ({ frames := 2, cells := 0, slots := 0, locals := 26 } : Room).cells ({ frames := 2, cells := 0, slots := 0, locals := 26 } : Room).slots
  have k1 : Go p e below m W s₁ 3 #[.val (.ref a1), .val (.int (6 : Int32)), .val (.int p2), .val (.int p3)] [(.int p3), (.int p2), (.ref a1)] := ((k0.aloadN X0 hx (hb hby d_rmc1_0) rfl rfl).iloadN X0 hx (hb hby d_rmc1_1) rfl).iloadN X0 hx (hb hby d_rmc1_2) rfl
  obtain ⟨T2, v2, L2, X2, Q2, k2⟩ := k1.virt (y := (⟨"com/example/paddlefish/paddlefish/BooleanExpression$Operator", "apply", "(ZZ)Z"⟩ : MethodName)) (z := (⟨"com/example/paddlefish/paddlefish/BooleanExpression$Operator", "apply", "(ZZ)Z"⟩ : MethodName)) (Wd := 0) (cells' := 0) (slots' := 0) (argsL := [(.int p2), (.int p3)]) (rest := []) X0 hx hZ hown (by rw [hml]; rfl) (hv 8 rfl) (hv 9 rfl) (notFace_of_selects (args := #[]) (mvT hZ (hv 11 rfl))) (hv 11 rfl) (hv 10 rfl) (hv 12 rfl) (hv 2 rfl) (hb hby d_rmc1_3) (by decide) (rma1 l Z a0 hw [] a1 p2 p3 h0 n0 Z0 F1 E1 B2 B3) e0 E1 rfl rfl pd_rmc1_0 rfl (Nat.le_of_eq rfl) (by decide) (by decide) rfl rfl (by decide) (by decide)
  obtain ⟨r_2, rfl, Nq2, e2q, p2_0⟩ := Q2
  have N2 := Fr.app N0 Nq2
  have e2 : T2.heap = h0 := e2q
  have k2 : Go p e below m W T2 6 #[.val (.ref a1), .val (.int (6 : Int32)), .val (.int p2), .val (.int p3)] [(.int r_2)] := k2
  have k3 : Go p e below m W T2 9 #[.val (.ref a1), .val (.int (6 : Int32)), .val (.int p2), .val (.int p3)] [(.int p3), (.int p2), (.int (6 : Int32)), (.int r_2)] := ((k2.iloadN X2 hx (hb hby d_rmc1_6) rfl).iloadN X2 hx (hb hby d_rmc1_7) rfl).iloadN X2 hx (hb hby d_rmc1_8) rfl
  obtain ⟨T4, v4, L4, X4, Q4, k4⟩ := k3.stat (y := (⟨"com/example/paddlefish/paddlefish/OperatorApplyPinLaw", "bit", "(IZZ)Z"⟩ : MethodName)) (Wd := 1) (cells' := 0) (slots' := 0) (argsL := [(.int (6 : Int32)), (.int p2), (.int p3)]) (rest := [(.int r_2)]) X2 hx hZ hown (by rw [hml]; rfl) (hv 22 rfl) (hv 23 rfl) (hv 24 rfl) (hv 6 rfl) (hb hby d_rmc1_9) (by decide) (rmb6 l Z a0 hw [] p2 p3 h0 n0 Z0 B2 B3) e2 rfl rfl pd_rmc1_1 rfl (Nat.le_of_eq rfl) (by decide) (by decide) rfl rfl (by decide) (by decide)
  obtain ⟨r_4, rfl, Nq4, e4q, p4_0⟩ := Q4
  have N4 := Fr.app N2 Nq4
  have e4 : T4.heap = h0 := e4q
  have k4 : Go p e below m W T4 12 #[.val (.ref a1), .val (.int (6 : Int32)), .val (.int p2), .val (.int p3)] [(.int r_4), (.int r_2)] := k4
  have k5 : Go p e below m W T4 20 #[.val (.ref a1), .val (.int (6 : Int32)), .val (.int p2), .val (.int p3)] [(.int (1 : Int32))] := ((k4.icmpNo X4 hx (hb hby d_rmc1_12) (XT.ii_ne_f (p2_0.trans p4_0.symm))).iconst X4 hx (hb hby d_rmc1_15) (v := (1 : Int32)) rfl).goto X4 hx (hb hby d_rmc1_16) (by decide) (by decide)
  exact k5.ireturnN X4 hx (t := .boolean) Bd.returns (by simp) rfl (hb hby d_rmc1_20) (BodyLoose.notSynchronized Bd) (by rw [e4]; exact ⟨rfl, N4, rfl⟩) (by decide) (by decide)

theorem d_rma2_0 : decode prog_6_method_6_code 0 = .ok (.aload_n 0, 1) := by decide +kernel
theorem d_rma2_1 : decode prog_6_method_6_code 1 = .ok (.invokevirtual 46, 3) := by decide +kernel
theorem d_rma2_4 : decode prog_6_method_6_code 4 = .ok (.tableswitch 36 0 4 #[46, 62, 75, 91, 62], 36) := by decide +kernel
theorem d_rma2_79 : decode prog_6_method_6_code 79 = .ok (.iload_n 1, 1) := by decide +kernel
theorem d_rma2_80 : decode prog_6_method_6_code 80 = .ok (.ifCond .eq 11, 3) := by decide +kernel
theorem d_rma2_83 : decode prog_6_method_6_code 83 = .ok (.iload_n 2, 1) := by decide +kernel
theorem d_rma2_84 : decode prog_6_method_6_code 84 = .ok (.ifCond .eq 7, 3) := by decide +kernel
theorem d_rma2_87 : decode prog_6_method_6_code 87 = .ok (.iconst 1, 1) := by decide +kernel
theorem d_rma2_88 : decode prog_6_method_6_code 88 = .ok (.goto 17, 3) := by decide +kernel
theorem d_rma2_91 : decode prog_6_method_6_code 91 = .ok (.iconst 0, 1) := by decide +kernel
theorem d_rma2_92 : decode prog_6_method_6_code 92 = .ok (.goto 13, 3) := by decide +kernel
theorem d_rma2_105 : decode prog_6_method_6_code 105 = .ok (.ireturn, 1) := by decide +kernel
theorem pn_rma2 : plainName "com/example/paddlefish/paddlefish/BooleanExpression$Operator" = true := by first | (simp [plainName, overriddenIn]; done) | decide +kernel
theorem pd_rma2_0 : parseMethodDescriptor "()I" = some ⟨[], (some .int)⟩ := by decide +kernel
theorem ef_rma2 (m : MethodId) (a1 : Addr) (p2 : Int32) (p3 : Int32) : entryFrame m #[(.ref a1), (.int p2), (.int p3)] 3 = mkF m 0 #[.val (.ref a1), .val (.int p2), .val (.int p3)] [] := by first | (simp [entryFrame, mkF, argsToLocals, Value.category]; done) | rfl
def Q_rma2 (Z : State) (a1 : Addr) (p2 : Int32) (p3 : Int32) (h0 : Heap) (n0 : Nat) (v : Option Value) (h : Heap) (L : List Loc) : Prop := ∃ (r : Int32), v = some (.int r) ∧ Fr n0 L ∧ h = h0 ∧ (r = p2 &&& p3)
set_option maxRecDepth 65536 in
set_option maxHeartbeats 40000000 in
theorem rma2 (l : Launch) (Z : State) (a0 : Array Value) (hw : ∀ d ∈ tables_1, d.before a0 Z = true) (ws : List Jvm.Cond) (a1 : Addr) (p2 : Int32) (p3 : Int32) (h0 : Heap) (n0 : Nat) (Z0 : n0 ≤ h0.size) (F1 : Fld Z h0 a1 "java/lang/Enum" "ordinal" "I" (.int (2 : Int32))) (E1 : Exa Z h0 a1 "com/example/paddlefish/paddlefish/BooleanExpression$Operator") (B2 : p2 = 0 ∨ p2 = 1) (B3 : p3 = 0 ∨ p3 = 1) :
    MetFree l (⟨"com/example/paddlefish/paddlefish/BooleanExpression$Operator", "apply", "(ZZ)Z"⟩ : MethodName) (head1 (Jvm.Cond.code (⟨"com/example/paddlefish/paddlefish/BooleanExpression$Operator", "apply", "(ZZ)Z"⟩ : MethodName) prog_6_method_6_code 3 (some .boolean) :: ws) ({ frames := 1, cells := 0, slots := 0, locals := 12 } : Room)) (fun a U => a = #[(.ref a1), (.int p2), (.int p3)] ∧ Z.Warmed39 U.vm ∧ U.heap = h0) (fun _ _ _ _ _ => True) (fun _ U o U' => ∃ v L, o = .returned v ∧ Q_rma2 Z a1 p2 p3 h0 n0 v U'.heap L ∧ FrameEnd U o U' L ({ frames := 1, cells := 0, slots := 0, locals := 12 } : Room).cells ({ frames := 1, cells := 0, slots := 0, locals := 12 } : Room).slots) := by
  refine MetFree.of_bodySF (plainFor_of_name pn_rma2) hisR ?_
  intro p e s m args_ below meth c s₁ Bd hml0 hP hK
  obtain ⟨hargs, hZ, hh⟩ := hP
  have hx := Bd.exec
  have hby := Bd.bytes
  have hml : c.maxLocals = 3 := hml0
  have hown : s.vm.findClass "com/example/paddlefish/paddlefish/BooleanExpression$Operator" = some m.cls := findClass_of_methodNamed Bd.named
  have hnm := (name_of_methodNamed Bd.named Bd.method).1
  have X0 : Stand p l e ({ frames := 1, cells := 0, slots := 0, locals := 12 } : Room) s m args_ below meth c s₁ [] 0 0 := Stand.of_body Bd
  have e0 : s₁.heap = h0 := by rw [← hh, Bd.state]; rfl
  have N0 := Fr.nil n0
  have hv : ∀ (i : Nat) {d : Jvm.Cond}, tables_1[i]? = some d → d.before a0 Z = true := fun i d q => hw d (List.mem_of_getElem? q)
  have k0 : Go p e below m (s₁.setTop (entryFrame m args_ 3)) s₁ 0 #[.val (.ref a1), .val (.int p2), .val (.int p3)] [] := by rw [hargs]; exact fun t kt => castTop (ef_rma2 m a1 p2 p3) kt
  obtain ⟨W, hWW⟩ : ∃ W, W = s₁.setTop (entryFrame m args_ 3) := ⟨_, rfl⟩
  rw [← hWW] at k0 ⊢
  show Done p e below s W (Q_rma2 Z a1 p2 p3 h0 n0) ({ frames := 1, cells := 0, slots := 0, locals := 12 } : Room).cells ({ frames := 1, cells := 0, slots := 0, locals := 12 } : Room).slots
  rcases B2 with q1 | q2
  ·
    subst p2
    rcases B3 with q3 | q4
    ·
      subst p3
      have k5 : Go p e below m W s₁ 1 #[.val (.ref a1), .val (.int (0 : Int32)), .val (.int (0 : Int32))] [(.ref a1)] := k0.aloadN X0 hx (hb hby d_rma2_0) rfl rfl
      obtain ⟨T6, v6, L6, X6, Q6, k6⟩ := k5.virtUp (y := (⟨"com/example/paddlefish/paddlefish/BooleanExpression$Operator", "ordinal", "()I"⟩ : MethodName)) (z := (⟨"java/lang/Enum", "ordinal", "()I"⟩ : MethodName)) (owner := "java/lang/Enum") (Wd := 0) (cells' := 0) (slots' := 0) (argsL := []) (rest := []) X0 hx hZ hown (by rw [hml]; rfl) (hv 13 rfl) (hv 14 rfl) (hv 15 rfl) (hv 17 rfl) (hv 16 rfl) (hv 19 rfl) (hv 18 rfl) (hb hby d_rma2_1) (by decide) (rmo l Z a0 hw [] a1 (2 : Int32) h0 n0 Z0 F1) e0 E1 rfl rfl pd_rma2_0 rfl (Nat.le_of_eq rfl) (by decide) (by decide) rfl rfl (by decide) (by decide)
      obtain ⟨rfl, Nq6, e6q⟩ := Q6
      have N6 := Fr.app N0 Nq6
      have e6 : T6.heap = h0 := e6q
      have k6 : Go p e below m W T6 4 #[.val (.ref a1), .val (.int (0 : Int32)), .val (.int (0 : Int32))] [(.int (2 : Int32))] := k6
      have k7 : Go p e below m W T6 105 #[.val (.ref a1), .val (.int (0 : Int32)), .val (.int (0 : Int32))] [(.int (0 : Int32))] := ((((k6.tsw X6 hx (hb hby d_rma2_4) (by decide) (o := 75) (by decide) (by decide) (by decide)).iloadN X6 hx (hb hby d_rma2_79) rfl).ifYes X6 hx (hb hby d_rma2_80) (XT.i0_eq_t (by decide)) (by decide) (by decide)).iconst X6 hx (hb hby d_rma2_91) (v := (0 : Int32)) rfl).goto X6 hx (hb hby d_rma2_92) (by decide) (by decide)
      exact k7.ireturnN X6 hx (t := .boolean) Bd.returns (by simp) rfl (hb hby d_rma2_105) (BodyLoose.notSynchronized Bd) (by rw [e6]; exact ⟨(0 : Int32), rfl, N6, rfl, (by decide)⟩) (by decide) (by decide)
    ·
      subst p3
      have k8 : Go p e below m W s₁ 1 #[.val (.ref a1), .val (.int (0 : Int32)), .val (.int (1 : Int32))] [(.ref a1)] := k0.aloadN X0 hx (hb hby d_rma2_0) rfl rfl
      obtain ⟨T9, v9, L9, X9, Q9, k9⟩ := k8.virtUp (y := (⟨"com/example/paddlefish/paddlefish/BooleanExpression$Operator", "ordinal", "()I"⟩ : MethodName)) (z := (⟨"java/lang/Enum", "ordinal", "()I"⟩ : MethodName)) (owner := "java/lang/Enum") (Wd := 0) (cells' := 0) (slots' := 0) (argsL := []) (rest := []) X0 hx hZ hown (by rw [hml]; rfl) (hv 13 rfl) (hv 14 rfl) (hv 15 rfl) (hv 17 rfl) (hv 16 rfl) (hv 19 rfl) (hv 18 rfl) (hb hby d_rma2_1) (by decide) (rmo l Z a0 hw [] a1 (2 : Int32) h0 n0 Z0 F1) e0 E1 rfl rfl pd_rma2_0 rfl (Nat.le_of_eq rfl) (by decide) (by decide) rfl rfl (by decide) (by decide)
      obtain ⟨rfl, Nq9, e9q⟩ := Q9
      have N9 := Fr.app N0 Nq9
      have e9 : T9.heap = h0 := e9q
      have k9 : Go p e below m W T9 4 #[.val (.ref a1), .val (.int (0 : Int32)), .val (.int (1 : Int32))] [(.int (2 : Int32))] := k9
      have k10 : Go p e below m W T9 105 #[.val (.ref a1), .val (.int (0 : Int32)), .val (.int (1 : Int32))] [(.int (0 : Int32))] := ((((k9.tsw X9 hx (hb hby d_rma2_4) (by decide) (o := 75) (by decide) (by decide) (by decide)).iloadN X9 hx (hb hby d_rma2_79) rfl).ifYes X9 hx (hb hby d_rma2_80) (XT.i0_eq_t (by decide)) (by decide) (by decide)).iconst X9 hx (hb hby d_rma2_91) (v := (0 : Int32)) rfl).goto X9 hx (hb hby d_rma2_92) (by decide) (by decide)
      exact k10.ireturnN X9 hx (t := .boolean) Bd.returns (by simp) rfl (hb hby d_rma2_105) (BodyLoose.notSynchronized Bd) (by rw [e9]; exact ⟨(0 : Int32), rfl, N9, rfl, (by decide)⟩) (by decide) (by decide)
  ·
    subst p2
    rcases B3 with q11 | q12
    ·
      subst p3
      have k13 : Go p e below m W s₁ 1 #[.val (.ref a1), .val (.int (1 : Int32)), .val (.int (0 : Int32))] [(.ref a1)] := k0.aloadN X0 hx (hb hby d_rma2_0) rfl rfl
      obtain ⟨T14, v14, L14, X14, Q14, k14⟩ := k13.virtUp (y := (⟨"com/example/paddlefish/paddlefish/BooleanExpression$Operator", "ordinal", "()I"⟩ : MethodName)) (z := (⟨"java/lang/Enum", "ordinal", "()I"⟩ : MethodName)) (owner := "java/lang/Enum") (Wd := 0) (cells' := 0) (slots' := 0) (argsL := []) (rest := []) X0 hx hZ hown (by rw [hml]; rfl) (hv 13 rfl) (hv 14 rfl) (hv 15 rfl) (hv 17 rfl) (hv 16 rfl) (hv 19 rfl) (hv 18 rfl) (hb hby d_rma2_1) (by decide) (rmo l Z a0 hw [] a1 (2 : Int32) h0 n0 Z0 F1) e0 E1 rfl rfl pd_rma2_0 rfl (Nat.le_of_eq rfl) (by decide) (by decide) rfl rfl (by decide) (by decide)
      obtain ⟨rfl, Nq14, e14q⟩ := Q14
      have N14 := Fr.app N0 Nq14
      have e14 : T14.heap = h0 := e14q
      have k14 : Go p e below m W T14 4 #[.val (.ref a1), .val (.int (1 : Int32)), .val (.int (0 : Int32))] [(.int (2 : Int32))] := k14
      have k15 : Go p e below m W T14 105 #[.val (.ref a1), .val (.int (1 : Int32)), .val (.int (0 : Int32))] [(.int (0 : Int32))] := ((((((k14.tsw X14 hx (hb hby d_rma2_4) (by decide) (o := 75) (by decide) (by decide) (by decide)).iloadN X14 hx (hb hby d_rma2_79) rfl).ifNo X14 hx (hb hby d_rma2_80) (XT.i0_eq_f (by decide))).iloadN X14 hx (hb hby d_rma2_83) rfl).ifYes X14 hx (hb hby d_rma2_84) (XT.i0_eq_t (by decide)) (by decide) (by decide)).iconst X14 hx (hb hby d_rma2_91) (v := (0 : Int32)) rfl).goto X14 hx (hb hby d_rma2_92) (by decide) (by decide)
      exact k15.ireturnN X14 hx (t := .boolean) Bd.returns (by simp) rfl (hb hby d_rma2_105) (BodyLoose.notSynchronized Bd) (by rw [e14]; exact ⟨(0 : Int32), rfl, N14, rfl, (by decide)⟩) (by decide) (by decide)
    ·
      subst p3
      have k16 : Go p e below m W s₁ 1 #[.val (.ref a1), .val (.int (1 : Int32)), .val (.int (1 : Int32))] [(.ref a1)] := k0.aloadN X0 hx (hb hby d_rma2_0) rfl rfl
      obtain ⟨T17, v17, L17, X17, Q17, k17⟩ := k16.virtUp (y := (⟨"com/example/paddlefish/paddlefish/BooleanExpression$Operator", "ordinal", "()I"⟩ : MethodName)) (z := (⟨"java/lang/Enum", "ordinal", "()I"⟩ : MethodName)) (owner := "java/lang/Enum") (Wd := 0) (cells' := 0) (slots' := 0) (argsL := []) (rest := []) X0 hx hZ hown (by rw [hml]; rfl) (hv 13 rfl) (hv 14 rfl) (hv 15 rfl) (hv 17 rfl) (hv 16 rfl) (hv 19 rfl) (hv 18 rfl) (hb hby d_rma2_1) (by decide) (rmo l Z a0 hw [] a1 (2 : Int32) h0 n0 Z0 F1) e0 E1 rfl rfl pd_rma2_0 rfl (Nat.le_of_eq rfl) (by decide) (by decide) rfl rfl (by decide) (by decide)
      obtain ⟨rfl, Nq17, e17q⟩ := Q17
      have N17 := Fr.app N0 Nq17
      have e17 : T17.heap = h0 := e17q
      have k17 : Go p e below m W T17 4 #[.val (.ref a1), .val (.int (1 : Int32)), .val (.int (1 : Int32))] [(.int (2 : Int32))] := k17
      have k18 : Go p e below m W T17 105 #[.val (.ref a1), .val (.int (1 : Int32)), .val (.int (1 : Int32))] [(.int (1 : Int32))] := ((((((k17.tsw X17 hx (hb hby d_rma2_4) (by decide) (o := 75) (by decide) (by decide) (by decide)).iloadN X17 hx (hb hby d_rma2_79) rfl).ifNo X17 hx (hb hby d_rma2_80) (XT.i0_eq_f (by decide))).iloadN X17 hx (hb hby d_rma2_83) rfl).ifNo X17 hx (hb hby d_rma2_84) (XT.i0_eq_f (by decide))).iconst X17 hx (hb hby d_rma2_87) (v := (1 : Int32)) rfl).goto X17 hx (hb hby d_rma2_88) (by decide) (by decide)
      exact k18.ireturnN X17 hx (t := .boolean) Bd.returns (by simp) rfl (hb hby d_rma2_105) (BodyLoose.notSynchronized Bd) (by rw [e17]; exact ⟨(1 : Int32), rfl, N17, rfl, (by decide)⟩) (by decide) (by decide)

theorem d_rmc2_0 : decode method_3_code 0 = .ok (.aload_n 0, 1) := by decide +kernel
theorem d_rmc2_1 : decode method_3_code 1 = .ok (.iload_n 2, 1) := by decide +kernel
theorem d_rmc2_2 : decode method_3_code 2 = .ok (.iload_n 3, 1) := by decide +kernel
theorem d_rmc2_3 : decode method_3_code 3 = .ok (.invokevirtual 7, 3) := by decide +kernel
theorem d_rmc2_6 : decode method_3_code 6 = .ok (.iload_n 1, 1) := by decide +kernel
theorem d_rmc2_7 : decode method_3_code 7 = .ok (.iload_n 2, 1) := by decide +kernel
theorem d_rmc2_8 : decode method_3_code 8 = .ok (.iload_n 3, 1) := by decide +kernel
theorem d_rmc2_9 : decode method_3_code 9 = .ok (.invokestatic 13, 3) := by decide +kernel
theorem d_rmc2_12 : decode method_3_code 12 = .ok (.if_icmp .ne 7, 3) := by decide +kernel
theorem d_rmc2_15 : decode method_3_code 15 = .ok (.iconst 1, 1) := by decide +kernel
theorem d_rmc2_16 : decode method_3_code 16 = .ok (.goto 4, 3) := by decide +kernel
theorem d_rmc2_20 : decode method_3_code 20 = .ok (.ireturn, 1) := by decide +kernel
theorem pn_rmc2 : plainName "com/example/paddlefish/paddlefish/OperatorApplyPinLaw" = true := by first | (simp [plainName, overriddenIn]; done) | decide +kernel
theorem pd_rmc2_0 : parseMethodDescriptor "(ZZ)Z" = some ⟨[.boolean, .boolean], (some .boolean)⟩ := by decide +kernel
theorem pd_rmc2_1 : parseMethodDescriptor "(IZZ)Z" = some ⟨[.int, .boolean, .boolean], (some .boolean)⟩ := by decide +kernel
theorem ef_rmc2 (m : MethodId) (a1 : Addr) (p2 : Int32) (p3 : Int32) : entryFrame m #[(.ref a1), (.int (8 : Int32)), (.int p2), (.int p3)] 4 = mkF m 0 #[.val (.ref a1), .val (.int (8 : Int32)), .val (.int p2), .val (.int p3)] [] := by first | (simp [entryFrame, mkF, argsToLocals, Value.category]; done) | rfl
def Q_rmc2 (Z : State) (a1 : Addr) (p2 : Int32) (p3 : Int32) (h0 : Heap) (n0 : Nat) (v : Option Value) (h : Heap) (L : List Loc) : Prop := v = some (.int (1 : Int32)) ∧ Fr n0 L ∧ h = h0
set_option maxRecDepth 65536 in
set_option maxHeartbeats 40000000 in
theorem rmc2 (l : Launch) (Z : State) (a0 : Array Value) (hw : ∀ d ∈ tables_1, d.before a0 Z = true) (ws : List Jvm.Cond) (a1 : Addr) (p2 : Int32) (p3 : Int32) (h0 : Heap) (n0 : Nat) (Z0 : n0 ≤ h0.size) (F1 : Fld Z h0 a1 "java/lang/Enum" "ordinal" "I" (.int (2 : Int32))) (E1 : Exa Z h0 a1 "com/example/paddlefish/paddlefish/BooleanExpression$Operator") (B2 : p2 = 0 ∨ p2 = 1) (B3 : p3 = 0 ∨ p3 = 1) :
    MetFree l (⟨"com/example/paddlefish/paddlefish/OperatorApplyPinLaw", "check", "(Lcom/example/paddlefish/paddlefish/BooleanExpression$Operator;IZZ)Z"⟩ : MethodName) (head1 (Jvm.Cond.code (⟨"com/example/paddlefish/paddlefish/OperatorApplyPinLaw", "check", "(Lcom/example/paddlefish/paddlefish/BooleanExpression$Operator;IZZ)Z"⟩ : MethodName) method_3_code 4 (some .boolean) :: ws) ({ frames := 2, cells := 0, slots := 0, locals := 26 } : Room)) (fun a U => a = #[(.ref a1), (.int (8 : Int32)), (.int p2), (.int p3)] ∧ Z.Warmed39 U.vm ∧ U.heap = h0) (fun _ _ _ _ _ => True) (fun _ U o U' => ∃ v L, o = .returned v ∧ Q_rmc2 Z a1 p2 p3 h0 n0 v U'.heap L ∧ FrameEnd U o U' L ({ frames := 2, cells := 0, slots := 0, locals := 26 } : Room).cells ({ frames := 2, cells := 0, slots := 0, locals := 26 } : Room).slots) := by
  refine MetFree.of_bodySF (plainFor_of_name pn_rmc2) hisR ?_
  intro p e s m args_ below meth c s₁ Bd hml0 hP hK
  obtain ⟨hargs, hZ, hh⟩ := hP
  have hx := Bd.exec
  have hby := Bd.bytes
  have hml : c.maxLocals = 4 := hml0
  have hown : s.vm.findClass "com/example/paddlefish/paddlefish/OperatorApplyPinLaw" = some m.cls := findClass_of_methodNamed Bd.named
  have hnm := (name_of_methodNamed Bd.named Bd.method).1
  have X0 : Stand p l e ({ frames := 2, cells := 0, slots := 0, locals := 26 } : Room) s m args_ below meth c s₁ [] 0 0 := Stand.of_body Bd
  have e0 : s₁.heap = h0 := by rw [← hh, Bd.state]; rfl
  have N0 := Fr.nil n0
  have hv : ∀ (i : Nat) {d : Jvm.Cond}, tables_1[i]? = some d → d.before a0 Z = true := fun i d q => hw d (List.mem_of_getElem? q)
  have k0 : Go p e below m (s₁.setTop (entryFrame m args_ 4)) s₁ 0 #[.val (.ref a1), .val (.int (8 : Int32)), .val (.int p2), .val (.int p3)] [] := by rw [hargs]; exact fun t kt => castTop (ef_rmc2 m a1 p2 p3) kt
  obtain ⟨W, hWW⟩ : ∃ W, W = s₁.setTop (entryFrame m args_ 4) := ⟨_, rfl⟩
  rw [← hWW] at k0 ⊢
  show Done p e below s W (Q_rmc2 Z a1 p2 p3 h0 n0) ({ frames := 2, cells := 0, slots := 0, locals := 26 } : Room).cells ({ frames := 2, cells := 0, slots := 0, locals := 26 } : Room).slots
  have k1 : Go p e below m W s₁ 3 #[.val (.ref a1), .val (.int (8 : Int32)), .val (.int p2), .val (.int p3)] [(.int p3), (.int p2), (.ref a1)] := ((k0.aloadN X0 hx (hb hby d_rmc2_0) rfl rfl).iloadN X0 hx (hb hby d_rmc2_1) rfl).iloadN X0 hx (hb hby d_rmc2_2) rfl
  obtain ⟨T2, v2, L2, X2, Q2, k2⟩ := k1.virt (y := (⟨"com/example/paddlefish/paddlefish/BooleanExpression$Operator", "apply", "(ZZ)Z"⟩ : MethodName)) (z := (⟨"com/example/paddlefish/paddlefish/BooleanExpression$Operator", "apply", "(ZZ)Z"⟩ : MethodName)) (Wd := 0) (cells' := 0) (slots' := 0) (argsL := [(.int p2), (.int p3)]) (rest := []) X0 hx hZ hown (by rw [hml]; rfl) (hv 8 rfl) (hv 9 rfl) (notFace_of_selects (args := #[]) (mvT hZ (hv 11 rfl))) (hv 11 rfl) (hv 10 rfl) (hv 12 rfl) (hv 2 rfl) (hb hby d_rmc2_3) (by decide) (rma2 l Z a0 hw [] a1 p2 p3 h0 n0 Z0 F1 E1 B2 B3) e0 E1 rfl rfl pd_rmc2_0 rfl (Nat.le_of_eq rfl) (by decide) (by decide) rfl rfl (by decide) (by decide)
  obtain ⟨r_2, rfl, Nq2, e2q, p2_0⟩ := Q2
  have N2 := Fr.app N0 Nq2
  have e2 : T2.heap = h0 := e2q
  have k2 : Go p e below m W T2 6 #[.val (.ref a1), .val (.int (8 : Int32)), .val (.int p2), .val (.int p3)] [(.int r_2)] := k2
  have k3 : Go p e below m W T2 9 #[.val (.ref a1), .val (.int (8 : Int32)), .val (.int p2), .val (.int p3)] [(.int p3), (.int p2), (.int (8 : Int32)), (.int r_2)] := ((k2.iloadN X2 hx (hb hby d_rmc2_6) rfl).iloadN X2 hx (hb hby d_rmc2_7) rfl).iloadN X2 hx (hb hby d_rmc2_8) rfl
  obtain ⟨T4, v4, L4, X4, Q4, k4⟩ := k3.stat (y := (⟨"com/example/paddlefish/paddlefish/OperatorApplyPinLaw", "bit", "(IZZ)Z"⟩ : MethodName)) (Wd := 1) (cells' := 0) (slots' := 0) (argsL := [(.int (8 : Int32)), (.int p2), (.int p3)]) (rest := [(.int r_2)]) X2 hx hZ hown (by rw [hml]; rfl) (hv 22 rfl) (hv 23 rfl) (hv 24 rfl) (hv 6 rfl) (hb hby d_rmc2_9) (by decide) (rmb8 l Z a0 hw [] p2 p3 h0 n0 Z0 B2 B3) e2 rfl rfl pd_rmc2_1 rfl (Nat.le_of_eq rfl) (by decide) (by decide) rfl rfl (by decide) (by decide)
  obtain ⟨r_4, rfl, Nq4, e4q, p4_0⟩ := Q4
  have N4 := Fr.app N2 Nq4
  have e4 : T4.heap = h0 := e4q
  have k4 : Go p e below m W T4 12 #[.val (.ref a1), .val (.int (8 : Int32)), .val (.int p2), .val (.int p3)] [(.int r_4), (.int r_2)] := k4
  have k5 : Go p e below m W T4 20 #[.val (.ref a1), .val (.int (8 : Int32)), .val (.int p2), .val (.int p3)] [(.int (1 : Int32))] := ((k4.icmpNo X4 hx (hb hby d_rmc2_12) (XT.ii_ne_f (p2_0.trans p4_0.symm))).iconst X4 hx (hb hby d_rmc2_15) (v := (1 : Int32)) rfl).goto X4 hx (hb hby d_rmc2_16) (by decide) (by decide)
  exact k5.ireturnN X4 hx (t := .boolean) Bd.returns (by simp) rfl (hb hby d_rmc2_20) (BodyLoose.notSynchronized Bd) (by rw [e4]; exact ⟨rfl, N4, rfl⟩) (by decide) (by decide)

theorem d_rma3_0 : decode prog_6_method_6_code 0 = .ok (.aload_n 0, 1) := by decide +kernel
theorem d_rma3_1 : decode prog_6_method_6_code 1 = .ok (.invokevirtual 46, 3) := by decide +kernel
theorem d_rma3_4 : decode prog_6_method_6_code 4 = .ok (.tableswitch 36 0 4 #[46, 62, 75, 91, 62], 36) := by decide +kernel
theorem d_rma3_95 : decode prog_6_method_6_code 95 = .ok (.iload_n 1, 1) := by decide +kernel
theorem d_rma3_96 : decode prog_6_method_6_code 96 = .ok (.iload_n 2, 1) := by decide +kernel
theorem d_rma3_97 : decode prog_6_method_6_code 97 = .ok (.if_icmp .ne 7, 3) := by decide +kernel
theorem d_rma3_100 : decode prog_6_method_6_code 100 = .ok (.iconst 1, 1) := by decide +kernel
theorem d_rma3_101 : decode prog_6_method_6_code 101 = .ok (.goto 4, 3) := by decide +kernel
theorem d_rma3_104 : decode prog_6_method_6_code 104 = .ok (.iconst 0, 1) := by decide +kernel
theorem d_rma3_105 : decode prog_6_method_6_code 105 = .ok (.ireturn, 1) := by decide +kernel
theorem pn_rma3 : plainName "com/example/paddlefish/paddlefish/BooleanExpression$Operator" = true := by first | (simp [plainName, overriddenIn]; done) | decide +kernel
theorem pd_rma3_0 : parseMethodDescriptor "()I" = some ⟨[], (some .int)⟩ := by decide +kernel
theorem ef_rma3 (m : MethodId) (a1 : Addr) (p2 : Int32) (p3 : Int32) : entryFrame m #[(.ref a1), (.int p2), (.int p3)] 3 = mkF m 0 #[.val (.ref a1), .val (.int p2), .val (.int p3)] [] := by first | (simp [entryFrame, mkF, argsToLocals, Value.category]; done) | rfl
def Q_rma3 (Z : State) (a1 : Addr) (p2 : Int32) (p3 : Int32) (h0 : Heap) (n0 : Nat) (v : Option Value) (h : Heap) (L : List Loc) : Prop := ∃ (r : Int32), v = some (.int r) ∧ Fr n0 L ∧ h = h0 ∧ (r = (p2 ^^^ p3) ^^^ 1)
set_option maxRecDepth 65536 in
set_option maxHeartbeats 40000000 in
theorem rma3 (l : Launch) (Z : State) (a0 : Array Value) (hw : ∀ d ∈ tables_1, d.before a0 Z = true) (ws : List Jvm.Cond) (a1 : Addr) (p2 : Int32) (p3 : Int32) (h0 : Heap) (n0 : Nat) (Z0 : n0 ≤ h0.size) (F1 : Fld Z h0 a1 "java/lang/Enum" "ordinal" "I" (.int (3 : Int32))) (E1 : Exa Z h0 a1 "com/example/paddlefish/paddlefish/BooleanExpression$Operator") (B2 : p2 = 0 ∨ p2 = 1) (B3 : p3 = 0 ∨ p3 = 1) :
    MetFree l (⟨"com/example/paddlefish/paddlefish/BooleanExpression$Operator", "apply", "(ZZ)Z"⟩ : MethodName) (head1 (Jvm.Cond.code (⟨"com/example/paddlefish/paddlefish/BooleanExpression$Operator", "apply", "(ZZ)Z"⟩ : MethodName) prog_6_method_6_code 3 (some .boolean) :: ws) ({ frames := 1, cells := 0, slots := 0, locals := 12 } : Room)) (fun a U => a = #[(.ref a1), (.int p2), (.int p3)] ∧ Z.Warmed39 U.vm ∧ U.heap = h0) (fun _ _ _ _ _ => True) (fun _ U o U' => ∃ v L, o = .returned v ∧ Q_rma3 Z a1 p2 p3 h0 n0 v U'.heap L ∧ FrameEnd U o U' L ({ frames := 1, cells := 0, slots := 0, locals := 12 } : Room).cells ({ frames := 1, cells := 0, slots := 0, locals := 12 } : Room).slots) := by
  refine MetFree.of_bodySF (plainFor_of_name pn_rma3) hisR ?_
  intro p e s m args_ below meth c s₁ Bd hml0 hP hK
  obtain ⟨hargs, hZ, hh⟩ := hP
  have hx := Bd.exec
  have hby := Bd.bytes
  have hml : c.maxLocals = 3 := hml0
  have hown : s.vm.findClass "com/example/paddlefish/paddlefish/BooleanExpression$Operator" = some m.cls := findClass_of_methodNamed Bd.named
  have hnm := (name_of_methodNamed Bd.named Bd.method).1
  have X0 : Stand p l e ({ frames := 1, cells := 0, slots := 0, locals := 12 } : Room) s m args_ below meth c s₁ [] 0 0 := Stand.of_body Bd
  have e0 : s₁.heap = h0 := by rw [← hh, Bd.state]; rfl
  have N0 := Fr.nil n0
  have hv : ∀ (i : Nat) {d : Jvm.Cond}, tables_1[i]? = some d → d.before a0 Z = true := fun i d q => hw d (List.mem_of_getElem? q)
  have k0 : Go p e below m (s₁.setTop (entryFrame m args_ 3)) s₁ 0 #[.val (.ref a1), .val (.int p2), .val (.int p3)] [] := by rw [hargs]; exact fun t kt => castTop (ef_rma3 m a1 p2 p3) kt
  obtain ⟨W, hWW⟩ : ∃ W, W = s₁.setTop (entryFrame m args_ 3) := ⟨_, rfl⟩
  rw [← hWW] at k0 ⊢
  show Done p e below s W (Q_rma3 Z a1 p2 p3 h0 n0) ({ frames := 1, cells := 0, slots := 0, locals := 12 } : Room).cells ({ frames := 1, cells := 0, slots := 0, locals := 12 } : Room).slots
  rcases B2 with q1 | q2
  ·
    subst p2
    rcases B3 with q3 | q4
    ·
      subst p3
      have k5 : Go p e below m W s₁ 1 #[.val (.ref a1), .val (.int (0 : Int32)), .val (.int (0 : Int32))] [(.ref a1)] := k0.aloadN X0 hx (hb hby d_rma3_0) rfl rfl
      obtain ⟨T6, v6, L6, X6, Q6, k6⟩ := k5.virtUp (y := (⟨"com/example/paddlefish/paddlefish/BooleanExpression$Operator", "ordinal", "()I"⟩ : MethodName)) (z := (⟨"java/lang/Enum", "ordinal", "()I"⟩ : MethodName)) (owner := "java/lang/Enum") (Wd := 0) (cells' := 0) (slots' := 0) (argsL := []) (rest := []) X0 hx hZ hown (by rw [hml]; rfl) (hv 13 rfl) (hv 14 rfl) (hv 15 rfl) (hv 17 rfl) (hv 16 rfl) (hv 19 rfl) (hv 18 rfl) (hb hby d_rma3_1) (by decide) (rmo l Z a0 hw [] a1 (3 : Int32) h0 n0 Z0 F1) e0 E1 rfl rfl pd_rma3_0 rfl (Nat.le_of_eq rfl) (by decide) (by decide) rfl rfl (by decide) (by decide)
      obtain ⟨rfl, Nq6, e6q⟩ := Q6
      have N6 := Fr.app N0 Nq6
      have e6 : T6.heap = h0 := e6q
      have k6 : Go p e below m W T6 4 #[.val (.ref a1), .val (.int (0 : Int32)), .val (.int (0 : Int32))] [(.int (3 : Int32))] := k6
      have k7 : Go p e below m W T6 105 #[.val (.ref a1), .val (.int (0 : Int32)), .val (.int (0 : Int32))] [(.int (1 : Int32))] := (((((k6.tsw X6 hx (hb hby d_rma3_4) (by decide) (o := 91) (by decide) (by decide) (by decide)).iloadN X6 hx (hb hby d_rma3_95) rfl).iloadN X6 hx (hb hby d_rma3_96) rfl).icmpNo X6 hx (hb hby d_rma3_97) (XT.ii_ne_f (by decide))).iconst X6 hx (hb hby d_rma3_100) (v := (1 : Int32)) rfl).goto X6 hx (hb hby d_rma3_101) (by decide) (by decide)
      exact k7.ireturnN X6 hx (t := .boolean) Bd.returns (by simp) rfl (hb hby d_rma3_105) (BodyLoose.notSynchronized Bd) (by rw [e6]; exact ⟨(1 : Int32), rfl, N6, rfl, (by decide)⟩) (by decide) (by decide)
    ·
      subst p3
      have k8 : Go p e below m W s₁ 1 #[.val (.ref a1), .val (.int (0 : Int32)), .val (.int (1 : Int32))] [(.ref a1)] := k0.aloadN X0 hx (hb hby d_rma3_0) rfl rfl
      obtain ⟨T9, v9, L9, X9, Q9, k9⟩ := k8.virtUp (y := (⟨"com/example/paddlefish/paddlefish/BooleanExpression$Operator", "ordinal", "()I"⟩ : MethodName)) (z := (⟨"java/lang/Enum", "ordinal", "()I"⟩ : MethodName)) (owner := "java/lang/Enum") (Wd := 0) (cells' := 0) (slots' := 0) (argsL := []) (rest := []) X0 hx hZ hown (by rw [hml]; rfl) (hv 13 rfl) (hv 14 rfl) (hv 15 rfl) (hv 17 rfl) (hv 16 rfl) (hv 19 rfl) (hv 18 rfl) (hb hby d_rma3_1) (by decide) (rmo l Z a0 hw [] a1 (3 : Int32) h0 n0 Z0 F1) e0 E1 rfl rfl pd_rma3_0 rfl (Nat.le_of_eq rfl) (by decide) (by decide) rfl rfl (by decide) (by decide)
      obtain ⟨rfl, Nq9, e9q⟩ := Q9
      have N9 := Fr.app N0 Nq9
      have e9 : T9.heap = h0 := e9q
      have k9 : Go p e below m W T9 4 #[.val (.ref a1), .val (.int (0 : Int32)), .val (.int (1 : Int32))] [(.int (3 : Int32))] := k9
      have k10 : Go p e below m W T9 105 #[.val (.ref a1), .val (.int (0 : Int32)), .val (.int (1 : Int32))] [(.int (0 : Int32))] := ((((k9.tsw X9 hx (hb hby d_rma3_4) (by decide) (o := 91) (by decide) (by decide) (by decide)).iloadN X9 hx (hb hby d_rma3_95) rfl).iloadN X9 hx (hb hby d_rma3_96) rfl).icmpYes X9 hx (hb hby d_rma3_97) (XT.ii_ne_t (by decide)) (by decide) (by decide)).iconst X9 hx (hb hby d_rma3_104) (v := (0 : Int32)) rfl
      exact k10.ireturnN X9 hx (t := .boolean) Bd.returns (by simp) rfl (hb hby d_rma3_105) (BodyLoose.notSynchronized Bd) (by rw [e9]; exact ⟨(0 : Int32), rfl, N9, rfl, (by decide)⟩) (by decide) (by decide)
  ·
    subst p2
    rcases B3 with q11 | q12
    ·
      subst p3
      have k13 : Go p e below m W s₁ 1 #[.val (.ref a1), .val (.int (1 : Int32)), .val (.int (0 : Int32))] [(.ref a1)] := k0.aloadN X0 hx (hb hby d_rma3_0) rfl rfl
      obtain ⟨T14, v14, L14, X14, Q14, k14⟩ := k13.virtUp (y := (⟨"com/example/paddlefish/paddlefish/BooleanExpression$Operator", "ordinal", "()I"⟩ : MethodName)) (z := (⟨"java/lang/Enum", "ordinal", "()I"⟩ : MethodName)) (owner := "java/lang/Enum") (Wd := 0) (cells' := 0) (slots' := 0) (argsL := []) (rest := []) X0 hx hZ hown (by rw [hml]; rfl) (hv 13 rfl) (hv 14 rfl) (hv 15 rfl) (hv 17 rfl) (hv 16 rfl) (hv 19 rfl) (hv 18 rfl) (hb hby d_rma3_1) (by decide) (rmo l Z a0 hw [] a1 (3 : Int32) h0 n0 Z0 F1) e0 E1 rfl rfl pd_rma3_0 rfl (Nat.le_of_eq rfl) (by decide) (by decide) rfl rfl (by decide) (by decide)
      obtain ⟨rfl, Nq14, e14q⟩ := Q14
      have N14 := Fr.app N0 Nq14
      have e14 : T14.heap = h0 := e14q
      have k14 : Go p e below m W T14 4 #[.val (.ref a1), .val (.int (1 : Int32)), .val (.int (0 : Int32))] [(.int (3 : Int32))] := k14
      have k15 : Go p e below m W T14 105 #[.val (.ref a1), .val (.int (1 : Int32)), .val (.int (0 : Int32))] [(.int (0 : Int32))] := ((((k14.tsw X14 hx (hb hby d_rma3_4) (by decide) (o := 91) (by decide) (by decide) (by decide)).iloadN X14 hx (hb hby d_rma3_95) rfl).iloadN X14 hx (hb hby d_rma3_96) rfl).icmpYes X14 hx (hb hby d_rma3_97) (XT.ii_ne_t (by decide)) (by decide) (by decide)).iconst X14 hx (hb hby d_rma3_104) (v := (0 : Int32)) rfl
      exact k15.ireturnN X14 hx (t := .boolean) Bd.returns (by simp) rfl (hb hby d_rma3_105) (BodyLoose.notSynchronized Bd) (by rw [e14]; exact ⟨(0 : Int32), rfl, N14, rfl, (by decide)⟩) (by decide) (by decide)
    ·
      subst p3
      have k16 : Go p e below m W s₁ 1 #[.val (.ref a1), .val (.int (1 : Int32)), .val (.int (1 : Int32))] [(.ref a1)] := k0.aloadN X0 hx (hb hby d_rma3_0) rfl rfl
      obtain ⟨T17, v17, L17, X17, Q17, k17⟩ := k16.virtUp (y := (⟨"com/example/paddlefish/paddlefish/BooleanExpression$Operator", "ordinal", "()I"⟩ : MethodName)) (z := (⟨"java/lang/Enum", "ordinal", "()I"⟩ : MethodName)) (owner := "java/lang/Enum") (Wd := 0) (cells' := 0) (slots' := 0) (argsL := []) (rest := []) X0 hx hZ hown (by rw [hml]; rfl) (hv 13 rfl) (hv 14 rfl) (hv 15 rfl) (hv 17 rfl) (hv 16 rfl) (hv 19 rfl) (hv 18 rfl) (hb hby d_rma3_1) (by decide) (rmo l Z a0 hw [] a1 (3 : Int32) h0 n0 Z0 F1) e0 E1 rfl rfl pd_rma3_0 rfl (Nat.le_of_eq rfl) (by decide) (by decide) rfl rfl (by decide) (by decide)
      obtain ⟨rfl, Nq17, e17q⟩ := Q17
      have N17 := Fr.app N0 Nq17
      have e17 : T17.heap = h0 := e17q
      have k17 : Go p e below m W T17 4 #[.val (.ref a1), .val (.int (1 : Int32)), .val (.int (1 : Int32))] [(.int (3 : Int32))] := k17
      have k18 : Go p e below m W T17 105 #[.val (.ref a1), .val (.int (1 : Int32)), .val (.int (1 : Int32))] [(.int (1 : Int32))] := (((((k17.tsw X17 hx (hb hby d_rma3_4) (by decide) (o := 91) (by decide) (by decide) (by decide)).iloadN X17 hx (hb hby d_rma3_95) rfl).iloadN X17 hx (hb hby d_rma3_96) rfl).icmpNo X17 hx (hb hby d_rma3_97) (XT.ii_ne_f (by decide))).iconst X17 hx (hb hby d_rma3_100) (v := (1 : Int32)) rfl).goto X17 hx (hb hby d_rma3_101) (by decide) (by decide)
      exact k18.ireturnN X17 hx (t := .boolean) Bd.returns (by simp) rfl (hb hby d_rma3_105) (BodyLoose.notSynchronized Bd) (by rw [e17]; exact ⟨(1 : Int32), rfl, N17, rfl, (by decide)⟩) (by decide) (by decide)

theorem d_rmc3_0 : decode method_3_code 0 = .ok (.aload_n 0, 1) := by decide +kernel
theorem d_rmc3_1 : decode method_3_code 1 = .ok (.iload_n 2, 1) := by decide +kernel
theorem d_rmc3_2 : decode method_3_code 2 = .ok (.iload_n 3, 1) := by decide +kernel
theorem d_rmc3_3 : decode method_3_code 3 = .ok (.invokevirtual 7, 3) := by decide +kernel
theorem d_rmc3_6 : decode method_3_code 6 = .ok (.iload_n 1, 1) := by decide +kernel
theorem d_rmc3_7 : decode method_3_code 7 = .ok (.iload_n 2, 1) := by decide +kernel
theorem d_rmc3_8 : decode method_3_code 8 = .ok (.iload_n 3, 1) := by decide +kernel
theorem d_rmc3_9 : decode method_3_code 9 = .ok (.invokestatic 13, 3) := by decide +kernel
theorem d_rmc3_12 : decode method_3_code 12 = .ok (.if_icmp .ne 7, 3) := by decide +kernel
theorem d_rmc3_15 : decode method_3_code 15 = .ok (.iconst 1, 1) := by decide +kernel
theorem d_rmc3_16 : decode method_3_code 16 = .ok (.goto 4, 3) := by decide +kernel
theorem d_rmc3_20 : decode method_3_code 20 = .ok (.ireturn, 1) := by decide +kernel
theorem pn_rmc3 : plainName "com/example/paddlefish/paddlefish/OperatorApplyPinLaw" = true := by first | (simp [plainName, overriddenIn]; done) | decide +kernel
theorem pd_rmc3_0 : parseMethodDescriptor "(ZZ)Z" = some ⟨[.boolean, .boolean], (some .boolean)⟩ := by decide +kernel
theorem pd_rmc3_1 : parseMethodDescriptor "(IZZ)Z" = some ⟨[.int, .boolean, .boolean], (some .boolean)⟩ := by decide +kernel
theorem ef_rmc3 (m : MethodId) (a1 : Addr) (p2 : Int32) (p3 : Int32) : entryFrame m #[(.ref a1), (.int (9 : Int32)), (.int p2), (.int p3)] 4 = mkF m 0 #[.val (.ref a1), .val (.int (9 : Int32)), .val (.int p2), .val (.int p3)] [] := by first | (simp [entryFrame, mkF, argsToLocals, Value.category]; done) | rfl
def Q_rmc3 (Z : State) (a1 : Addr) (p2 : Int32) (p3 : Int32) (h0 : Heap) (n0 : Nat) (v : Option Value) (h : Heap) (L : List Loc) : Prop := v = some (.int (1 : Int32)) ∧ Fr n0 L ∧ h = h0
set_option maxRecDepth 65536 in
set_option maxHeartbeats 40000000 in
theorem rmc3 (l : Launch) (Z : State) (a0 : Array Value) (hw : ∀ d ∈ tables_1, d.before a0 Z = true) (ws : List Jvm.Cond) (a1 : Addr) (p2 : Int32) (p3 : Int32) (h0 : Heap) (n0 : Nat) (Z0 : n0 ≤ h0.size) (F1 : Fld Z h0 a1 "java/lang/Enum" "ordinal" "I" (.int (3 : Int32))) (E1 : Exa Z h0 a1 "com/example/paddlefish/paddlefish/BooleanExpression$Operator") (B2 : p2 = 0 ∨ p2 = 1) (B3 : p3 = 0 ∨ p3 = 1) :
    MetFree l (⟨"com/example/paddlefish/paddlefish/OperatorApplyPinLaw", "check", "(Lcom/example/paddlefish/paddlefish/BooleanExpression$Operator;IZZ)Z"⟩ : MethodName) (head1 (Jvm.Cond.code (⟨"com/example/paddlefish/paddlefish/OperatorApplyPinLaw", "check", "(Lcom/example/paddlefish/paddlefish/BooleanExpression$Operator;IZZ)Z"⟩ : MethodName) method_3_code 4 (some .boolean) :: ws) ({ frames := 2, cells := 0, slots := 0, locals := 26 } : Room)) (fun a U => a = #[(.ref a1), (.int (9 : Int32)), (.int p2), (.int p3)] ∧ Z.Warmed39 U.vm ∧ U.heap = h0) (fun _ _ _ _ _ => True) (fun _ U o U' => ∃ v L, o = .returned v ∧ Q_rmc3 Z a1 p2 p3 h0 n0 v U'.heap L ∧ FrameEnd U o U' L ({ frames := 2, cells := 0, slots := 0, locals := 26 } : Room).cells ({ frames := 2, cells := 0, slots := 0, locals := 26 } : Room).slots) := by
  refine MetFree.of_bodySF (plainFor_of_name pn_rmc3) hisR ?_
  intro p e s m args_ below meth c s₁ Bd hml0 hP hK
  obtain ⟨hargs, hZ, hh⟩ := hP
  have hx := Bd.exec
  have hby := Bd.bytes
  have hml : c.maxLocals = 4 := hml0
  have hown : s.vm.findClass "com/example/paddlefish/paddlefish/OperatorApplyPinLaw" = some m.cls := findClass_of_methodNamed Bd.named
  have hnm := (name_of_methodNamed Bd.named Bd.method).1
  have X0 : Stand p l e ({ frames := 2, cells := 0, slots := 0, locals := 26 } : Room) s m args_ below meth c s₁ [] 0 0 := Stand.of_body Bd
  have e0 : s₁.heap = h0 := by rw [← hh, Bd.state]; rfl
  have N0 := Fr.nil n0
  have hv : ∀ (i : Nat) {d : Jvm.Cond}, tables_1[i]? = some d → d.before a0 Z = true := fun i d q => hw d (List.mem_of_getElem? q)
  have k0 : Go p e below m (s₁.setTop (entryFrame m args_ 4)) s₁ 0 #[.val (.ref a1), .val (.int (9 : Int32)), .val (.int p2), .val (.int p3)] [] := by rw [hargs]; exact fun t kt => castTop (ef_rmc3 m a1 p2 p3) kt
  obtain ⟨W, hWW⟩ : ∃ W, W = s₁.setTop (entryFrame m args_ 4) := ⟨_, rfl⟩
  rw [← hWW] at k0 ⊢
  show Done p e below s W (Q_rmc3 Z a1 p2 p3 h0 n0) ({ frames := 2, cells := 0, slots := 0, locals := 26 } : Room).cells ({ frames := 2, cells := 0, slots := 0, locals := 26 } : Room).slots
  have k1 : Go p e below m W s₁ 3 #[.val (.ref a1), .val (.int (9 : Int32)), .val (.int p2), .val (.int p3)] [(.int p3), (.int p2), (.ref a1)] := ((k0.aloadN X0 hx (hb hby d_rmc3_0) rfl rfl).iloadN X0 hx (hb hby d_rmc3_1) rfl).iloadN X0 hx (hb hby d_rmc3_2) rfl
  obtain ⟨T2, v2, L2, X2, Q2, k2⟩ := k1.virt (y := (⟨"com/example/paddlefish/paddlefish/BooleanExpression$Operator", "apply", "(ZZ)Z"⟩ : MethodName)) (z := (⟨"com/example/paddlefish/paddlefish/BooleanExpression$Operator", "apply", "(ZZ)Z"⟩ : MethodName)) (Wd := 0) (cells' := 0) (slots' := 0) (argsL := [(.int p2), (.int p3)]) (rest := []) X0 hx hZ hown (by rw [hml]; rfl) (hv 8 rfl) (hv 9 rfl) (notFace_of_selects (args := #[]) (mvT hZ (hv 11 rfl))) (hv 11 rfl) (hv 10 rfl) (hv 12 rfl) (hv 2 rfl) (hb hby d_rmc3_3) (by decide) (rma3 l Z a0 hw [] a1 p2 p3 h0 n0 Z0 F1 E1 B2 B3) e0 E1 rfl rfl pd_rmc3_0 rfl (Nat.le_of_eq rfl) (by decide) (by decide) rfl rfl (by decide) (by decide)
  obtain ⟨r_2, rfl, Nq2, e2q, p2_0⟩ := Q2
  have N2 := Fr.app N0 Nq2
  have e2 : T2.heap = h0 := e2q
  have k2 : Go p e below m W T2 6 #[.val (.ref a1), .val (.int (9 : Int32)), .val (.int p2), .val (.int p3)] [(.int r_2)] := k2
  have k3 : Go p e below m W T2 9 #[.val (.ref a1), .val (.int (9 : Int32)), .val (.int p2), .val (.int p3)] [(.int p3), (.int p2), (.int (9 : Int32)), (.int r_2)] := ((k2.iloadN X2 hx (hb hby d_rmc3_6) rfl).iloadN X2 hx (hb hby d_rmc3_7) rfl).iloadN X2 hx (hb hby d_rmc3_8) rfl
  obtain ⟨T4, v4, L4, X4, Q4, k4⟩ := k3.stat (y := (⟨"com/example/paddlefish/paddlefish/OperatorApplyPinLaw", "bit", "(IZZ)Z"⟩ : MethodName)) (Wd := 1) (cells' := 0) (slots' := 0) (argsL := [(.int (9 : Int32)), (.int p2), (.int p3)]) (rest := [(.int r_2)]) X2 hx hZ hown (by rw [hml]; rfl) (hv 22 rfl) (hv 23 rfl) (hv 24 rfl) (hv 6 rfl) (hb hby d_rmc3_9) (by decide) (rmb9 l Z a0 hw [] p2 p3 h0 n0 Z0 B2 B3) e2 rfl rfl pd_rmc3_1 rfl (Nat.le_of_eq rfl) (by decide) (by decide) rfl rfl (by decide) (by decide)
  obtain ⟨r_4, rfl, Nq4, e4q, p4_0⟩ := Q4
  have N4 := Fr.app N2 Nq4
  have e4 : T4.heap = h0 := e4q
  have k4 : Go p e below m W T4 12 #[.val (.ref a1), .val (.int (9 : Int32)), .val (.int p2), .val (.int p3)] [(.int r_4), (.int r_2)] := k4
  have k5 : Go p e below m W T4 20 #[.val (.ref a1), .val (.int (9 : Int32)), .val (.int p2), .val (.int p3)] [(.int (1 : Int32))] := ((k4.icmpNo X4 hx (hb hby d_rmc3_12) (XT.ii_ne_f (p2_0.trans p4_0.symm))).iconst X4 hx (hb hby d_rmc3_15) (v := (1 : Int32)) rfl).goto X4 hx (hb hby d_rmc3_16) (by decide) (by decide)
  exact k5.ireturnN X4 hx (t := .boolean) Bd.returns (by simp) rfl (hb hby d_rmc3_20) (BodyLoose.notSynchronized Bd) (by rw [e4]; exact ⟨rfl, N4, rfl⟩) (by decide) (by decide)

theorem d_rma4_0 : decode prog_6_method_6_code 0 = .ok (.aload_n 0, 1) := by decide +kernel
theorem d_rma4_1 : decode prog_6_method_6_code 1 = .ok (.invokevirtual 46, 3) := by decide +kernel
theorem d_rma4_4 : decode prog_6_method_6_code 4 = .ok (.tableswitch 36 0 4 #[46, 62, 75, 91, 62], 36) := by decide +kernel
theorem d_rma4_66 : decode prog_6_method_6_code 66 = .ok (.iload_n 1, 1) := by decide +kernel
theorem d_rma4_67 : decode prog_6_method_6_code 67 = .ok (.iload_n 2, 1) := by decide +kernel
theorem d_rma4_68 : decode prog_6_method_6_code 68 = .ok (.if_icmp .eq 7, 3) := by decide +kernel
theorem d_rma4_71 : decode prog_6_method_6_code 71 = .ok (.iconst 1, 1) := by decide +kernel
theorem d_rma4_72 : decode prog_6_method_6_code 72 = .ok (.goto 33, 3) := by decide +kernel
theorem d_rma4_75 : decode prog_6_method_6_code 75 = .ok (.iconst 0, 1) := by decide +kernel
theorem d_rma4_76 : decode prog_6_method_6_code 76 = .ok (.goto 29, 3) := by decide +kernel
theorem d_rma4_105 : decode prog_6_method_6_code 105 = .ok (.ireturn, 1) := by decide +kernel
theorem pn_rma4 : plainName "com/example/paddlefish/paddlefish/BooleanExpression$Operator" = true := by first | (simp [plainName, overriddenIn]; done) | decide +kernel
theorem pd_rma4_0 : parseMethodDescriptor "()I" = some ⟨[], (some .int)⟩ := by decide +kernel
theorem ef_rma4 (m : MethodId) (a1 : Addr) (p2 : Int32) (p3 : Int32) : entryFrame m #[(.ref a1), (.int p2), (.int p3)] 3 = mkF m 0 #[.val (.ref a1), .val (.int p2), .val (.int p3)] [] := by first | (simp [entryFrame, mkF, argsToLocals, Value.category]; done) | rfl
def Q_rma4 (Z : State) (a1 : Addr) (p2 : Int32) (p3 : Int32) (h0 : Heap) (n0 : Nat) (v : Option Value) (h : Heap) (L : List Loc) : Prop := ∃ (r : Int32), v = some (.int r) ∧ Fr n0 L ∧ h = h0 ∧ (r = p2 ^^^ p3)
set_option maxRecDepth 65536 in
set_option maxHeartbeats 40000000 in
theorem rma4 (l : Launch) (Z : State) (a0 : Array Value) (hw : ∀ d ∈ tables_1, d.before a0 Z = true) (ws : List Jvm.Cond) (a1 : Addr) (p2 : Int32) (p3 : Int32) (h0 : Heap) (n0 : Nat) (Z0 : n0 ≤ h0.size) (F1 : Fld Z h0 a1 "java/lang/Enum" "ordinal" "I" (.int (4 : Int32))) (E1 : Exa Z h0 a1 "com/example/paddlefish/paddlefish/BooleanExpression$Operator") (B2 : p2 = 0 ∨ p2 = 1) (B3 : p3 = 0 ∨ p3 = 1) :
    MetFree l (⟨"com/example/paddlefish/paddlefish/BooleanExpression$Operator", "apply", "(ZZ)Z"⟩ : MethodName) (head1 (Jvm.Cond.code (⟨"com/example/paddlefish/paddlefish/BooleanExpression$Operator", "apply", "(ZZ)Z"⟩ : MethodName) prog_6_method_6_code 3 (some .boolean) :: ws) ({ frames := 1, cells := 0, slots := 0, locals := 12 } : Room)) (fun a U => a = #[(.ref a1), (.int p2), (.int p3)] ∧ Z.Warmed39 U.vm ∧ U.heap = h0) (fun _ _ _ _ _ => True) (fun _ U o U' => ∃ v L, o = .returned v ∧ Q_rma4 Z a1 p2 p3 h0 n0 v U'.heap L ∧ FrameEnd U o U' L ({ frames := 1, cells := 0, slots := 0, locals := 12 } : Room).cells ({ frames := 1, cells := 0, slots := 0, locals := 12 } : Room).slots) := by
  refine MetFree.of_bodySF (plainFor_of_name pn_rma4) hisR ?_
  intro p e s m args_ below meth c s₁ Bd hml0 hP hK
  obtain ⟨hargs, hZ, hh⟩ := hP
  have hx := Bd.exec
  have hby := Bd.bytes
  have hml : c.maxLocals = 3 := hml0
  have hown : s.vm.findClass "com/example/paddlefish/paddlefish/BooleanExpression$Operator" = some m.cls := findClass_of_methodNamed Bd.named
  have hnm := (name_of_methodNamed Bd.named Bd.method).1
  have X0 : Stand p l e ({ frames := 1, cells := 0, slots := 0, locals := 12 } : Room) s m args_ below meth c s₁ [] 0 0 := Stand.of_body Bd
  have e0 : s₁.heap = h0 := by rw [← hh, Bd.state]; rfl
  have N0 := Fr.nil n0
  have hv : ∀ (i : Nat) {d : Jvm.Cond}, tables_1[i]? = some d → d.before a0 Z = true := fun i d q => hw d (List.mem_of_getElem? q)
  have k0 : Go p e below m (s₁.setTop (entryFrame m args_ 3)) s₁ 0 #[.val (.ref a1), .val (.int p2), .val (.int p3)] [] := by rw [hargs]; exact fun t kt => castTop (ef_rma4 m a1 p2 p3) kt
  obtain ⟨W, hWW⟩ : ∃ W, W = s₁.setTop (entryFrame m args_ 3) := ⟨_, rfl⟩
  rw [← hWW] at k0 ⊢
  show Done p e below s W (Q_rma4 Z a1 p2 p3 h0 n0) ({ frames := 1, cells := 0, slots := 0, locals := 12 } : Room).cells ({ frames := 1, cells := 0, slots := 0, locals := 12 } : Room).slots
  rcases B2 with q1 | q2
  ·
    subst p2
    rcases B3 with q3 | q4
    ·
      subst p3
      have k5 : Go p e below m W s₁ 1 #[.val (.ref a1), .val (.int (0 : Int32)), .val (.int (0 : Int32))] [(.ref a1)] := k0.aloadN X0 hx (hb hby d_rma4_0) rfl rfl
      obtain ⟨T6, v6, L6, X6, Q6, k6⟩ := k5.virtUp (y := (⟨"com/example/paddlefish/paddlefish/BooleanExpression$Operator", "ordinal", "()I"⟩ : MethodName)) (z := (⟨"java/lang/Enum", "ordinal", "()I"⟩ : MethodName)) (owner := "java/lang/Enum") (Wd := 0) (cells' := 0) (slots' := 0) (argsL := []) (rest := []) X0 hx hZ hown (by rw [hml]; rfl) (hv 13 rfl) (hv 14 rfl) (hv 15 rfl) (hv 17 rfl) (hv 16 rfl) (hv 19 rfl) (hv 18 rfl) (hb hby d_rma4_1) (by decide) (rmo l Z a0 hw [] a1 (4 : Int32) h0 n0 Z0 F1) e0 E1 rfl rfl pd_rma4_0 rfl (Nat.le_of_eq rfl) (by decide) (by decide) rfl rfl (by decide) (by decide)
      obtain ⟨rfl, Nq6, e6q⟩ := Q6
      have N6 := Fr.app N0 Nq6
      have e6 : T6.heap = h0 := e6q
      have k6 : Go p e below m W T6 4 #[.val (.ref a1), .val (.int (0 : Int32)), .val (.int (0 : Int32))] [(.int (4 : Int32))] := k6
      have k7 : Go p e below m W T6 105 #[.val (.ref a1), .val (.int (0 : Int32)), .val (.int (0 : Int32))] [(.int (0 : Int32))] := (((((k6.tsw X6 hx (hb hby d_rma4_4) (by decide) (o := 62) (by decide) (by decide) (by decide)).iloadN X6 hx (hb hby d_rma4_66) rfl).iloadN X6 hx (hb hby d_rma4_67) rfl).icmpYes X6 hx (hb hby d_rma4_68) (XT.ii_eq_t (by decide)) (by decide) (by decide)).iconst X6 hx (hb hby d_rma4_75) (v := (0 : Int32)) rfl).goto X6 hx (hb hby d_rma4_76) (by decide) (by decide)
      exact k7.ireturnN X6 hx (t := .boolean) Bd.returns (by simp) rfl (hb hby d_rma4_105) (BodyLoose.notSynchronized Bd) (by rw [e6]; exact ⟨(0 : Int32), rfl, N6, rfl, (by decide)⟩) (by decide) (by decide)
    ·
      subst p3
      have k8 : Go p e below m W s₁ 1 #[.val (.ref a1), .val (.int (0 : Int32)), .val (.int (1 : Int32))] [(.ref a1)] := k0.aloadN X0 hx (hb hby d_rma4_0) rfl rfl
      obtain ⟨T9, v9, L9, X9, Q9, k9⟩ := k8.virtUp (y := (⟨"com/example/paddlefish/paddlefish/BooleanExpression$Operator", "ordinal", "()I"⟩ : MethodName)) (z := (⟨"java/lang/Enum", "ordinal", "()I"⟩ : MethodName)) (owner := "java/lang/Enum") (Wd := 0) (cells' := 0) (slots' := 0) (argsL := []) (rest := []) X0 hx hZ hown (by rw [hml]; rfl) (hv 13 rfl) (hv 14 rfl) (hv 15 rfl) (hv 17 rfl) (hv 16 rfl) (hv 19 rfl) (hv 18 rfl) (hb hby d_rma4_1) (by decide) (rmo l Z a0 hw [] a1 (4 : Int32) h0 n0 Z0 F1) e0 E1 rfl rfl pd_rma4_0 rfl (Nat.le_of_eq rfl) (by decide) (by decide) rfl rfl (by decide) (by decide)
      obtain ⟨rfl, Nq9, e9q⟩ := Q9
      have N9 := Fr.app N0 Nq9
      have e9 : T9.heap = h0 := e9q
      have k9 : Go p e below m W T9 4 #[.val (.ref a1), .val (.int (0 : Int32)), .val (.int (1 : Int32))] [(.int (4 : Int32))] := k9
      have k10 : Go p e below m W T9 105 #[.val (.ref a1), .val (.int (0 : Int32)), .val (.int (1 : Int32))] [(.int (1 : Int32))] := (((((k9.tsw X9 hx (hb hby d_rma4_4) (by decide) (o := 62) (by decide) (by decide) (by decide)).iloadN X9 hx (hb hby d_rma4_66) rfl).iloadN X9 hx (hb hby d_rma4_67) rfl).icmpNo X9 hx (hb hby d_rma4_68) (XT.ii_eq_f (by decide))).iconst X9 hx (hb hby d_rma4_71) (v := (1 : Int32)) rfl).goto X9 hx (hb hby d_rma4_72) (by decide) (by decide)
      exact k10.ireturnN X9 hx (t := .boolean) Bd.returns (by simp) rfl (hb hby d_rma4_105) (BodyLoose.notSynchronized Bd) (by rw [e9]; exact ⟨(1 : Int32), rfl, N9, rfl, (by decide)⟩) (by decide) (by decide)
  ·
    subst p2
    rcases B3 with q11 | q12
    ·
      subst p3
      have k13 : Go p e below m W s₁ 1 #[.val (.ref a1), .val (.int (1 : Int32)), .val (.int (0 : Int32))] [(.ref a1)] := k0.aloadN X0 hx (hb hby d_rma4_0) rfl rfl
      obtain ⟨T14, v14, L14, X14, Q14, k14⟩ := k13.virtUp (y := (⟨"com/example/paddlefish/paddlefish/BooleanExpression$Operator", "ordinal", "()I"⟩ : MethodName)) (z := (⟨"java/lang/Enum", "ordinal", "()I"⟩ : MethodName)) (owner := "java/lang/Enum") (Wd := 0) (cells' := 0) (slots' := 0) (argsL := []) (rest := []) X0 hx hZ hown (by rw [hml]; rfl) (hv 13 rfl) (hv 14 rfl) (hv 15 rfl) (hv 17 rfl) (hv 16 rfl) (hv 19 rfl) (hv 18 rfl) (hb hby d_rma4_1) (by decide) (rmo l Z a0 hw [] a1 (4 : Int32) h0 n0 Z0 F1) e0 E1 rfl rfl pd_rma4_0 rfl (Nat.le_of_eq rfl) (by decide) (by decide) rfl rfl (by decide) (by decide)
      obtain ⟨rfl, Nq14, e14q⟩ := Q14
      have N14 := Fr.app N0 Nq14
      have e14 : T14.heap = h0 := e14q
      have k14 : Go p e below m W T14 4 #[.val (.ref a1), .val (.int (1 : Int32)), .val (.int (0 : Int32))] [(.int (4 : Int32))] := k14
      have k15 : Go p e below m W T14 105 #[.val (.ref a1), .val (.int (1 : Int32)), .val (.int (0 : Int32))] [(.int (1 : Int32))] := (((((k14.tsw X14 hx (hb hby d_rma4_4) (by decide) (o := 62) (by decide) (by decide) (by decide)).iloadN X14 hx (hb hby d_rma4_66) rfl).iloadN X14 hx (hb hby d_rma4_67) rfl).icmpNo X14 hx (hb hby d_rma4_68) (XT.ii_eq_f (by decide))).iconst X14 hx (hb hby d_rma4_71) (v := (1 : Int32)) rfl).goto X14 hx (hb hby d_rma4_72) (by decide) (by decide)
      exact k15.ireturnN X14 hx (t := .boolean) Bd.returns (by simp) rfl (hb hby d_rma4_105) (BodyLoose.notSynchronized Bd) (by rw [e14]; exact ⟨(1 : Int32), rfl, N14, rfl, (by decide)⟩) (by decide) (by decide)
    ·
      subst p3
      have k16 : Go p e below m W s₁ 1 #[.val (.ref a1), .val (.int (1 : Int32)), .val (.int (1 : Int32))] [(.ref a1)] := k0.aloadN X0 hx (hb hby d_rma4_0) rfl rfl
      obtain ⟨T17, v17, L17, X17, Q17, k17⟩ := k16.virtUp (y := (⟨"com/example/paddlefish/paddlefish/BooleanExpression$Operator", "ordinal", "()I"⟩ : MethodName)) (z := (⟨"java/lang/Enum", "ordinal", "()I"⟩ : MethodName)) (owner := "java/lang/Enum") (Wd := 0) (cells' := 0) (slots' := 0) (argsL := []) (rest := []) X0 hx hZ hown (by rw [hml]; rfl) (hv 13 rfl) (hv 14 rfl) (hv 15 rfl) (hv 17 rfl) (hv 16 rfl) (hv 19 rfl) (hv 18 rfl) (hb hby d_rma4_1) (by decide) (rmo l Z a0 hw [] a1 (4 : Int32) h0 n0 Z0 F1) e0 E1 rfl rfl pd_rma4_0 rfl (Nat.le_of_eq rfl) (by decide) (by decide) rfl rfl (by decide) (by decide)
      obtain ⟨rfl, Nq17, e17q⟩ := Q17
      have N17 := Fr.app N0 Nq17
      have e17 : T17.heap = h0 := e17q
      have k17 : Go p e below m W T17 4 #[.val (.ref a1), .val (.int (1 : Int32)), .val (.int (1 : Int32))] [(.int (4 : Int32))] := k17
      have k18 : Go p e below m W T17 105 #[.val (.ref a1), .val (.int (1 : Int32)), .val (.int (1 : Int32))] [(.int (0 : Int32))] := (((((k17.tsw X17 hx (hb hby d_rma4_4) (by decide) (o := 62) (by decide) (by decide) (by decide)).iloadN X17 hx (hb hby d_rma4_66) rfl).iloadN X17 hx (hb hby d_rma4_67) rfl).icmpYes X17 hx (hb hby d_rma4_68) (XT.ii_eq_t (by decide)) (by decide) (by decide)).iconst X17 hx (hb hby d_rma4_75) (v := (0 : Int32)) rfl).goto X17 hx (hb hby d_rma4_76) (by decide) (by decide)
      exact k18.ireturnN X17 hx (t := .boolean) Bd.returns (by simp) rfl (hb hby d_rma4_105) (BodyLoose.notSynchronized Bd) (by rw [e17]; exact ⟨(0 : Int32), rfl, N17, rfl, (by decide)⟩) (by decide) (by decide)

theorem d_rmc4_0 : decode method_3_code 0 = .ok (.aload_n 0, 1) := by decide +kernel
theorem d_rmc4_1 : decode method_3_code 1 = .ok (.iload_n 2, 1) := by decide +kernel
theorem d_rmc4_2 : decode method_3_code 2 = .ok (.iload_n 3, 1) := by decide +kernel
theorem d_rmc4_3 : decode method_3_code 3 = .ok (.invokevirtual 7, 3) := by decide +kernel
theorem d_rmc4_6 : decode method_3_code 6 = .ok (.iload_n 1, 1) := by decide +kernel
theorem d_rmc4_7 : decode method_3_code 7 = .ok (.iload_n 2, 1) := by decide +kernel
theorem d_rmc4_8 : decode method_3_code 8 = .ok (.iload_n 3, 1) := by decide +kernel
theorem d_rmc4_9 : decode method_3_code 9 = .ok (.invokestatic 13, 3) := by decide +kernel
theorem d_rmc4_12 : decode method_3_code 12 = .ok (.if_icmp .ne 7, 3) := by decide +kernel
theorem d_rmc4_15 : decode method_3_code 15 = .ok (.iconst 1, 1) := by decide +kernel
theorem d_rmc4_16 : decode method_3_code 16 = .ok (.goto 4, 3) := by decide +kernel
theorem d_rmc4_20 : decode method_3_code 20 = .ok (.ireturn, 1) := by decide +kernel
theorem pn_rmc4 : plainName "com/example/paddlefish/paddlefish/OperatorApplyPinLaw" = true := by first | (simp [plainName, overriddenIn]; done) | decide +kernel
theorem pd_rmc4_0 : parseMethodDescriptor "(ZZ)Z" = some ⟨[.boolean, .boolean], (some .boolean)⟩ := by decide +kernel
theorem pd_rmc4_1 : parseMethodDescriptor "(IZZ)Z" = some ⟨[.int, .boolean, .boolean], (some .boolean)⟩ := by decide +kernel
theorem ef_rmc4 (m : MethodId) (a1 : Addr) (p2 : Int32) (p3 : Int32) : entryFrame m #[(.ref a1), (.int (6 : Int32)), (.int p2), (.int p3)] 4 = mkF m 0 #[.val (.ref a1), .val (.int (6 : Int32)), .val (.int p2), .val (.int p3)] [] := by first | (simp [entryFrame, mkF, argsToLocals, Value.category]; done) | rfl
def Q_rmc4 (Z : State) (a1 : Addr) (p2 : Int32) (p3 : Int32) (h0 : Heap) (n0 : Nat) (v : Option Value) (h : Heap) (L : List Loc) : Prop := v = some (.int (1 : Int32)) ∧ Fr n0 L ∧ h = h0
set_option maxRecDepth 65536 in
set_option maxHeartbeats 40000000 in
theorem rmc4 (l : Launch) (Z : State) (a0 : Array Value) (hw : ∀ d ∈ tables_1, d.before a0 Z = true) (ws : List Jvm.Cond) (a1 : Addr) (p2 : Int32) (p3 : Int32) (h0 : Heap) (n0 : Nat) (Z0 : n0 ≤ h0.size) (F1 : Fld Z h0 a1 "java/lang/Enum" "ordinal" "I" (.int (4 : Int32))) (E1 : Exa Z h0 a1 "com/example/paddlefish/paddlefish/BooleanExpression$Operator") (B2 : p2 = 0 ∨ p2 = 1) (B3 : p3 = 0 ∨ p3 = 1) :
    MetFree l (⟨"com/example/paddlefish/paddlefish/OperatorApplyPinLaw", "check", "(Lcom/example/paddlefish/paddlefish/BooleanExpression$Operator;IZZ)Z"⟩ : MethodName) (head1 (Jvm.Cond.code (⟨"com/example/paddlefish/paddlefish/OperatorApplyPinLaw", "check", "(Lcom/example/paddlefish/paddlefish/BooleanExpression$Operator;IZZ)Z"⟩ : MethodName) method_3_code 4 (some .boolean) :: ws) ({ frames := 2, cells := 0, slots := 0, locals := 26 } : Room)) (fun a U => a = #[(.ref a1), (.int (6 : Int32)), (.int p2), (.int p3)] ∧ Z.Warmed39 U.vm ∧ U.heap = h0) (fun _ _ _ _ _ => True) (fun _ U o U' => ∃ v L, o = .returned v ∧ Q_rmc4 Z a1 p2 p3 h0 n0 v U'.heap L ∧ FrameEnd U o U' L ({ frames := 2, cells := 0, slots := 0, locals := 26 } : Room).cells ({ frames := 2, cells := 0, slots := 0, locals := 26 } : Room).slots) := by
  refine MetFree.of_bodySF (plainFor_of_name pn_rmc4) hisR ?_
  intro p e s m args_ below meth c s₁ Bd hml0 hP hK
  obtain ⟨hargs, hZ, hh⟩ := hP
  have hx := Bd.exec
  have hby := Bd.bytes
  have hml : c.maxLocals = 4 := hml0
  have hown : s.vm.findClass "com/example/paddlefish/paddlefish/OperatorApplyPinLaw" = some m.cls := findClass_of_methodNamed Bd.named
  have hnm := (name_of_methodNamed Bd.named Bd.method).1
  have X0 : Stand p l e ({ frames := 2, cells := 0, slots := 0, locals := 26 } : Room) s m args_ below meth c s₁ [] 0 0 := Stand.of_body Bd
  have e0 : s₁.heap = h0 := by rw [← hh, Bd.state]; rfl
  have N0 := Fr.nil n0
  have hv : ∀ (i : Nat) {d : Jvm.Cond}, tables_1[i]? = some d → d.before a0 Z = true := fun i d q => hw d (List.mem_of_getElem? q)
  have k0 : Go p e below m (s₁.setTop (entryFrame m args_ 4)) s₁ 0 #[.val (.ref a1), .val (.int (6 : Int32)), .val (.int p2), .val (.int p3)] [] := by rw [hargs]; exact fun t kt => castTop (ef_rmc4 m a1 p2 p3) kt
  obtain ⟨W, hWW⟩ : ∃ W, W = s₁.setTop (entryFrame m args_ 4) := ⟨_, rfl⟩
  rw [← hWW] at k0 ⊢
  show Done p e below s W (Q_rmc4 Z a1 p2 p3 h0 n0) ({ frames := 2, cells := 0, slots := 0, locals := 26 } : Room).cells ({ frames := 2, cells := 0, slots := 0, locals := 26 } : Room).slots
  have k1 : Go p e below m W s₁ 3 #[.val (.ref a1), .val (.int (6 : Int32)), .val (.int p2), .val (.int p3)] [(.int p3), (.int p2), (.ref a1)] := ((k0.aloadN X0 hx (hb hby d_rmc4_0) rfl rfl).iloadN X0 hx (hb hby d_rmc4_1) rfl).iloadN X0 hx (hb hby d_rmc4_2) rfl
  obtain ⟨T2, v2, L2, X2, Q2, k2⟩ := k1.virt (y := (⟨"com/example/paddlefish/paddlefish/BooleanExpression$Operator", "apply", "(ZZ)Z"⟩ : MethodName)) (z := (⟨"com/example/paddlefish/paddlefish/BooleanExpression$Operator", "apply", "(ZZ)Z"⟩ : MethodName)) (Wd := 0) (cells' := 0) (slots' := 0) (argsL := [(.int p2), (.int p3)]) (rest := []) X0 hx hZ hown (by rw [hml]; rfl) (hv 8 rfl) (hv 9 rfl) (notFace_of_selects (args := #[]) (mvT hZ (hv 11 rfl))) (hv 11 rfl) (hv 10 rfl) (hv 12 rfl) (hv 2 rfl) (hb hby d_rmc4_3) (by decide) (rma4 l Z a0 hw [] a1 p2 p3 h0 n0 Z0 F1 E1 B2 B3) e0 E1 rfl rfl pd_rmc4_0 rfl (Nat.le_of_eq rfl) (by decide) (by decide) rfl rfl (by decide) (by decide)
  obtain ⟨r_2, rfl, Nq2, e2q, p2_0⟩ := Q2
  have N2 := Fr.app N0 Nq2
  have e2 : T2.heap = h0 := e2q
  have k2 : Go p e below m W T2 6 #[.val (.ref a1), .val (.int (6 : Int32)), .val (.int p2), .val (.int p3)] [(.int r_2)] := k2
  have k3 : Go p e below m W T2 9 #[.val (.ref a1), .val (.int (6 : Int32)), .val (.int p2), .val (.int p3)] [(.int p3), (.int p2), (.int (6 : Int32)), (.int r_2)] := ((k2.iloadN X2 hx (hb hby d_rmc4_6) rfl).iloadN X2 hx (hb hby d_rmc4_7) rfl).iloadN X2 hx (hb hby d_rmc4_8) rfl
  obtain ⟨T4, v4, L4, X4, Q4, k4⟩ := k3.stat (y := (⟨"com/example/paddlefish/paddlefish/OperatorApplyPinLaw", "bit", "(IZZ)Z"⟩ : MethodName)) (Wd := 1) (cells' := 0) (slots' := 0) (argsL := [(.int (6 : Int32)), (.int p2), (.int p3)]) (rest := [(.int r_2)]) X2 hx hZ hown (by rw [hml]; rfl) (hv 22 rfl) (hv 23 rfl) (hv 24 rfl) (hv 6 rfl) (hb hby d_rmc4_9) (by decide) (rmb6 l Z a0 hw [] p2 p3 h0 n0 Z0 B2 B3) e2 rfl rfl pd_rmc4_1 rfl (Nat.le_of_eq rfl) (by decide) (by decide) rfl rfl (by decide) (by decide)
  obtain ⟨r_4, rfl, Nq4, e4q, p4_0⟩ := Q4
  have N4 := Fr.app N2 Nq4
  have e4 : T4.heap = h0 := e4q
  have k4 : Go p e below m W T4 12 #[.val (.ref a1), .val (.int (6 : Int32)), .val (.int p2), .val (.int p3)] [(.int r_4), (.int r_2)] := k4
  have k5 : Go p e below m W T4 20 #[.val (.ref a1), .val (.int (6 : Int32)), .val (.int p2), .val (.int p3)] [(.int (1 : Int32))] := ((k4.icmpNo X4 hx (hb hby d_rmc4_12) (XT.ii_ne_f (p2_0.trans p4_0.symm))).iconst X4 hx (hb hby d_rmc4_15) (v := (1 : Int32)) rfl).goto X4 hx (hb hby d_rmc4_16) (by decide) (by decide)
  exact k5.ireturnN X4 hx (t := .boolean) Bd.returns (by simp) rfl (hb hby d_rmc4_20) (BodyLoose.notSynchronized Bd) (by rw [e4]; exact ⟨rfl, N4, rfl⟩) (by decide) (by decide)

theorem pn_rm0 : plainName "com/example/paddlefish/paddlefish/OperatorApplyPinLaw" = true := by first | (simp [plainName, overriddenIn]; done) | decide +kernel
theorem pd_rm0_0 : parseMethodDescriptor "(Lcom/example/paddlefish/paddlefish/BooleanExpression$Operator;IZZ)Z" = some ⟨[(.object "com/example/paddlefish/paddlefish/BooleanExpression$Operator"), .int, .boolean, .boolean], (some .boolean)⟩ := by decide +kernel
theorem ef_rm0 (m : MethodId) (p1 : Int32) (p2 : Int32) : entryFrame m #[(.int p1), (.int p2)] maxLocals = mkF m 0 #[.val (.int p1), .val (.int p2), .unset, .unset, .unset, .unset, .unset] [] := by first | (simp [entryFrame, mkF, argsToLocals, Value.category, maxLocals]; done) | rfl
def Q_rm0 (Z : State) (p1 : Int32) (p2 : Int32) (s_OR : Addr) (s_NOT_EQUAL : Addr) (s_EQUAL : Addr) (s_XOR : Addr) (s_AND : Addr) (h0 : Heap) (n0 : Nat) (v : Option Value) (h : Heap) (L : List Loc) : Prop := v = some (.int (1 : Int32)) ∧ Fr n0 L
set_option maxRecDepth 65536 in
set_option maxHeartbeats 40000000 in
theorem rm0 (l : Launch) (Z : State) (a0 : Array Value) (hw : ∀ d ∈ tables_1, d.before a0 Z = true) (ws : List Jvm.Cond) (p1 : Int32) (p2 : Int32) (s_OR : Addr) (s_NOT_EQUAL : Addr) (s_EQUAL : Addr) (s_XOR : Addr) (s_AND : Addr) (h0 : Heap) (n0 : Nat) (Z0 : n0 ≤ h0.size) (O0 : Old Z n0 h0) (S_s_OR : Sta Z Z.heap "com/example/paddlefish/paddlefish/BooleanExpression$Operator" "OR" "Lcom/example/paddlefish/paddlefish/BooleanExpression$Operator;" (.ref s_OR)) (E_s_OR : Exa Z Z.heap s_OR "com/example/paddlefish/paddlefish/BooleanExpression$Operator") (F3_ordinal : Fld Z Z.heap s_OR "java/lang/Enum" "ordinal" "I" (.int (0 : Int32))) (S_s_NOT_EQUAL : Sta Z Z.heap "com/example/paddlefish/paddlefish/BooleanExpression$Operator" "NOT_EQUAL" "Lcom/example/paddlefish/paddlefish/BooleanExpression$Operator;" (.ref s_NOT_EQUAL)) (E_s_NOT_EQUAL : Exa Z Z.heap s_NOT_EQUAL "com/example/paddlefish/paddlefish/BooleanExpression$Operator") (F6_ordinal : Fld Z Z.heap s_NOT_EQUAL "java/lang/Enum" "ordinal" "I" (.int (4 : Int32))) (S_s_EQUAL : Sta Z Z.heap "com/example/paddlefish/paddlefish/BooleanExpression$Operator" "EQUAL" "Lcom/example/paddlefish/paddlefish/BooleanExpression$Operator;" (.ref s_EQUAL)) (E_s_EQUAL : Exa Z Z.heap s_EQUAL "com/example/paddlefish/paddlefish/BooleanExpression$Operator") (F9_ordinal : Fld Z Z.heap s_EQUAL "java/lang/Enum" "ordinal" "I" (.int (3 : Int32))) (S_s_XOR : Sta Z Z.heap "com/example/paddlefish/paddlefish/BooleanExpression$Operator" "XOR" "Lcom/example/paddlefish/paddlefish/BooleanExpression$Operator;" (.ref s_XOR)) (E_s_XOR : Exa Z Z.heap s_XOR "com/example/paddlefish/paddlefish/BooleanExpression$Operator") (F12_ordinal : Fld Z Z.heap s_XOR "java/lang/Enum" "ordinal" "I" (.int (1 : Int32))) (S_s_AND : Sta Z Z.heap "com/example/paddlefish/paddlefish/BooleanExpression$Operator" "AND" "Lcom/example/paddlefish/paddlefish/BooleanExpression$Operator;" (.ref s_AND)) (E_s_AND : Exa Z Z.heap s_AND "com/example/paddlefish/paddlefish/BooleanExpression$Operator") (F15_ordinal : Fld Z Z.heap s_AND "java/lang/Enum" "ordinal" "I" (.int (2 : Int32))) :
    MetFree l x (head1 (Jvm.Cond.code x code maxLocals ret :: ws) room_1) (fun a U => a = #[(.int p1), (.int p2)] ∧ Z.Warmed39 U.vm ∧ U.heap = h0) (fun _ _ _ _ _ => True) (fun _ U o U' => ∃ v L, o = .returned v ∧ Q_rm0 Z p1 p2 s_OR s_NOT_EQUAL s_EQUAL s_XOR s_AND h0 n0 v U'.heap L ∧ FrameEnd U o U' L room_1.cells room_1.slots) := by
  refine MetFree.of_bodySF (plainFor_of_name pn_rm0) hisR ?_
  intro p e s m args_ below meth c s₁ Bd hml0 hP hK
  obtain ⟨hargs, hZ, hh⟩ := hP
  have hx := Bd.exec
  have hby := Bd.bytes
  have hml : c.maxLocals = 7 := hml0
  have hown : s.vm.findClass "com/example/paddlefish/paddlefish/OperatorApplyPinLaw" = some m.cls := findClass_of_methodNamed Bd.named
  have hnm := (name_of_methodNamed Bd.named Bd.method).1
  have X0 : Stand p l e room_1 s m args_ below meth c s₁ [] 0 0 := Stand.of_body Bd
  have e0 : s₁.heap = h0 := by rw [← hh, Bd.state]; rfl
  have N0 := Fr.nil n0
  have hv : ∀ (i : Nat) {d : Jvm.Cond}, tables_1[i]? = some d → d.before a0 Z = true := fun i d q => hw d (List.mem_of_getElem? q)
  have k0 : Go p e below m (s₁.setTop (entryFrame m args_ maxLocals)) s₁ 0 #[.val (.int p1), .val (.int p2), .unset, .unset, .unset, .unset, .unset] [] := by rw [hargs]; exact fun t kt => castTop (ef_rm0 m p1 p2) kt
  obtain ⟨W, hWW⟩ : ∃ W, W = s₁.setTop (entryFrame m args_ maxLocals) := ⟨_, rfl⟩
  rw [← hWW] at k0 ⊢
  show Done p e below s W (Q_rm0 Z p1 p2 s_OR s_NOT_EQUAL s_EQUAL s_XOR s_AND h0 n0) room_1.cells room_1.slots
  have k1 : Go p e below m W s₁ 7 #[.val (.int p1), .val (.int p2), .val (.int ((p1 &&& (2147483647 : Int32)) % (5 : Int32))), .unset, .unset, .unset, .unset] [] := (((((k0.iloadN X0 hx (hb hby at_0) rfl).ldcI X0 hx hZ hown (hv 0 rfl) (hb hby at_1)).iand X0 hx (hb hby at_3)).iconst X0 hx (hb hby at_4) (v := (5 : Int32)) rfl).irem X0 hx (hb hby at_5) (by decide)).istoreN X0 hx (hb hby at_6) rfl
  have k2 : Go p e below m W s₁ 8 #[.val (.int p1), .val (.int p2), .val (.int ((p1 &&& (2147483647 : Int32)) % (5 : Int32))), .unset, .unset, .unset, .unset] [(.int ((p1 &&& (2147483647 : Int32)) % (5 : Int32)))] := k1.iloadN X0 hx (hb hby at_7) rfl
  by_cases hc8_3 : ((p1 &&& (2147483647 : Int32)) % (5 : Int32)) = (0 : Int32)
  ·
    have k4 : Go p e below m W s₁ 11 #[.val (.int p1), .val (.int p2), .val (.int ((p1 &&& (2147483647 : Int32)) % (5 : Int32))), .unset, .unset, .unset, .unset] [] := k2.ifNo X0 hx (hb hby at_8) (XT.i0_ne_f hc8_3)
    obtain ⟨T5, X5, e5, k5⟩ := k4.getS X0 hx hZ hown (host := "") (Or.inl (hv 1 rfl)) Via.refl e0 (S_s_OR.ext O0.2) (hb hby at_11)
    have k5 : Go p e below m W T5 14 #[.val (.int p1), .val (.int p2), .val (.int ((p1 &&& (2147483647 : Int32)) % (5 : Int32))), .unset, .unset, .unset, .unset] [(.ref s_OR)] := k5
    have k6 : Go p e below m W T5 15 #[.val (.int p1), .val (.int p2), .val (.int ((p1 &&& (2147483647 : Int32)) % (5 : Int32))), .val (.ref s_OR), .unset, .unset, .unset] [] := k5.astoreN X5 hx (hb hby at_14) rfl rfl
    have k7 : Go p e below m W T5 19 #[.val (.int p1), .val (.int p2), .val (.int ((p1 &&& (2147483647 : Int32)) % (5 : Int32))), .val (.ref s_OR), .val (.int (14 : Int32)), .unset, .unset] [] := (k6.bipush X5 hx (hb hby at_15) (v := (14 : Int32)) rfl).istore X5 hx (hb hby at_17) rfl
    have k8 : Go p e below m W T5 81 #[.val (.int p1), .val (.int p2), .val (.int ((p1 &&& (2147483647 : Int32)) % (5 : Int32))), .val (.ref s_OR), .val (.int (14 : Int32)), .unset, .unset] [(.int (p2 &&& (1 : Int32)))] := (((k7.goto X5 hx (hb hby at_19) (by decide) (by decide)).iloadN X5 hx (hb hby at_78) rfl).iconst X5 hx (hb hby at_79) (v := (1 : Int32)) rfl).iand X5 hx (hb hby at_80)
    obtain ⟨u9_S0, hd9, k9⟩ : ∃ (u9_S0 : Int32), ((((p2 &&& (1 : Int32)) = (0 : Int32)) ∧ u9_S0 = (0 : Int32)) ∨ ((¬ ((p2 &&& (1 : Int32)) = (0 : Int32))) ∧ u9_S0 = (1 : Int32))) ∧ Go p e below m W T5 89 #[.val (.int p1), .val (.int p2), .val (.int ((p1 &&& (2147483647 : Int32)) % (5 : Int32))), .val (.ref s_OR), .val (.int (14 : Int32)), .unset, .unset] [(.int u9_S0)] := by
      by_cases hc81_10 : (p2 &&& (1 : Int32)) = (0 : Int32)
      ·
        have k11 : Go p e below m W T5 89 #[.val (.int p1), .val (.int p2), .val (.int ((p1 &&& (2147483647 : Int32)) % (5 : Int32))), .val (.ref s_OR), .val (.int (14 : Int32)), .unset, .unset] [(.int (0 : Int32))] := (k8.ifYes X5 hx (hb hby at_81) (XT.i0_eq_t hc81_10) (by decide) (by decide)).iconst X5 hx (hb hby at_88) (v := (0 : Int32)) rfl
        exact ⟨(0 : Int32), (Or.inl ⟨hc81_10, rfl⟩), k11⟩
      ·
        have k12 : Go p e below m W T5 89 #[.val (.int p1), .val (.int p2), .val (.int ((p1 &&& (2147483647 : Int32)) % (5 : Int32))), .val (.ref s_OR), .val (.int (14 : Int32)), .unset, .unset] [(.int (1 : Int32))] := ((k8.ifNo X5 hx (hb hby at_81) (XT.i0_eq_f hc81_10)).iconst X5 hx (hb hby at_84) (v := (1 : Int32)) rfl).goto X5 hx (hb hby at_85) (by decide) (by decide)
        exact ⟨(1 : Int32), (Or.inr ⟨hc81_10, rfl⟩), k12⟩
    have k13 : Go p e below m W T5 91 #[.val (.int p1), .val (.int p2), .val (.int ((p1 &&& (2147483647 : Int32)) % (5 : Int32))), .val (.ref s_OR), .val (.int (14 : Int32)), .val (.int u9_S0), .unset] [] := k9.istore X5 hx (hb hby at_89) rfl
    have k14 : Go p e below m W T5 94 #[.val (.int p1), .val (.int p2), .val (.int ((p1 &&& (2147483647 : Int32)) % (5 : Int32))), .val (.ref s_OR), .val (.int (14 : Int32)), .val (.int u9_S0), .unset] [(.int (p2 &&& (2 : Int32)))] := ((k13.iloadN X5 hx (hb hby at_91) rfl).iconst X5 hx (hb hby at_92) (v := (2 : Int32)) rfl).iand X5 hx (hb hby at_93)
    obtain ⟨u15_S0, hd15, k15⟩ : ∃ (u15_S0 : Int32), ((((p2 &&& (2 : Int32)) = (0 : Int32)) ∧ u15_S0 = (0 : Int32)) ∨ ((¬ ((p2 &&& (2 : Int32)) = (0 : Int32))) ∧ u15_S0 = (1 : Int32))) ∧ Go p e below m W T5 102 #[.val (.int p1), .val (.int p2), .val (.int ((p1 &&& (2147483647 : Int32)) % (5 : Int32))), .val (.ref s_OR), .val (.int (14 : Int32)), .val (.int u9_S0), .unset] [(.int u15_S0)] := by
      by_cases hc94_16 : (p2 &&& (2 : Int32)) = (0 : Int32)
      ·
        have k17 : Go p e below m W T5 102 #[.val (.int p1), .val (.int p2), .val (.int ((p1 &&& (2147483647 : Int32)) % (5 : Int32))), .val (.ref s_OR), .val (.int (14 : Int32)), .val (.int u9_S0), .unset] [(.int (0 : Int32))] := (k14.ifYes X5 hx (hb hby at_94) (XT.i0_eq_t hc94_16) (by decide) (by decide)).iconst X5 hx (hb hby at_101) (v := (0 : Int32)) rfl
        exact ⟨(0 : Int32), (Or.inl ⟨hc94_16, rfl⟩), k17⟩
      ·
        have k18 : Go p e below m W T5 102 #[.val (.int p1), .val (.int p2), .val (.int ((p1 &&& (2147483647 : Int32)) % (5 : Int32))), .val (.ref s_OR), .val (.int (14 : Int32)), .val (.int u9_S0), .unset] [(.int (1 : Int32))] := ((k14.ifNo X5 hx (hb hby at_94) (XT.i0_eq_f hc94_16)).iconst X5 hx (hb hby at_97) (v := (1 : Int32)) rfl).goto X5 hx (hb hby at_98) (by decide) (by decide)
        exact ⟨(1 : Int32), (Or.inr ⟨hc94_16, rfl⟩), k18⟩
    have k19 : Go p e below m W T5 104 #[.val (.int p1), .val (.int p2), .val (.int ((p1 &&& (2147483647 : Int32)) % (5 : Int32))), .val (.ref s_OR), .val (.int (14 : Int32)), .val (.int u9_S0), .val (.int u15_S0)] [] := k15.istore X5 hx (hb hby at_102) rfl
    have k20 : Go p e below m W T5 111 #[.val (.int p1), .val (.int p2), .val (.int ((p1 &&& (2147483647 : Int32)) % (5 : Int32))), .val (.ref s_OR), .val (.int (14 : Int32)), .val (.int u9_S0), .val (.int u15_S0)] [(.int u15_S0), (.int u9_S0), (.int (14 : Int32)), (.ref s_OR)] := (((k19.aloadN X5 hx (hb hby at_104) rfl rfl).iload X5 hx (hb hby at_105) rfl).iload X5 hx (hb hby at_107) rfl).iload X5 hx (hb hby at_109) rfl
    obtain ⟨T21, v21, L21, X21, Q21, k21⟩ := k20.stat (y := (⟨"com/example/paddlefish/paddlefish/OperatorApplyPinLaw", "check", "(Lcom/example/paddlefish/paddlefish/BooleanExpression$Operator;IZZ)Z"⟩ : MethodName)) (Wd := 0) (cells' := 0) (slots' := 0) (argsL := [(.ref s_OR), (.int (14 : Int32)), (.int u9_S0), (.int u15_S0)]) (rest := []) X5 hx hZ hown (by rw [hml]; rfl) (hv 4 rfl) (hv 5 rfl) (hv 7 rfl) (hv 6 rfl) (hb hby at_111) (by decide) (rmc0 l Z a0 hw [] s_OR u9_S0 u15_S0 h0 n0 Z0 (F3_ordinal.ext O0.2) (E_s_OR.ext O0.2) (by rcases hd9 with ⟨_, q⟩ | ⟨_, q⟩ <;> first | exact Or.inl q | exact Or.inr q) (by rcases hd15 with ⟨_, q⟩ | ⟨_, q⟩ <;> first | exact Or.inl q | exact Or.inr q)) e5 rfl rfl pd_rm0_0 rfl (Nat.le_of_eq rfl) (by decide) (by decide) rfl rfl (by decide) (by decide)
    obtain ⟨rfl, Nq21, e21q⟩ := Q21
    have N21 := Fr.app N0 Nq21
    have e21 : T21.heap = h0 := e21q
    have k21 : Go p e below m W T21 114 #[.val (.int p1), .val (.int p2), .val (.int ((p1 &&& (2147483647 : Int32)) % (5 : Int32))), .val (.ref s_OR), .val (.int (14 : Int32)), .val (.int u9_S0), .val (.int u15_S0)] [(.int (1 : Int32))] := k21
    have k22 : Go p e below m W T21 122 #[.val (.int p1), .val (.int p2), .val (.int ((p1 &&& (2147483647 : Int32)) % (5 : Int32))), .val (.ref s_OR), .val (.int (14 : Int32)), .val (.int u9_S0), .val (.int u15_S0)] [(.int (0 : Int32)), (.int (0 : Int32)), (.int (14 : Int32)), (.ref s_OR)] := ((((k21.ifNo X21 hx (hb hby at_114) (XT.i0_eq_f (by decide))).aloadN X21 hx (hb hby at_117) rfl rfl).iload X21 hx (hb hby at_118) rfl).iconst X21 hx (hb hby at_120) (v := (0 : Int32)) rfl).iconst X21 hx (hb hby at_121) (v := (0 : Int32)) rfl
    obtain ⟨T23, v23, L23, X23, Q23, k23⟩ := k22.stat (y := (⟨"com/example/paddlefish/paddlefish/OperatorApplyPinLaw", "check", "(Lcom/example/paddlefish/paddlefish/BooleanExpression$Operator;IZZ)Z"⟩ : MethodName)) (Wd := 0) (cells' := 0) (slots' := 0) (argsL := [(.ref s_OR), (.int (14 : Int32)), (.int (0 : Int32)), (.int (0 : Int32))]) (rest := []) X21 hx hZ hown (by rw [hml]; rfl) (hv 4 rfl) (hv 5 rfl) (hv 7 rfl) (hv 6 rfl) (hb hby at_122) (by decide) (rmc0 l Z a0 hw [] s_OR (0 : Int32) (0 : Int32) h0 n0 Z0 (F3_ordinal.ext O0.2) (E_s_OR.ext O0.2) (Or.inl rfl) (Or.inl rfl)) e21 rfl rfl pd_rm0_0 rfl (Nat.le_of_eq rfl) (by decide) (by decide) rfl rfl (by decide) (by decide)
    obtain ⟨rfl, Nq23, e23q⟩ := Q23
    have N23 := Fr.app N21 Nq23
    have e23 : T23.heap = h0 := e23q
    have k23 : Go p e below m W T23 125 #[.val (.int p1), .val (.int p2), .val (.int ((p1 &&& (2147483647 : Int32)) % (5 : Int32))), .val (.ref s_OR), .val (.int (14 : Int32)), .val (.int u9_S0), .val (.int u15_S0)] [(.int (1 : Int32))] := k23
    have k24 : Go p e below m W T23 133 #[.val (.int p1), .val (.int p2), .val (.int ((p1 &&& (2147483647 : Int32)) % (5 : Int32))), .val (.ref s_OR), .val (.int (14 : Int32)), .val (.int u9_S0), .val (.int u15_S0)] [(.int (1 : Int32)), (.int (0 : Int32)), (.int (14 : Int32)), (.ref s_OR)] := ((((k23.ifNo X23 hx (hb hby at_125) (XT.i0_eq_f (by decide))).aloadN X23 hx (hb hby at_128) rfl rfl).iload X23 hx (hb hby at_129) rfl).iconst X23 hx (hb hby at_131) (v := (0 : Int32)) rfl).iconst X23 hx (hb hby at_132) (v := (1 : Int32)) rfl
    obtain ⟨T25, v25, L25, X25, Q25, k25⟩ := k24.stat (y := (⟨"com/example/paddlefish/paddlefish/OperatorApplyPinLaw", "check", "(Lcom/example/paddlefish/paddlefish/BooleanExpression$Operator;IZZ)Z"⟩ : MethodName)) (Wd := 0) (cells' := 0) (slots' := 0) (argsL := [(.ref s_OR), (.int (14 : Int32)), (.int (0 : Int32)), (.int (1 : Int32))]) (rest := []) X23 hx hZ hown (by rw [hml]; rfl) (hv 4 rfl) (hv 5 rfl) (hv 7 rfl) (hv 6 rfl) (hb hby at_133) (by decide) (rmc0 l Z a0 hw [] s_OR (0 : Int32) (1 : Int32) h0 n0 Z0 (F3_ordinal.ext O0.2) (E_s_OR.ext O0.2) (Or.inl rfl) (Or.inr rfl)) e23 rfl rfl pd_rm0_0 rfl (Nat.le_of_eq rfl) (by decide) (by decide) rfl rfl (by decide) (by decide)
    obtain ⟨rfl, Nq25, e25q⟩ := Q25
    have N25 := Fr.app N23 Nq25
    have e25 : T25.heap = h0 := e25q
    have k25 : Go p e below m W T25 136 #[.val (.int p1), .val (.int p2), .val (.int ((p1 &&& (2147483647 : Int32)) % (5 : Int32))), .val (.ref s_OR), .val (.int (14 : Int32)), .val (.int u9_S0), .val (.int u15_S0)] [(.int (1 : Int32))] := k25
    have k26 : Go p e below m W T25 144 #[.val (.int p1), .val (.int p2), .val (.int ((p1 &&& (2147483647 : Int32)) % (5 : Int32))), .val (.ref s_OR), .val (.int (14 : Int32)), .val (.int u9_S0), .val (.int u15_S0)] [(.int (0 : Int32)), (.int (1 : Int32)), (.int (14 : Int32)), (.ref s_OR)] := ((((k25.ifNo X25 hx (hb hby at_136) (XT.i0_eq_f (by decide))).aloadN X25 hx (hb hby at_139) rfl rfl).iload X25 hx (hb hby at_140) rfl).iconst X25 hx (hb hby at_142) (v := (1 : Int32)) rfl).iconst X25 hx (hb hby at_143) (v := (0 : Int32)) rfl
    obtain ⟨T27, v27, L27, X27, Q27, k27⟩ := k26.stat (y := (⟨"com/example/paddlefish/paddlefish/OperatorApplyPinLaw", "check", "(Lcom/example/paddlefish/paddlefish/BooleanExpression$Operator;IZZ)Z"⟩ : MethodName)) (Wd := 0) (cells' := 0) (slots' := 0) (argsL := [(.ref s_OR), (.int (14 : Int32)), (.int (1 : Int32)), (.int (0 : Int32))]) (rest := []) X25 hx hZ hown (by rw [hml]; rfl) (hv 4 rfl) (hv 5 rfl) (hv 7 rfl) (hv 6 rfl) (hb hby at_144) (by decide) (rmc0 l Z a0 hw [] s_OR (1 : Int32) (0 : Int32) h0 n0 Z0 (F3_ordinal.ext O0.2) (E_s_OR.ext O0.2) (Or.inr rfl) (Or.inl rfl)) e25 rfl rfl pd_rm0_0 rfl (Nat.le_of_eq rfl) (by decide) (by decide) rfl rfl (by decide) (by decide)
    obtain ⟨rfl, Nq27, e27q⟩ := Q27
    have N27 := Fr.app N25 Nq27
    have e27 : T27.heap = h0 := e27q
    have k27 : Go p e below m W T27 147 #[.val (.int p1), .val (.int p2), .val (.int ((p1 &&& (2147483647 : Int32)) % (5 : Int32))), .val (.ref s_OR), .val (.int (14 : Int32)), .val (.int u9_S0), .val (.int u15_S0)] [(.int (1 : Int32))] := k27
    have k28 : Go p e below m W T27 155 #[.val (.int p1), .val (.int p2), .val (.int ((p1 &&& (2147483647 : Int32)) % (5 : Int32))), .val (.ref s_OR), .val (.int (14 : Int32)), .val (.int u9_S0), .val (.int u15_S0)] [(.int (1 : Int32)), (.int (1 : Int32)), (.int (14 : Int32)), (.ref s_OR)] := ((((k27.ifNo X27 hx (hb hby at_147) (XT.i0_eq_f (by decide))).aloadN X27 hx (hb hby at_150) rfl rfl).iload X27 hx (hb hby at_151) rfl).iconst X27 hx (hb hby at_153) (v := (1 : Int32)) rfl).iconst X27 hx (hb hby at_154) (v := (1 : Int32)) rfl
    obtain ⟨T29, v29, L29, X29, Q29, k29⟩ := k28.stat (y := (⟨"com/example/paddlefish/paddlefish/OperatorApplyPinLaw", "check", "(Lcom/example/paddlefish/paddlefish/BooleanExpression$Operator;IZZ)Z"⟩ : MethodName)) (Wd := 0) (cells' := 0) (slots' := 0) (argsL := [(.ref s_OR), (.int (14 : Int32)), (.int (1 : Int32)), (.int (1 : Int32))]) (rest := []) X27 hx hZ hown (by rw [hml]; rfl) (hv 4 rfl) (hv 5 rfl) (hv 7 rfl) (hv 6 rfl) (hb hby at_155) (by decide) (rmc0 l Z a0 hw [] s_OR (1 : Int32) (1 : Int32) h0 n0 Z0 (F3_ordinal.ext O0.2) (E_s_OR.ext O0.2) (Or.inr rfl) (Or.inr rfl)) e27 rfl rfl pd_rm0_0 rfl (Nat.le_of_eq rfl) (by decide) (by decide) rfl rfl (by decide) (by decide)
    obtain ⟨rfl, Nq29, e29q⟩ := Q29
    have N29 := Fr.app N27 Nq29
    have e29 : T29.heap = h0 := e29q
    have k29 : Go p e below m W T29 158 #[.val (.int p1), .val (.int p2), .val (.int ((p1 &&& (2147483647 : Int32)) % (5 : Int32))), .val (.ref s_OR), .val (.int (14 : Int32)), .val (.int u9_S0), .val (.int u15_S0)] [(.int (1 : Int32))] := k29
    have k30 : Go p e below m W T29 166 #[.val (.int p1), .val (.int p2), .val (.int ((p1 &&& (2147483647 : Int32)) % (5 : Int32))), .val (.ref s_OR), .val (.int (14 : Int32)), .val (.int u9_S0), .val (.int u15_S0)] [(.int (1 : Int32))] := ((k29.ifNo X29 hx (hb hby at_158) (XT.i0_eq_f (by decide))).iconst X29 hx (hb hby at_161) (v := (1 : Int32)) rfl).goto X29 hx (hb hby at_162) (by decide) (by decide)
    exact k30.ireturnN X29 hx (t := .boolean) Bd.returns (by simp) rfl (hb hby at_166) (BodyLoose.notSynchronized Bd) (by rw [e29]; exact ⟨rfl, N29⟩) (by decide) (by decide)
  ·
    have k31 : Go p e below m W s₁ 24 #[.val (.int p1), .val (.int p2), .val (.int ((p1 &&& (2147483647 : Int32)) % (5 : Int32))), .unset, .unset, .unset, .unset] [(.int (1 : Int32)), (.int ((p1 &&& (2147483647 : Int32)) % (5 : Int32)))] := ((k2.ifYes X0 hx (hb hby at_8) (XT.i0_ne_t hc8_3) (by decide) (by decide)).iloadN X0 hx (hb hby at_22) rfl).iconst X0 hx (hb hby at_23) (v := (1 : Int32)) rfl
    by_cases hc24_32 : ((p1 &&& (2147483647 : Int32)) % (5 : Int32)) = (1 : Int32)
    ·
      have k33 : Go p e below m W s₁ 27 #[.val (.int p1), .val (.int p2), .val (.int ((p1 &&& (2147483647 : Int32)) % (5 : Int32))), .unset, .unset, .unset, .unset] [] := k31.icmpNo X0 hx (hb hby at_24) (XT.ii_ne_f hc24_32)
      obtain ⟨T34, X34, e34, k34⟩ := k33.getS X0 hx hZ hown (host := "") (Or.inl (hv 29 rfl)) Via.refl e0 (S_s_XOR.ext O0.2) (hb hby at_27)
      have k34 : Go p e below m W T34 30 #[.val (.int p1), .val (.int p2), .val (.int ((p1 &&& (2147483647 : Int32)) % (5 : Int32))), .unset, .unset, .unset, .unset] [(.ref s_XOR)] := k34
      have k35 : Go p e below m W T34 31 #[.val (.int p1), .val (.int p2), .val (.int ((p1 &&& (2147483647 : Int32)) % (5 : Int32))), .val (.ref s_XOR), .unset, .unset, .unset] [] := k34.astoreN X34 hx (hb hby at_30) rfl rfl
      have k36 : Go p e below m W T34 35 #[.val (.int p1), .val (.int p2), .val (.int ((p1 &&& (2147483647 : Int32)) % (5 : Int32))), .val (.ref s_XOR), .val (.int (6 : Int32)), .unset, .unset] [] := (k35.bipush X34 hx (hb hby at_31) (v := (6 : Int32)) rfl).istore X34 hx (hb hby at_33) rfl
      have k37 : Go p e below m W T34 81 #[.val (.int p1), .val (.int p2), .val (.int ((p1 &&& (2147483647 : Int32)) % (5 : Int32))), .val (.ref s_XOR), .val (.int (6 : Int32)), .unset, .unset] [(.int (p2 &&& (1 : Int32)))] := (((k36.goto X34 hx (hb hby at_35) (by decide) (by decide)).iloadN X34 hx (hb hby at_78) rfl).iconst X34 hx (hb hby at_79) (v := (1 : Int32)) rfl).iand X34 hx (hb hby at_80)
      obtain ⟨u38_S0, hd38, k38⟩ : ∃ (u38_S0 : Int32), ((((p2 &&& (1 : Int32)) = (0 : Int32)) ∧ u38_S0 = (0 : Int32)) ∨ ((¬ ((p2 &&& (1 : Int32)) = (0 : Int32))) ∧ u38_S0 = (1 : Int32))) ∧ Go p e below m W T34 89 #[.val (.int p1), .val (.int p2), .val (.int ((p1 &&& (2147483647 : Int32)) % (5 : Int32))), .val (.ref s_XOR), .val (.int (6 : Int32)), .unset, .unset] [(.int u38_S0)] := by
        by_cases hc81_39 : (p2 &&& (1 : Int32)) = (0 : Int32)
        ·
          have k40 : Go p e below m W T34 89 #[.val (.int p1), .val (.int p2), .val (.int ((p1 &&& (2147483647 : Int32)) % (5 : Int32))), .val (.ref s_XOR), .val (.int (6 : Int32)), .unset, .unset] [(.int (0 : Int32))] := (k37.ifYes X34 hx (hb hby at_81) (XT.i0_eq_t hc81_39) (by decide) (by decide)).iconst X34 hx (hb hby at_88) (v := (0 : Int32)) rfl
          exact ⟨(0 : Int32), (Or.inl ⟨hc81_39, rfl⟩), k40⟩
        ·
          have k41 : Go p e below m W T34 89 #[.val (.int p1), .val (.int p2), .val (.int ((p1 &&& (2147483647 : Int32)) % (5 : Int32))), .val (.ref s_XOR), .val (.int (6 : Int32)), .unset, .unset] [(.int (1 : Int32))] := ((k37.ifNo X34 hx (hb hby at_81) (XT.i0_eq_f hc81_39)).iconst X34 hx (hb hby at_84) (v := (1 : Int32)) rfl).goto X34 hx (hb hby at_85) (by decide) (by decide)
          exact ⟨(1 : Int32), (Or.inr ⟨hc81_39, rfl⟩), k41⟩
      have k42 : Go p e below m W T34 91 #[.val (.int p1), .val (.int p2), .val (.int ((p1 &&& (2147483647 : Int32)) % (5 : Int32))), .val (.ref s_XOR), .val (.int (6 : Int32)), .val (.int u38_S0), .unset] [] := k38.istore X34 hx (hb hby at_89) rfl
      have k43 : Go p e below m W T34 94 #[.val (.int p1), .val (.int p2), .val (.int ((p1 &&& (2147483647 : Int32)) % (5 : Int32))), .val (.ref s_XOR), .val (.int (6 : Int32)), .val (.int u38_S0), .unset] [(.int (p2 &&& (2 : Int32)))] := ((k42.iloadN X34 hx (hb hby at_91) rfl).iconst X34 hx (hb hby at_92) (v := (2 : Int32)) rfl).iand X34 hx (hb hby at_93)
      obtain ⟨u44_S0, hd44, k44⟩ : ∃ (u44_S0 : Int32), ((((p2 &&& (2 : Int32)) = (0 : Int32)) ∧ u44_S0 = (0 : Int32)) ∨ ((¬ ((p2 &&& (2 : Int32)) = (0 : Int32))) ∧ u44_S0 = (1 : Int32))) ∧ Go p e below m W T34 102 #[.val (.int p1), .val (.int p2), .val (.int ((p1 &&& (2147483647 : Int32)) % (5 : Int32))), .val (.ref s_XOR), .val (.int (6 : Int32)), .val (.int u38_S0), .unset] [(.int u44_S0)] := by
        by_cases hc94_45 : (p2 &&& (2 : Int32)) = (0 : Int32)
        ·
          have k46 : Go p e below m W T34 102 #[.val (.int p1), .val (.int p2), .val (.int ((p1 &&& (2147483647 : Int32)) % (5 : Int32))), .val (.ref s_XOR), .val (.int (6 : Int32)), .val (.int u38_S0), .unset] [(.int (0 : Int32))] := (k43.ifYes X34 hx (hb hby at_94) (XT.i0_eq_t hc94_45) (by decide) (by decide)).iconst X34 hx (hb hby at_101) (v := (0 : Int32)) rfl
          exact ⟨(0 : Int32), (Or.inl ⟨hc94_45, rfl⟩), k46⟩
        ·
          have k47 : Go p e below m W T34 102 #[.val (.int p1), .val (.int p2), .val (.int ((p1 &&& (2147483647 : Int32)) % (5 : Int32))), .val (.ref s_XOR), .val (.int (6 : Int32)), .val (.int u38_S0), .unset] [(.int (1 : Int32))] := ((k43.ifNo X34 hx (hb hby at_94) (XT.i0_eq_f hc94_45)).iconst X34 hx (hb hby at_97) (v := (1 : Int32)) rfl).goto X34 hx (hb hby at_98) (by decide) (by decide)
          exact ⟨(1 : Int32), (Or.inr ⟨hc94_45, rfl⟩), k47⟩
      have k48 : Go p e below m W T34 104 #[.val (.int p1), .val (.int p2), .val (.int ((p1 &&& (2147483647 : Int32)) % (5 : Int32))), .val (.ref s_XOR), .val (.int (6 : Int32)), .val (.int u38_S0), .val (.int u44_S0)] [] := k44.istore X34 hx (hb hby at_102) rfl
      have k49 : Go p e below m W T34 111 #[.val (.int p1), .val (.int p2), .val (.int ((p1 &&& (2147483647 : Int32)) % (5 : Int32))), .val (.ref s_XOR), .val (.int (6 : Int32)), .val (.int u38_S0), .val (.int u44_S0)] [(.int u44_S0), (.int u38_S0), (.int (6 : Int32)), (.ref s_XOR)] := (((k48.aloadN X34 hx (hb hby at_104) rfl rfl).iload X34 hx (hb hby at_105) rfl).iload X34 hx (hb hby at_107) rfl).iload X34 hx (hb hby at_109) rfl
      obtain ⟨T50, v50, L50, X50, Q50, k50⟩ := k49.stat (y := (⟨"com/example/paddlefish/paddlefish/OperatorApplyPinLaw", "check", "(Lcom/example/paddlefish/paddlefish/BooleanExpression$Operator;IZZ)Z"⟩ : MethodName)) (Wd := 0) (cells' := 0) (slots' := 0) (argsL := [(.ref s_XOR), (.int (6 : Int32)), (.int u38_S0), (.int u44_S0)]) (rest := []) X34 hx hZ hown (by rw [hml]; rfl) (hv 4 rfl) (hv 5 rfl) (hv 7 rfl) (hv 6 rfl) (hb hby at_111) (by decide) (rmc1 l Z a0 hw [] s_XOR u38_S0 u44_S0 h0 n0 Z0 (F12_ordinal.ext O0.2) (E_s_XOR.ext O0.2) (by rcases hd38 with ⟨_, q⟩ | ⟨_, q⟩ <;> first | exact Or.inl q | exact Or.inr q) (by rcases hd44 with ⟨_, q⟩ | ⟨_, q⟩ <;> first | exact Or.inl q | exact Or.inr q)) e34 rfl rfl pd_rm0_0 rfl (Nat.le_of_eq rfl) (by decide) (by decide) rfl rfl (by decide) (by decide)
      obtain ⟨rfl, Nq50, e50q⟩ := Q50
      have N50 := Fr.app N0 Nq50
      have e50 : T50.heap = h0 := e50q
      have k50 : Go p e below m W T50 114 #[.val (.int p1), .val (.int p2), .val (.int ((p1 &&& (2147483647 : Int32)) % (5 : Int32))), .val (.ref s_XOR), .val (.int (6 : Int32)), .val (.int u38_S0), .val (.int u44_S0)] [(.int (1 : Int32))] := k50
      have k51 : Go p e below m W T50 122 #[.val (.int p1), .val (.int p2), .val (.int ((p1 &&& (2147483647 : Int32)) % (5 : Int32))), .val (.ref s_XOR), .val (.int (6 : Int32)), .val (.int u38_S0), .val (.int u44_S0)] [(.int (0 : Int32)), (.int (0 : Int32)), (.int (6 : Int32)), (.ref s_XOR)] := ((((k50.ifNo X50 hx (hb hby at_114) (XT.i0_eq_f (by decide))).aloadN X50 hx (hb hby at_117) rfl rfl).iload X50 hx (hb hby at_118) rfl).iconst X50 hx (hb hby at_120) (v := (0 : Int32)) rfl).iconst X50 hx (hb hby at_121) (v := (0 : Int32)) rfl
      obtain ⟨T52, v52, L52, X52, Q52, k52⟩ := k51.stat (y := (⟨"com/example/paddlefish/paddlefish/OperatorApplyPinLaw", "check", "(Lcom/example/paddlefish/paddlefish/BooleanExpression$Operator;IZZ)Z"⟩ : MethodName)) (Wd := 0) (cells' := 0) (slots' := 0) (argsL := [(.ref s_XOR), (.int (6 : Int32)), (.int (0 : Int32)), (.int (0 : Int32))]) (rest := []) X50 hx hZ hown (by rw [hml]; rfl) (hv 4 rfl) (hv 5 rfl) (hv 7 rfl) (hv 6 rfl) (hb hby at_122) (by decide) (rmc1 l Z a0 hw [] s_XOR (0 : Int32) (0 : Int32) h0 n0 Z0 (F12_ordinal.ext O0.2) (E_s_XOR.ext O0.2) (Or.inl rfl) (Or.inl rfl)) e50 rfl rfl pd_rm0_0 rfl (Nat.le_of_eq rfl) (by decide) (by decide) rfl rfl (by decide) (by decide)
      obtain ⟨rfl, Nq52, e52q⟩ := Q52
      have N52 := Fr.app N50 Nq52
      have e52 : T52.heap = h0 := e52q
      have k52 : Go p e below m W T52 125 #[.val (.int p1), .val (.int p2), .val (.int ((p1 &&& (2147483647 : Int32)) % (5 : Int32))), .val (.ref s_XOR), .val (.int (6 : Int32)), .val (.int u38_S0), .val (.int u44_S0)] [(.int (1 : Int32))] := k52
      have k53 : Go p e below m W T52 133 #[.val (.int p1), .val (.int p2), .val (.int ((p1 &&& (2147483647 : Int32)) % (5 : Int32))), .val (.ref s_XOR), .val (.int (6 : Int32)), .val (.int u38_S0), .val (.int u44_S0)] [(.int (1 : Int32)), (.int (0 : Int32)), (.int (6 : Int32)), (.ref s_XOR)] := ((((k52.ifNo X52 hx (hb hby at_125) (XT.i0_eq_f (by decide))).aloadN X52 hx (hb hby at_128) rfl rfl).iload X52 hx (hb hby at_129) rfl).iconst X52 hx (hb hby at_131) (v := (0 : Int32)) rfl).iconst X52 hx (hb hby at_132) (v := (1 : Int32)) rfl
      obtain ⟨T54, v54, L54, X54, Q54, k54⟩ := k53.stat (y := (⟨"com/example/paddlefish/paddlefish/OperatorApplyPinLaw", "check", "(Lcom/example/paddlefish/paddlefish/BooleanExpression$Operator;IZZ)Z"⟩ : MethodName)) (Wd := 0) (cells' := 0) (slots' := 0) (argsL := [(.ref s_XOR), (.int (6 : Int32)), (.int (0 : Int32)), (.int (1 : Int32))]) (rest := []) X52 hx hZ hown (by rw [hml]; rfl) (hv 4 rfl) (hv 5 rfl) (hv 7 rfl) (hv 6 rfl) (hb hby at_133) (by decide) (rmc1 l Z a0 hw [] s_XOR (0 : Int32) (1 : Int32) h0 n0 Z0 (F12_ordinal.ext O0.2) (E_s_XOR.ext O0.2) (Or.inl rfl) (Or.inr rfl)) e52 rfl rfl pd_rm0_0 rfl (Nat.le_of_eq rfl) (by decide) (by decide) rfl rfl (by decide) (by decide)
      obtain ⟨rfl, Nq54, e54q⟩ := Q54
      have N54 := Fr.app N52 Nq54
      have e54 : T54.heap = h0 := e54q
      have k54 : Go p e below m W T54 136 #[.val (.int p1), .val (.int p2), .val (.int ((p1 &&& (2147483647 : Int32)) % (5 : Int32))), .val (.ref s_XOR), .val (.int (6 : Int32)), .val (.int u38_S0), .val (.int u44_S0)] [(.int (1 : Int32))] := k54
      have k55 : Go p e below m W T54 144 #[.val (.int p1), .val (.int p2), .val (.int ((p1 &&& (2147483647 : Int32)) % (5 : Int32))), .val (.ref s_XOR), .val (.int (6 : Int32)), .val (.int u38_S0), .val (.int u44_S0)] [(.int (0 : Int32)), (.int (1 : Int32)), (.int (6 : Int32)), (.ref s_XOR)] := ((((k54.ifNo X54 hx (hb hby at_136) (XT.i0_eq_f (by decide))).aloadN X54 hx (hb hby at_139) rfl rfl).iload X54 hx (hb hby at_140) rfl).iconst X54 hx (hb hby at_142) (v := (1 : Int32)) rfl).iconst X54 hx (hb hby at_143) (v := (0 : Int32)) rfl
      obtain ⟨T56, v56, L56, X56, Q56, k56⟩ := k55.stat (y := (⟨"com/example/paddlefish/paddlefish/OperatorApplyPinLaw", "check", "(Lcom/example/paddlefish/paddlefish/BooleanExpression$Operator;IZZ)Z"⟩ : MethodName)) (Wd := 0) (cells' := 0) (slots' := 0) (argsL := [(.ref s_XOR), (.int (6 : Int32)), (.int (1 : Int32)), (.int (0 : Int32))]) (rest := []) X54 hx hZ hown (by rw [hml]; rfl) (hv 4 rfl) (hv 5 rfl) (hv 7 rfl) (hv 6 rfl) (hb hby at_144) (by decide) (rmc1 l Z a0 hw [] s_XOR (1 : Int32) (0 : Int32) h0 n0 Z0 (F12_ordinal.ext O0.2) (E_s_XOR.ext O0.2) (Or.inr rfl) (Or.inl rfl)) e54 rfl rfl pd_rm0_0 rfl (Nat.le_of_eq rfl) (by decide) (by decide) rfl rfl (by decide) (by decide)
      obtain ⟨rfl, Nq56, e56q⟩ := Q56
      have N56 := Fr.app N54 Nq56
      have e56 : T56.heap = h0 := e56q
      have k56 : Go p e below m W T56 147 #[.val (.int p1), .val (.int p2), .val (.int ((p1 &&& (2147483647 : Int32)) % (5 : Int32))), .val (.ref s_XOR), .val (.int (6 : Int32)), .val (.int u38_S0), .val (.int u44_S0)] [(.int (1 : Int32))] := k56
      have k57 : Go p e below m W T56 155 #[.val (.int p1), .val (.int p2), .val (.int ((p1 &&& (2147483647 : Int32)) % (5 : Int32))), .val (.ref s_XOR), .val (.int (6 : Int32)), .val (.int u38_S0), .val (.int u44_S0)] [(.int (1 : Int32)), (.int (1 : Int32)), (.int (6 : Int32)), (.ref s_XOR)] := ((((k56.ifNo X56 hx (hb hby at_147) (XT.i0_eq_f (by decide))).aloadN X56 hx (hb hby at_150) rfl rfl).iload X56 hx (hb hby at_151) rfl).iconst X56 hx (hb hby at_153) (v := (1 : Int32)) rfl).iconst X56 hx (hb hby at_154) (v := (1 : Int32)) rfl
      obtain ⟨T58, v58, L58, X58, Q58, k58⟩ := k57.stat (y := (⟨"com/example/paddlefish/paddlefish/OperatorApplyPinLaw", "check", "(Lcom/example/paddlefish/paddlefish/BooleanExpression$Operator;IZZ)Z"⟩ : MethodName)) (Wd := 0) (cells' := 0) (slots' := 0) (argsL := [(.ref s_XOR), (.int (6 : Int32)), (.int (1 : Int32)), (.int (1 : Int32))]) (rest := []) X56 hx hZ hown (by rw [hml]; rfl) (hv 4 rfl) (hv 5 rfl) (hv 7 rfl) (hv 6 rfl) (hb hby at_155) (by decide) (rmc1 l Z a0 hw [] s_XOR (1 : Int32) (1 : Int32) h0 n0 Z0 (F12_ordinal.ext O0.2) (E_s_XOR.ext O0.2) (Or.inr rfl) (Or.inr rfl)) e56 rfl rfl pd_rm0_0 rfl (Nat.le_of_eq rfl) (by decide) (by decide) rfl rfl (by decide) (by decide)
      obtain ⟨rfl, Nq58, e58q⟩ := Q58
      have N58 := Fr.app N56 Nq58
      have e58 : T58.heap = h0 := e58q
      have k58 : Go p e below m W T58 158 #[.val (.int p1), .val (.int p2), .val (.int ((p1 &&& (2147483647 : Int32)) % (5 : Int32))), .val (.ref s_XOR), .val (.int (6 : Int32)), .val (.int u38_S0), .val (.int u44_S0)] [(.int (1 : Int32))] := k58
      have k59 : Go p e below m W T58 166 #[.val (.int p1), .val (.int p2), .val (.int ((p1 &&& (2147483647 : Int32)) % (5 : Int32))), .val (.ref s_XOR), .val (.int (6 : Int32)), .val (.int u38_S0), .val (.int u44_S0)] [(.int (1 : Int32))] := ((k58.ifNo X58 hx (hb hby at_158) (XT.i0_eq_f (by decide))).iconst X58 hx (hb hby at_161) (v := (1 : Int32)) rfl).goto X58 hx (hb hby at_162) (by decide) (by decide)
      exact k59.ireturnN X58 hx (t := .boolean) Bd.returns (by simp) rfl (hb hby at_166) (BodyLoose.notSynchronized Bd) (by rw [e58]; exact ⟨rfl, N58⟩) (by decide) (by decide)
    ·
      have k60 : Go p e below m W s₁ 40 #[.val (.int p1), .val (.int p2), .val (.int ((p1 &&& (2147483647 : Int32)) % (5 : Int32))), .unset, .unset, .unset, .unset] [(.int (2 : Int32)), (.int ((p1 &&& (2147483647 : Int32)) % (5 : Int32)))] := ((k31.icmpYes X0 hx (hb hby at_24) (XT.ii_ne_t hc24_32) (by decide) (by decide)).iloadN X0 hx (hb hby at_38) rfl).iconst X0 hx (hb hby at_39) (v := (2 : Int32)) rfl
      by_cases hc40_61 : ((p1 &&& (2147483647 : Int32)) % (5 : Int32)) = (2 : Int32)
      ·
        have k62 : Go p e below m W s₁ 43 #[.val (.int p1), .val (.int p2), .val (.int ((p1 &&& (2147483647 : Int32)) % (5 : Int32))), .unset, .unset, .unset, .unset] [] := k60.icmpNo X0 hx (hb hby at_40) (XT.ii_ne_f hc40_61)
        obtain ⟨T63, X63, e63, k63⟩ := k62.getS X0 hx hZ hown (host := "") (Or.inl (hv 31 rfl)) Via.refl e0 (S_s_AND.ext O0.2) (hb hby at_43)
        have k63 : Go p e below m W T63 46 #[.val (.int p1), .val (.int p2), .val (.int ((p1 &&& (2147483647 : Int32)) % (5 : Int32))), .unset, .unset, .unset, .unset] [(.ref s_AND)] := k63
        have k64 : Go p e below m W T63 47 #[.val (.int p1), .val (.int p2), .val (.int ((p1 &&& (2147483647 : Int32)) % (5 : Int32))), .val (.ref s_AND), .unset, .unset, .unset] [] := k63.astoreN X63 hx (hb hby at_46) rfl rfl
        have k65 : Go p e below m W T63 51 #[.val (.int p1), .val (.int p2), .val (.int ((p1 &&& (2147483647 : Int32)) % (5 : Int32))), .val (.ref s_AND), .val (.int (8 : Int32)), .unset, .unset] [] := (k64.bipush X63 hx (hb hby at_47) (v := (8 : Int32)) rfl).istore X63 hx (hb hby at_49) rfl
        have k66 : Go p e below m W T63 81 #[.val (.int p1), .val (.int p2), .val (.int ((p1 &&& (2147483647 : Int32)) % (5 : Int32))), .val (.ref s_AND), .val (.int (8 : Int32)), .unset, .unset] [(.int (p2 &&& (1 : Int32)))] := (((k65.goto X63 hx (hb hby at_51) (by decide) (by decide)).iloadN X63 hx (hb hby at_78) rfl).iconst X63 hx (hb hby at_79) (v := (1 : Int32)) rfl).iand X63 hx (hb hby at_80)
        obtain ⟨u67_S0, hd67, k67⟩ : ∃ (u67_S0 : Int32), ((((p2 &&& (1 : Int32)) = (0 : Int32)) ∧ u67_S0 = (0 : Int32)) ∨ ((¬ ((p2 &&& (1 : Int32)) = (0 : Int32))) ∧ u67_S0 = (1 : Int32))) ∧ Go p e below m W T63 89 #[.val (.int p1), .val (.int p2), .val (.int ((p1 &&& (2147483647 : Int32)) % (5 : Int32))), .val (.ref s_AND), .val (.int (8 : Int32)), .unset, .unset] [(.int u67_S0)] := by
          by_cases hc81_68 : (p2 &&& (1 : Int32)) = (0 : Int32)
          ·
            have k69 : Go p e below m W T63 89 #[.val (.int p1), .val (.int p2), .val (.int ((p1 &&& (2147483647 : Int32)) % (5 : Int32))), .val (.ref s_AND), .val (.int (8 : Int32)), .unset, .unset] [(.int (0 : Int32))] := (k66.ifYes X63 hx (hb hby at_81) (XT.i0_eq_t hc81_68) (by decide) (by decide)).iconst X63 hx (hb hby at_88) (v := (0 : Int32)) rfl
            exact ⟨(0 : Int32), (Or.inl ⟨hc81_68, rfl⟩), k69⟩
          ·
            have k70 : Go p e below m W T63 89 #[.val (.int p1), .val (.int p2), .val (.int ((p1 &&& (2147483647 : Int32)) % (5 : Int32))), .val (.ref s_AND), .val (.int (8 : Int32)), .unset, .unset] [(.int (1 : Int32))] := ((k66.ifNo X63 hx (hb hby at_81) (XT.i0_eq_f hc81_68)).iconst X63 hx (hb hby at_84) (v := (1 : Int32)) rfl).goto X63 hx (hb hby at_85) (by decide) (by decide)
            exact ⟨(1 : Int32), (Or.inr ⟨hc81_68, rfl⟩), k70⟩
        have k71 : Go p e below m W T63 91 #[.val (.int p1), .val (.int p2), .val (.int ((p1 &&& (2147483647 : Int32)) % (5 : Int32))), .val (.ref s_AND), .val (.int (8 : Int32)), .val (.int u67_S0), .unset] [] := k67.istore X63 hx (hb hby at_89) rfl
        have k72 : Go p e below m W T63 94 #[.val (.int p1), .val (.int p2), .val (.int ((p1 &&& (2147483647 : Int32)) % (5 : Int32))), .val (.ref s_AND), .val (.int (8 : Int32)), .val (.int u67_S0), .unset] [(.int (p2 &&& (2 : Int32)))] := ((k71.iloadN X63 hx (hb hby at_91) rfl).iconst X63 hx (hb hby at_92) (v := (2 : Int32)) rfl).iand X63 hx (hb hby at_93)
        obtain ⟨u73_S0, hd73, k73⟩ : ∃ (u73_S0 : Int32), ((((p2 &&& (2 : Int32)) = (0 : Int32)) ∧ u73_S0 = (0 : Int32)) ∨ ((¬ ((p2 &&& (2 : Int32)) = (0 : Int32))) ∧ u73_S0 = (1 : Int32))) ∧ Go p e below m W T63 102 #[.val (.int p1), .val (.int p2), .val (.int ((p1 &&& (2147483647 : Int32)) % (5 : Int32))), .val (.ref s_AND), .val (.int (8 : Int32)), .val (.int u67_S0), .unset] [(.int u73_S0)] := by
          by_cases hc94_74 : (p2 &&& (2 : Int32)) = (0 : Int32)
          ·
            have k75 : Go p e below m W T63 102 #[.val (.int p1), .val (.int p2), .val (.int ((p1 &&& (2147483647 : Int32)) % (5 : Int32))), .val (.ref s_AND), .val (.int (8 : Int32)), .val (.int u67_S0), .unset] [(.int (0 : Int32))] := (k72.ifYes X63 hx (hb hby at_94) (XT.i0_eq_t hc94_74) (by decide) (by decide)).iconst X63 hx (hb hby at_101) (v := (0 : Int32)) rfl
            exact ⟨(0 : Int32), (Or.inl ⟨hc94_74, rfl⟩), k75⟩
          ·
            have k76 : Go p e below m W T63 102 #[.val (.int p1), .val (.int p2), .val (.int ((p1 &&& (2147483647 : Int32)) % (5 : Int32))), .val (.ref s_AND), .val (.int (8 : Int32)), .val (.int u67_S0), .unset] [(.int (1 : Int32))] := ((k72.ifNo X63 hx (hb hby at_94) (XT.i0_eq_f hc94_74)).iconst X63 hx (hb hby at_97) (v := (1 : Int32)) rfl).goto X63 hx (hb hby at_98) (by decide) (by decide)
            exact ⟨(1 : Int32), (Or.inr ⟨hc94_74, rfl⟩), k76⟩
        have k77 : Go p e below m W T63 104 #[.val (.int p1), .val (.int p2), .val (.int ((p1 &&& (2147483647 : Int32)) % (5 : Int32))), .val (.ref s_AND), .val (.int (8 : Int32)), .val (.int u67_S0), .val (.int u73_S0)] [] := k73.istore X63 hx (hb hby at_102) rfl
        have k78 : Go p e below m W T63 111 #[.val (.int p1), .val (.int p2), .val (.int ((p1 &&& (2147483647 : Int32)) % (5 : Int32))), .val (.ref s_AND), .val (.int (8 : Int32)), .val (.int u67_S0), .val (.int u73_S0)] [(.int u73_S0), (.int u67_S0), (.int (8 : Int32)), (.ref s_AND)] := (((k77.aloadN X63 hx (hb hby at_104) rfl rfl).iload X63 hx (hb hby at_105) rfl).iload X63 hx (hb hby at_107) rfl).iload X63 hx (hb hby at_109) rfl
        obtain ⟨T79, v79, L79, X79, Q79, k79⟩ := k78.stat (y := (⟨"com/example/paddlefish/paddlefish/OperatorApplyPinLaw", "check", "(Lcom/example/paddlefish/paddlefish/BooleanExpression$Operator;IZZ)Z"⟩ : MethodName)) (Wd := 0) (cells' := 0) (slots' := 0) (argsL := [(.ref s_AND), (.int (8 : Int32)), (.int u67_S0), (.int u73_S0)]) (rest := []) X63 hx hZ hown (by rw [hml]; rfl) (hv 4 rfl) (hv 5 rfl) (hv 7 rfl) (hv 6 rfl) (hb hby at_111) (by decide) (rmc2 l Z a0 hw [] s_AND u67_S0 u73_S0 h0 n0 Z0 (F15_ordinal.ext O0.2) (E_s_AND.ext O0.2) (by rcases hd67 with ⟨_, q⟩ | ⟨_, q⟩ <;> first | exact Or.inl q | exact Or.inr q) (by rcases hd73 with ⟨_, q⟩ | ⟨_, q⟩ <;> first | exact Or.inl q | exact Or.inr q)) e63 rfl rfl pd_rm0_0 rfl (Nat.le_of_eq rfl) (by decide) (by decide) rfl rfl (by decide) (by decide)
        obtain ⟨rfl, Nq79, e79q⟩ := Q79
        have N79 := Fr.app N0 Nq79
        have e79 : T79.heap = h0 := e79q
        have k79 : Go p e below m W T79 114 #[.val (.int p1), .val (.int p2), .val (.int ((p1 &&& (2147483647 : Int32)) % (5 : Int32))), .val (.ref s_AND), .val (.int (8 : Int32)), .val (.int u67_S0), .val (.int u73_S0)] [(.int (1 : Int32))] := k79
        have k80 : Go p e below m W T79 122 #[.val (.int p1), .val (.int p2), .val (.int ((p1 &&& (2147483647 : Int32)) % (5 : Int32))), .val (.ref s_AND), .val (.int (8 : Int32)), .val (.int u67_S0), .val (.int u73_S0)] [(.int (0 : Int32)), (.int (0 : Int32)), (.int (8 : Int32)), (.ref s_AND)] := ((((k79.ifNo X79 hx (hb hby at_114) (XT.i0_eq_f (by decide))).aloadN X79 hx (hb hby at_117) rfl rfl).iload X79 hx (hb hby at_118) rfl).iconst X79 hx (hb hby at_120) (v := (0 : Int32)) rfl).iconst X79 hx (hb hby at_121) (v := (0 : Int32)) rfl
        obtain ⟨T81, v81, L81, X81, Q81, k81⟩ := k80.stat (y := (⟨"com/example/paddlefish/paddlefish/OperatorApplyPinLaw", "check", "(Lcom/example/paddlefish/paddlefish/BooleanExpression$Operator;IZZ)Z"⟩ : MethodName)) (Wd := 0) (cells' := 0) (slots' := 0) (argsL := [(.ref s_AND), (.int (8 : Int32)), (.int (0 : Int32)), (.int (0 : Int32))]) (rest := []) X79 hx hZ hown (by rw [hml]; rfl) (hv 4 rfl) (hv 5 rfl) (hv 7 rfl) (hv 6 rfl) (hb hby at_122) (by decide) (rmc2 l Z a0 hw [] s_AND (0 : Int32) (0 : Int32) h0 n0 Z0 (F15_ordinal.ext O0.2) (E_s_AND.ext O0.2) (Or.inl rfl) (Or.inl rfl)) e79 rfl rfl pd_rm0_0 rfl (Nat.le_of_eq rfl) (by decide) (by decide) rfl rfl (by decide) (by decide)
        obtain ⟨rfl, Nq81, e81q⟩ := Q81
        have N81 := Fr.app N79 Nq81
        have e81 : T81.heap = h0 := e81q
        have k81 : Go p e below m W T81 125 #[.val (.int p1), .val (.int p2), .val (.int ((p1 &&& (2147483647 : Int32)) % (5 : Int32))), .val (.ref s_AND), .val (.int (8 : Int32)), .val (.int u67_S0), .val (.int u73_S0)] [(.int (1 : Int32))] := k81
        have k82 : Go p e below m W T81 133 #[.val (.int p1), .val (.int p2), .val (.int ((p1 &&& (2147483647 : Int32)) % (5 : Int32))), .val (.ref s_AND), .val (.int (8 : Int32)), .val (.int u67_S0), .val (.int u73_S0)] [(.int (1 : Int32)), (.int (0 : Int32)), (.int (8 : Int32)), (.ref s_AND)] := ((((k81.ifNo X81 hx (hb hby at_125) (XT.i0_eq_f (by decide))).aloadN X81 hx (hb hby at_128) rfl rfl).iload X81 hx (hb hby at_129) rfl).iconst X81 hx (hb hby at_131) (v := (0 : Int32)) rfl).iconst X81 hx (hb hby at_132) (v := (1 : Int32)) rfl
        obtain ⟨T83, v83, L83, X83, Q83, k83⟩ := k82.stat (y := (⟨"com/example/paddlefish/paddlefish/OperatorApplyPinLaw", "check", "(Lcom/example/paddlefish/paddlefish/BooleanExpression$Operator;IZZ)Z"⟩ : MethodName)) (Wd := 0) (cells' := 0) (slots' := 0) (argsL := [(.ref s_AND), (.int (8 : Int32)), (.int (0 : Int32)), (.int (1 : Int32))]) (rest := []) X81 hx hZ hown (by rw [hml]; rfl) (hv 4 rfl) (hv 5 rfl) (hv 7 rfl) (hv 6 rfl) (hb hby at_133) (by decide) (rmc2 l Z a0 hw [] s_AND (0 : Int32) (1 : Int32) h0 n0 Z0 (F15_ordinal.ext O0.2) (E_s_AND.ext O0.2) (Or.inl rfl) (Or.inr rfl)) e81 rfl rfl pd_rm0_0 rfl (Nat.le_of_eq rfl) (by decide) (by decide) rfl rfl (by decide) (by decide)
        obtain ⟨rfl, Nq83, e83q⟩ := Q83
        have N83 := Fr.app N81 Nq83
        have e83 : T83.heap = h0 := e83q
        have k83 : Go p e below m W T83 136 #[.val (.int p1), .val (.int p2), .val (.int ((p1 &&& (2147483647 : Int32)) % (5 : Int32))), .val (.ref s_AND), .val (.int (8 : Int32)), .val (.int u67_S0), .val (.int u73_S0)] [(.int (1 : Int32))] := k83
        have k84 : Go p e below m W T83 144 #[.val (.int p1), .val (.int p2), .val (.int ((p1 &&& (2147483647 : Int32)) % (5 : Int32))), .val (.ref s_AND), .val (.int (8 : Int32)), .val (.int u67_S0), .val (.int u73_S0)] [(.int (0 : Int32)), (.int (1 : Int32)), (.int (8 : Int32)), (.ref s_AND)] := ((((k83.ifNo X83 hx (hb hby at_136) (XT.i0_eq_f (by decide))).aloadN X83 hx (hb hby at_139) rfl rfl).iload X83 hx (hb hby at_140) rfl).iconst X83 hx (hb hby at_142) (v := (1 : Int32)) rfl).iconst X83 hx (hb hby at_143) (v := (0 : Int32)) rfl
        obtain ⟨T85, v85, L85, X85, Q85, k85⟩ := k84.stat (y := (⟨"com/example/paddlefish/paddlefish/OperatorApplyPinLaw", "check", "(Lcom/example/paddlefish/paddlefish/BooleanExpression$Operator;IZZ)Z"⟩ : MethodName)) (Wd := 0) (cells' := 0) (slots' := 0) (argsL := [(.ref s_AND), (.int (8 : Int32)), (.int (1 : Int32)), (.int (0 : Int32))]) (rest := []) X83 hx hZ hown (by rw [hml]; rfl) (hv 4 rfl) (hv 5 rfl) (hv 7 rfl) (hv 6 rfl) (hb hby at_144) (by decide) (rmc2 l Z a0 hw [] s_AND (1 : Int32) (0 : Int32) h0 n0 Z0 (F15_ordinal.ext O0.2) (E_s_AND.ext O0.2) (Or.inr rfl) (Or.inl rfl)) e83 rfl rfl pd_rm0_0 rfl (Nat.le_of_eq rfl) (by decide) (by decide) rfl rfl (by decide) (by decide)
        obtain ⟨rfl, Nq85, e85q⟩ := Q85
        have N85 := Fr.app N83 Nq85
        have e85 : T85.heap = h0 := e85q
        have k85 : Go p e below m W T85 147 #[.val (.int p1), .val (.int p2), .val (.int ((p1 &&& (2147483647 : Int32)) % (5 : Int32))), .val (.ref s_AND), .val (.int (8 : Int32)), .val (.int u67_S0), .val (.int u73_S0)] [(.int (1 : Int32))] := k85
        have k86 : Go p e below m W T85 155 #[.val (.int p1), .val (.int p2), .val (.int ((p1 &&& (2147483647 : Int32)) % (5 : Int32))), .val (.ref s_AND), .val (.int (8 : Int32)), .val (.int u67_S0), .val (.int u73_S0)] [(.int (1 : Int32)), (.int (1 : Int32)), (.int (8 : Int32)), (.ref s_AND)] := ((((k85.ifNo X85 hx (hb hby at_147) (XT.i0_eq_f (by decide))).aloadN X85 hx (hb hby at_150) rfl rfl).iload X85 hx (hb hby at_151) rfl).iconst X85 hx (hb hby at_153) (v := (1 : Int32)) rfl).iconst X85 hx (hb hby at_154) (v := (1 : Int32)) rfl
        obtain ⟨T87, v87, L87, X87, Q87, k87⟩ := k86.stat (y := (⟨"com/example/paddlefish/paddlefish/OperatorApplyPinLaw", "check", "(Lcom/example/paddlefish/paddlefish/BooleanExpression$Operator;IZZ)Z"⟩ : MethodName)) (Wd := 0) (cells' := 0) (slots' := 0) (argsL := [(.ref s_AND), (.int (8 : Int32)), (.int (1 : Int32)), (.int (1 : Int32))]) (rest := []) X85 hx hZ hown (by rw [hml]; rfl) (hv 4 rfl) (hv 5 rfl) (hv 7 rfl) (hv 6 rfl) (hb hby at_155) (by decide) (rmc2 l Z a0 hw [] s_AND (1 : Int32) (1 : Int32) h0 n0 Z0 (F15_ordinal.ext O0.2) (E_s_AND.ext O0.2) (Or.inr rfl) (Or.inr rfl)) e85 rfl rfl pd_rm0_0 rfl (Nat.le_of_eq rfl) (by decide) (by decide) rfl rfl (by decide) (by decide)
        obtain ⟨rfl, Nq87, e87q⟩ := Q87
        have N87 := Fr.app N85 Nq87
        have e87 : T87.heap = h0 := e87q
        have k87 : Go p e below m W T87 158 #[.val (.int p1), .val (.int p2), .val (.int ((p1 &&& (2147483647 : Int32)) % (5 : Int32))), .val (.ref s_AND), .val (.int (8 : Int32)), .val (.int u67_S0), .val (.int u73_S0)] [(.int (1 : Int32))] := k87
        have k88 : Go p e below m W T87 166 #[.val (.int p1), .val (.int p2), .val (.int ((p1 &&& (2147483647 : Int32)) % (5 : Int32))), .val (.ref s_AND), .val (.int (8 : Int32)), .val (.int u67_S0), .val (.int u73_S0)] [(.int (1 : Int32))] := ((k87.ifNo X87 hx (hb hby at_158) (XT.i0_eq_f (by decide))).iconst X87 hx (hb hby at_161) (v := (1 : Int32)) rfl).goto X87 hx (hb hby at_162) (by decide) (by decide)
        exact k88.ireturnN X87 hx (t := .boolean) Bd.returns (by simp) rfl (hb hby at_166) (BodyLoose.notSynchronized Bd) (by rw [e87]; exact ⟨rfl, N87⟩) (by decide) (by decide)
      ·
        have k89 : Go p e below m W s₁ 56 #[.val (.int p1), .val (.int p2), .val (.int ((p1 &&& (2147483647 : Int32)) % (5 : Int32))), .unset, .unset, .unset, .unset] [(.int (3 : Int32)), (.int ((p1 &&& (2147483647 : Int32)) % (5 : Int32)))] := ((k60.icmpYes X0 hx (hb hby at_40) (XT.ii_ne_t hc40_61) (by decide) (by decide)).iloadN X0 hx (hb hby at_54) rfl).iconst X0 hx (hb hby at_55) (v := (3 : Int32)) rfl
        by_cases hc56_90 : ((p1 &&& (2147483647 : Int32)) % (5 : Int32)) = (3 : Int32)
        ·
          have k91 : Go p e below m W s₁ 59 #[.val (.int p1), .val (.int p2), .val (.int ((p1 &&& (2147483647 : Int32)) % (5 : Int32))), .unset, .unset, .unset, .unset] [] := k89.icmpNo X0 hx (hb hby at_56) (XT.ii_ne_f hc56_90)
          obtain ⟨T92, X92, e92, k92⟩ := k91.getS X0 hx hZ hown (host := "") (Or.inl (hv 27 rfl)) Via.refl e0 (S_s_EQUAL.ext O0.2) (hb hby at_59)
          have k92 : Go p e below m W T92 62 #[.val (.int p1), .val (.int p2), .val (.int ((p1 &&& (2147483647 : Int32)) % (5 : Int32))), .unset, .unset, .unset, .unset] [(.ref s_EQUAL)] := k92
          have k93 : Go p e below m W T92 63 #[.val (.int p1), .val (.int p2), .val (.int ((p1 &&& (2147483647 : Int32)) % (5 : Int32))), .val (.ref s_EQUAL), .unset, .unset, .unset] [] := k92.astoreN X92 hx (hb hby at_62) rfl rfl
          have k94 : Go p e below m W T92 67 #[.val (.int p1), .val (.int p2), .val (.int ((p1 &&& (2147483647 : Int32)) % (5 : Int32))), .val (.ref s_EQUAL), .val (.int (9 : Int32)), .unset, .unset] [] := (k93.bipush X92 hx (hb hby at_63) (v := (9 : Int32)) rfl).istore X92 hx (hb hby at_65) rfl
          have k95 : Go p e below m W T92 81 #[.val (.int p1), .val (.int p2), .val (.int ((p1 &&& (2147483647 : Int32)) % (5 : Int32))), .val (.ref s_EQUAL), .val (.int (9 : Int32)), .unset, .unset] [(.int (p2 &&& (1 : Int32)))] := (((k94.goto X92 hx (hb hby at_67) (by decide) (by decide)).iloadN X92 hx (hb hby at_78) rfl).iconst X92 hx (hb hby at_79) (v := (1 : Int32)) rfl).iand X92 hx (hb hby at_80)
          obtain ⟨u96_S0, hd96, k96⟩ : ∃ (u96_S0 : Int32), ((((p2 &&& (1 : Int32)) = (0 : Int32)) ∧ u96_S0 = (0 : Int32)) ∨ ((¬ ((p2 &&& (1 : Int32)) = (0 : Int32))) ∧ u96_S0 = (1 : Int32))) ∧ Go p e below m W T92 89 #[.val (.int p1), .val (.int p2), .val (.int ((p1 &&& (2147483647 : Int32)) % (5 : Int32))), .val (.ref s_EQUAL), .val (.int (9 : Int32)), .unset, .unset] [(.int u96_S0)] := by
            by_cases hc81_97 : (p2 &&& (1 : Int32)) = (0 : Int32)
            ·
              have k98 : Go p e below m W T92 89 #[.val (.int p1), .val (.int p2), .val (.int ((p1 &&& (2147483647 : Int32)) % (5 : Int32))), .val (.ref s_EQUAL), .val (.int (9 : Int32)), .unset, .unset] [(.int (0 : Int32))] := (k95.ifYes X92 hx (hb hby at_81) (XT.i0_eq_t hc81_97) (by decide) (by decide)).iconst X92 hx (hb hby at_88) (v := (0 : Int32)) rfl
              exact ⟨(0 : Int32), (Or.inl ⟨hc81_97, rfl⟩), k98⟩
            ·
              have k99 : Go p e below m W T92 89 #[.val (.int p1), .val (.int p2), .val (.int ((p1 &&& (2147483647 : Int32)) % (5 : Int32))), .val (.ref s_EQUAL), .val (.int (9 : Int32)), .unset, .unset] [(.int (1 : Int32))] := ((k95.ifNo X92 hx (hb hby at_81) (XT.i0_eq_f hc81_97)).iconst X92 hx (hb hby at_84) (v := (1 : Int32)) rfl).goto X92 hx (hb hby at_85) (by decide) (by decide)
              exact ⟨(1 : Int32), (Or.inr ⟨hc81_97, rfl⟩), k99⟩
          have k100 : Go p e below m W T92 91 #[.val (.int p1), .val (.int p2), .val (.int ((p1 &&& (2147483647 : Int32)) % (5 : Int32))), .val (.ref s_EQUAL), .val (.int (9 : Int32)), .val (.int u96_S0), .unset] [] := k96.istore X92 hx (hb hby at_89) rfl
          have k101 : Go p e below m W T92 94 #[.val (.int p1), .val (.int p2), .val (.int ((p1 &&& (2147483647 : Int32)) % (5 : Int32))), .val (.ref s_EQUAL), .val (.int (9 : Int32)), .val (.int u96_S0), .unset] [(.int (p2 &&& (2 : Int32)))] := ((k100.iloadN X92 hx (hb hby at_91) rfl).iconst X92 hx (hb hby at_92) (v := (2 : Int32)) rfl).iand X92 hx (hb hby at_93)
          obtain ⟨u102_S0, hd102, k102⟩ : ∃ (u102_S0 : Int32), ((((p2 &&& (2 : Int32)) = (0 : Int32)) ∧ u102_S0 = (0 : Int32)) ∨ ((¬ ((p2 &&& (2 : Int32)) = (0 : Int32))) ∧ u102_S0 = (1 : Int32))) ∧ Go p e below m W T92 102 #[.val (.int p1), .val (.int p2), .val (.int ((p1 &&& (2147483647 : Int32)) % (5 : Int32))), .val (.ref s_EQUAL), .val (.int (9 : Int32)), .val (.int u96_S0), .unset] [(.int u102_S0)] := by
            by_cases hc94_103 : (p2 &&& (2 : Int32)) = (0 : Int32)
            ·
              have k104 : Go p e below m W T92 102 #[.val (.int p1), .val (.int p2), .val (.int ((p1 &&& (2147483647 : Int32)) % (5 : Int32))), .val (.ref s_EQUAL), .val (.int (9 : Int32)), .val (.int u96_S0), .unset] [(.int (0 : Int32))] := (k101.ifYes X92 hx (hb hby at_94) (XT.i0_eq_t hc94_103) (by decide) (by decide)).iconst X92 hx (hb hby at_101) (v := (0 : Int32)) rfl
              exact ⟨(0 : Int32), (Or.inl ⟨hc94_103, rfl⟩), k104⟩
            ·
              have k105 : Go p e below m W T92 102 #[.val (.int p1), .val (.int p2), .val (.int ((p1 &&& (2147483647 : Int32)) % (5 : Int32))), .val (.ref s_EQUAL), .val (.int (9 : Int32)), .val (.int u96_S0), .unset] [(.int (1 : Int32))] := ((k101.ifNo X92 hx (hb hby at_94) (XT.i0_eq_f hc94_103)).iconst X92 hx (hb hby at_97) (v := (1 : Int32)) rfl).goto X92 hx (hb hby at_98) (by decide) (by decide)
              exact ⟨(1 : Int32), (Or.inr ⟨hc94_103, rfl⟩), k105⟩
          have k106 : Go p e below m W T92 104 #[.val (.int p1), .val (.int p2), .val (.int ((p1 &&& (2147483647 : Int32)) % (5 : Int32))), .val (.ref s_EQUAL), .val (.int (9 : Int32)), .val (.int u96_S0), .val (.int u102_S0)] [] := k102.istore X92 hx (hb hby at_102) rfl
          have k107 : Go p e below m W T92 111 #[.val (.int p1), .val (.int p2), .val (.int ((p1 &&& (2147483647 : Int32)) % (5 : Int32))), .val (.ref s_EQUAL), .val (.int (9 : Int32)), .val (.int u96_S0), .val (.int u102_S0)] [(.int u102_S0), (.int u96_S0), (.int (9 : Int32)), (.ref s_EQUAL)] := (((k106.aloadN X92 hx (hb hby at_104) rfl rfl).iload X92 hx (hb hby at_105) rfl).iload X92 hx (hb hby at_107) rfl).iload X92 hx (hb hby at_109) rfl
          obtain ⟨T108, v108, L108, X108, Q108, k108⟩ := k107.stat (y := (⟨"com/example/paddlefish/paddlefish/OperatorApplyPinLaw", "check", "(Lcom/example/paddlefish/paddlefish/BooleanExpression$Operator;IZZ)Z"⟩ : MethodName)) (Wd := 0) (cells' := 0) (slots' := 0) (argsL := [(.ref s_EQUAL), (.int (9 : Int32)), (.int u96_S0), (.int u102_S0)]) (rest := []) X92 hx hZ hown (by rw [hml]; rfl) (hv 4 rfl) (hv 5 rfl) (hv 7 rfl) (hv 6 rfl) (hb hby at_111) (by decide) (rmc3 l Z a0 hw [] s_EQUAL u96_S0 u102_S0 h0 n0 Z0 (F9_ordinal.ext O0.2) (E_s_EQUAL.ext O0.2) (by rcases hd96 with ⟨_, q⟩ | ⟨_, q⟩ <;> first | exact Or.inl q | exact Or.inr q) (by rcases hd102 with ⟨_, q⟩ | ⟨_, q⟩ <;> first | exact Or.inl q | exact Or.inr q)) e92 rfl rfl pd_rm0_0 rfl (Nat.le_of_eq rfl) (by decide) (by decide) rfl rfl (by decide) (by decide)
          obtain ⟨rfl, Nq108, e108q⟩ := Q108
          have N108 := Fr.app N0 Nq108
          have e108 : T108.heap = h0 := e108q
          have k108 : Go p e below m W T108 114 #[.val (.int p1), .val (.int p2), .val (.int ((p1 &&& (2147483647 : Int32)) % (5 : Int32))), .val (.ref s_EQUAL), .val (.int (9 : Int32)), .val (.int u96_S0), .val (.int u102_S0)] [(.int (1 : Int32))] := k108
          have k109 : Go p e below m W T108 122 #[.val (.int p1), .val (.int p2), .val (.int ((p1 &&& (2147483647 : Int32)) % (5 : Int32))), .val (.ref s_EQUAL), .val (.int (9 : Int32)), .val (.int u96_S0), .val (.int u102_S0)] [(.int (0 : Int32)), (.int (0 : Int32)), (.int (9 : Int32)), (.ref s_EQUAL)] := ((((k108.ifNo X108 hx (hb hby at_114) (XT.i0_eq_f (by decide))).aloadN X108 hx (hb hby at_117) rfl rfl).iload X108 hx (hb hby at_118) rfl).iconst X108 hx (hb hby at_120) (v := (0 : Int32)) rfl).iconst X108 hx (hb hby at_121) (v := (0 : Int32)) rfl
          obtain ⟨T110, v110, L110, X110, Q110, k110⟩ := k109.stat (y := (⟨"com/example/paddlefish/paddlefish/OperatorApplyPinLaw", "check", "(Lcom/example/paddlefish/paddlefish/BooleanExpression$Operator;IZZ)Z"⟩ : MethodName)) (Wd := 0) (cells' := 0) (slots' := 0) (argsL := [(.ref s_EQUAL), (.int (9 : Int32)), (.int (0 : Int32)), (.int (0 : Int32))]) (rest := []) X108 hx hZ hown (by rw [hml]; rfl) (hv 4 rfl) (hv 5 rfl) (hv 7 rfl) (hv 6 rfl) (hb hby at_122) (by decide) (rmc3 l Z a0 hw [] s_EQUAL (0 : Int32) (0 : Int32) h0 n0 Z0 (F9_ordinal.ext O0.2) (E_s_EQUAL.ext O0.2) (Or.inl rfl) (Or.inl rfl)) e108 rfl rfl pd_rm0_0 rfl (Nat.le_of_eq rfl) (by decide) (by decide) rfl rfl (by decide) (by decide)
          obtain ⟨rfl, Nq110, e110q⟩ := Q110
          have N110 := Fr.app N108 Nq110
          have e110 : T110.heap = h0 := e110q
          have k110 : Go p e below m W T110 125 #[.val (.int p1), .val (.int p2), .val (.int ((p1 &&& (2147483647 : Int32)) % (5 : Int32))), .val (.ref s_EQUAL), .val (.int (9 : Int32)), .val (.int u96_S0), .val (.int u102_S0)] [(.int (1 : Int32))] := k110
          have k111 : Go p e below m W T110 133 #[.val (.int p1), .val (.int p2), .val (.int ((p1 &&& (2147483647 : Int32)) % (5 : Int32))), .val (.ref s_EQUAL), .val (.int (9 : Int32)), .val (.int u96_S0), .val (.int u102_S0)] [(.int (1 : Int32)), (.int (0 : Int32)), (.int (9 : Int32)), (.ref s_EQUAL)] := ((((k110.ifNo X110 hx (hb hby at_125) (XT.i0_eq_f (by decide))).aloadN X110 hx (hb hby at_128) rfl rfl).iload X110 hx (hb hby at_129) rfl).iconst X110 hx (hb hby at_131) (v := (0 : Int32)) rfl).iconst X110 hx (hb hby at_132) (v := (1 : Int32)) rfl
          obtain ⟨T112, v112, L112, X112, Q112, k112⟩ := k111.stat (y := (⟨"com/example/paddlefish/paddlefish/OperatorApplyPinLaw", "check", "(Lcom/example/paddlefish/paddlefish/BooleanExpression$Operator;IZZ)Z"⟩ : MethodName)) (Wd := 0) (cells' := 0) (slots' := 0) (argsL := [(.ref s_EQUAL), (.int (9 : Int32)), (.int (0 : Int32)), (.int (1 : Int32))]) (rest := []) X110 hx hZ hown (by rw [hml]; rfl) (hv 4 rfl) (hv 5 rfl) (hv 7 rfl) (hv 6 rfl) (hb hby at_133) (by decide) (rmc3 l Z a0 hw [] s_EQUAL (0 : Int32) (1 : Int32) h0 n0 Z0 (F9_ordinal.ext O0.2) (E_s_EQUAL.ext O0.2) (Or.inl rfl) (Or.inr rfl)) e110 rfl rfl pd_rm0_0 rfl (Nat.le_of_eq rfl) (by decide) (by decide) rfl rfl (by decide) (by decide)
          obtain ⟨rfl, Nq112, e112q⟩ := Q112
          have N112 := Fr.app N110 Nq112
          have e112 : T112.heap = h0 := e112q
          have k112 : Go p e below m W T112 136 #[.val (.int p1), .val (.int p2), .val (.int ((p1 &&& (2147483647 : Int32)) % (5 : Int32))), .val (.ref s_EQUAL), .val (.int (9 : Int32)), .val (.int u96_S0), .val (.int u102_S0)] [(.int (1 : Int32))] := k112
          have k113 : Go p e below m W T112 144 #[.val (.int p1), .val (.int p2), .val (.int ((p1 &&& (2147483647 : Int32)) % (5 : Int32))), .val (.ref s_EQUAL), .val (.int (9 : Int32)), .val (.int u96_S0), .val (.int u102_S0)] [(.int (0 : Int32)), (.int (1 : Int32)), (.int (9 : Int32)), (.ref s_EQUAL)] := ((((k112.ifNo X112 hx (hb hby at_136) (XT.i0_eq_f (by decide))).aloadN X112 hx (hb hby at_139) rfl rfl).iload X112 hx (hb hby at_140) rfl).iconst X112 hx (hb hby at_142) (v := (1 : Int32)) rfl).iconst X112 hx (hb hby at_143) (v := (0 : Int32)) rfl
          obtain ⟨T114, v114, L114, X114, Q114, k114⟩ := k113.stat (y := (⟨"com/example/paddlefish/paddlefish/OperatorApplyPinLaw", "check", "(Lcom/example/paddlefish/paddlefish/BooleanExpression$Operator;IZZ)Z"⟩ : MethodName)) (Wd := 0) (cells' := 0) (slots' := 0) (argsL := [(.ref s_EQUAL), (.int (9 : Int32)), (.int (1 : Int32)), (.int (0 : Int32))]) (rest := []) X112 hx hZ hown (by rw [hml]; rfl) (hv 4 rfl) (hv 5 rfl) (hv 7 rfl) (hv 6 rfl) (hb hby at_144) (by decide) (rmc3 l Z a0 hw [] s_EQUAL (1 : Int32) (0 : Int32) h0 n0 Z0 (F9_ordinal.ext O0.2) (E_s_EQUAL.ext O0.2) (Or.inr rfl) (Or.inl rfl)) e112 rfl rfl pd_rm0_0 rfl (Nat.le_of_eq rfl) (by decide) (by decide) rfl rfl (by decide) (by decide)
          obtain ⟨rfl, Nq114, e114q⟩ := Q114
          have N114 := Fr.app N112 Nq114
          have e114 : T114.heap = h0 := e114q
          have k114 : Go p e below m W T114 147 #[.val (.int p1), .val (.int p2), .val (.int ((p1 &&& (2147483647 : Int32)) % (5 : Int32))), .val (.ref s_EQUAL), .val (.int (9 : Int32)), .val (.int u96_S0), .val (.int u102_S0)] [(.int (1 : Int32))] := k114
          have k115 : Go p e below m W T114 155 #[.val (.int p1), .val (.int p2), .val (.int ((p1 &&& (2147483647 : Int32)) % (5 : Int32))), .val (.ref s_EQUAL), .val (.int (9 : Int32)), .val (.int u96_S0), .val (.int u102_S0)] [(.int (1 : Int32)), (.int (1 : Int32)), (.int (9 : Int32)), (.ref s_EQUAL)] := ((((k114.ifNo X114 hx (hb hby at_147) (XT.i0_eq_f (by decide))).aloadN X114 hx (hb hby at_150) rfl rfl).iload X114 hx (hb hby at_151) rfl).iconst X114 hx (hb hby at_153) (v := (1 : Int32)) rfl).iconst X114 hx (hb hby at_154) (v := (1 : Int32)) rfl
          obtain ⟨T116, v116, L116, X116, Q116, k116⟩ := k115.stat (y := (⟨"com/example/paddlefish/paddlefish/OperatorApplyPinLaw", "check", "(Lcom/example/paddlefish/paddlefish/BooleanExpression$Operator;IZZ)Z"⟩ : MethodName)) (Wd := 0) (cells' := 0) (slots' := 0) (argsL := [(.ref s_EQUAL), (.int (9 : Int32)), (.int (1 : Int32)), (.int (1 : Int32))]) (rest := []) X114 hx hZ hown (by rw [hml]; rfl) (hv 4 rfl) (hv 5 rfl) (hv 7 rfl) (hv 6 rfl) (hb hby at_155) (by decide) (rmc3 l Z a0 hw [] s_EQUAL (1 : Int32) (1 : Int32) h0 n0 Z0 (F9_ordinal.ext O0.2) (E_s_EQUAL.ext O0.2) (Or.inr rfl) (Or.inr rfl)) e114 rfl rfl pd_rm0_0 rfl (Nat.le_of_eq rfl) (by decide) (by decide) rfl rfl (by decide) (by decide)
          obtain ⟨rfl, Nq116, e116q⟩ := Q116
          have N116 := Fr.app N114 Nq116
          have e116 : T116.heap = h0 := e116q
          have k116 : Go p e below m W T116 158 #[.val (.int p1), .val (.int p2), .val (.int ((p1 &&& (2147483647 : Int32)) % (5 : Int32))), .val (.ref s_EQUAL), .val (.int (9 : Int32)), .val (.int u96_S0), .val (.int u102_S0)] [(.int (1 : Int32))] := k116
          have k117 : Go p e below m W T116 166 #[.val (.int p1), .val (.int p2), .val (.int ((p1 &&& (2147483647 : Int32)) % (5 : Int32))), .val (.ref s_EQUAL), .val (.int (9 : Int32)), .val (.int u96_S0), .val (.int u102_S0)] [(.int (1 : Int32))] := ((k116.ifNo X116 hx (hb hby at_158) (XT.i0_eq_f (by decide))).iconst X116 hx (hb hby at_161) (v := (1 : Int32)) rfl).goto X116 hx (hb hby at_162) (by decide) (by decide)
          exact k117.ireturnN X116 hx (t := .boolean) Bd.returns (by simp) rfl (hb hby at_166) (BodyLoose.notSynchronized Bd) (by rw [e116]; exact ⟨rfl, N116⟩) (by decide) (by decide)
        ·
          have k118 : Go p e below m W s₁ 70 #[.val (.int p1), .val (.int p2), .val (.int ((p1 &&& (2147483647 : Int32)) % (5 : Int32))), .unset, .unset, .unset, .unset] [] := k89.icmpYes X0 hx (hb hby at_56) (XT.ii_ne_t hc56_90) (by decide) (by decide)
          obtain ⟨T119, X119, e119, k119⟩ := k118.getS X0 hx hZ hown (host := "") (Or.inl (hv 25 rfl)) Via.refl e0 (S_s_NOT_EQUAL.ext O0.2) (hb hby at_70)
          have k119 : Go p e below m W T119 73 #[.val (.int p1), .val (.int p2), .val (.int ((p1 &&& (2147483647 : Int32)) % (5 : Int32))), .unset, .unset, .unset, .unset] [(.ref s_NOT_EQUAL)] := k119
          have k120 : Go p e below m W T119 74 #[.val (.int p1), .val (.int p2), .val (.int ((p1 &&& (2147483647 : Int32)) % (5 : Int32))), .val (.ref s_NOT_EQUAL), .unset, .unset, .unset] [] := k119.astoreN X119 hx (hb hby at_73) rfl rfl
          have k121 : Go p e below m W T119 78 #[.val (.int p1), .val (.int p2), .val (.int ((p1 &&& (2147483647 : Int32)) % (5 : Int32))), .val (.ref s_NOT_EQUAL), .val (.int (6 : Int32)), .unset, .unset] [] := (k120.bipush X119 hx (hb hby at_74) (v := (6 : Int32)) rfl).istore X119 hx (hb hby at_76) rfl
          have k122 : Go p e below m W T119 81 #[.val (.int p1), .val (.int p2), .val (.int ((p1 &&& (2147483647 : Int32)) % (5 : Int32))), .val (.ref s_NOT_EQUAL), .val (.int (6 : Int32)), .unset, .unset] [(.int (p2 &&& (1 : Int32)))] := ((k121.iloadN X119 hx (hb hby at_78) rfl).iconst X119 hx (hb hby at_79) (v := (1 : Int32)) rfl).iand X119 hx (hb hby at_80)
          obtain ⟨u123_S0, hd123, k123⟩ : ∃ (u123_S0 : Int32), ((((p2 &&& (1 : Int32)) = (0 : Int32)) ∧ u123_S0 = (0 : Int32)) ∨ ((¬ ((p2 &&& (1 : Int32)) = (0 : Int32))) ∧ u123_S0 = (1 : Int32))) ∧ Go p e below m W T119 89 #[.val (.int p1), .val (.int p2), .val (.int ((p1 &&& (2147483647 : Int32)) % (5 : Int32))), .val (.ref s_NOT_EQUAL), .val (.int (6 : Int32)), .unset, .unset] [(.int u123_S0)] := by
            by_cases hc81_124 : (p2 &&& (1 : Int32)) = (0 : Int32)
            ·
              have k125 : Go p e below m W T119 89 #[.val (.int p1), .val (.int p2), .val (.int ((p1 &&& (2147483647 : Int32)) % (5 : Int32))), .val (.ref s_NOT_EQUAL), .val (.int (6 : Int32)), .unset, .unset] [(.int (0 : Int32))] := (k122.ifYes X119 hx (hb hby at_81) (XT.i0_eq_t hc81_124) (by decide) (by decide)).iconst X119 hx (hb hby at_88) (v := (0 : Int32)) rfl
              exact ⟨(0 : Int32), (Or.inl ⟨hc81_124, rfl⟩), k125⟩
            ·
              have k126 : Go p e below m W T119 89 #[.val (.int p1), .val (.int p2), .val (.int ((p1 &&& (2147483647 : Int32)) % (5 : Int32))), .val (.ref s_NOT_EQUAL), .val (.int (6 : Int32)), .unset, .unset] [(.int (1 : Int32))] := ((k122.ifNo X119 hx (hb hby at_81) (XT.i0_eq_f hc81_124)).iconst X119 hx (hb hby at_84) (v := (1 : Int32)) rfl).goto X119 hx (hb hby at_85) (by decide) (by decide)
              exact ⟨(1 : Int32), (Or.inr ⟨hc81_124, rfl⟩), k126⟩
          have k127 : Go p e below m W T119 91 #[.val (.int p1), .val (.int p2), .val (.int ((p1 &&& (2147483647 : Int32)) % (5 : Int32))), .val (.ref s_NOT_EQUAL), .val (.int (6 : Int32)), .val (.int u123_S0), .unset] [] := k123.istore X119 hx (hb hby at_89) rfl
          have k128 : Go p e below m W T119 94 #[.val (.int p1), .val (.int p2), .val (.int ((p1 &&& (2147483647 : Int32)) % (5 : Int32))), .val (.ref s_NOT_EQUAL), .val (.int (6 : Int32)), .val (.int u123_S0), .unset] [(.int (p2 &&& (2 : Int32)))] := ((k127.iloadN X119 hx (hb hby at_91) rfl).iconst X119 hx (hb hby at_92) (v := (2 : Int32)) rfl).iand X119 hx (hb hby at_93)
          obtain ⟨u129_S0, hd129, k129⟩ : ∃ (u129_S0 : Int32), ((((p2 &&& (2 : Int32)) = (0 : Int32)) ∧ u129_S0 = (0 : Int32)) ∨ ((¬ ((p2 &&& (2 : Int32)) = (0 : Int32))) ∧ u129_S0 = (1 : Int32))) ∧ Go p e below m W T119 102 #[.val (.int p1), .val (.int p2), .val (.int ((p1 &&& (2147483647 : Int32)) % (5 : Int32))), .val (.ref s_NOT_EQUAL), .val (.int (6 : Int32)), .val (.int u123_S0), .unset] [(.int u129_S0)] := by
            by_cases hc94_130 : (p2 &&& (2 : Int32)) = (0 : Int32)
            ·
              have k131 : Go p e below m W T119 102 #[.val (.int p1), .val (.int p2), .val (.int ((p1 &&& (2147483647 : Int32)) % (5 : Int32))), .val (.ref s_NOT_EQUAL), .val (.int (6 : Int32)), .val (.int u123_S0), .unset] [(.int (0 : Int32))] := (k128.ifYes X119 hx (hb hby at_94) (XT.i0_eq_t hc94_130) (by decide) (by decide)).iconst X119 hx (hb hby at_101) (v := (0 : Int32)) rfl
              exact ⟨(0 : Int32), (Or.inl ⟨hc94_130, rfl⟩), k131⟩
            ·
              have k132 : Go p e below m W T119 102 #[.val (.int p1), .val (.int p2), .val (.int ((p1 &&& (2147483647 : Int32)) % (5 : Int32))), .val (.ref s_NOT_EQUAL), .val (.int (6 : Int32)), .val (.int u123_S0), .unset] [(.int (1 : Int32))] := ((k128.ifNo X119 hx (hb hby at_94) (XT.i0_eq_f hc94_130)).iconst X119 hx (hb hby at_97) (v := (1 : Int32)) rfl).goto X119 hx (hb hby at_98) (by decide) (by decide)
              exact ⟨(1 : Int32), (Or.inr ⟨hc94_130, rfl⟩), k132⟩
          have k133 : Go p e below m W T119 104 #[.val (.int p1), .val (.int p2), .val (.int ((p1 &&& (2147483647 : Int32)) % (5 : Int32))), .val (.ref s_NOT_EQUAL), .val (.int (6 : Int32)), .val (.int u123_S0), .val (.int u129_S0)] [] := k129.istore X119 hx (hb hby at_102) rfl
          have k134 : Go p e below m W T119 111 #[.val (.int p1), .val (.int p2), .val (.int ((p1 &&& (2147483647 : Int32)) % (5 : Int32))), .val (.ref s_NOT_EQUAL), .val (.int (6 : Int32)), .val (.int u123_S0), .val (.int u129_S0)] [(.int u129_S0), (.int u123_S0), (.int (6 : Int32)), (.ref s_NOT_EQUAL)] := (((k133.aloadN X119 hx (hb hby at_104) rfl rfl).iload X119 hx (hb hby at_105) rfl).iload X119 hx (hb hby at_107) rfl).iload X119 hx (hb hby at_109) rfl
          obtain ⟨T135, v135, L135, X135, Q135, k135⟩ := k134.stat (y := (⟨"com/example/paddlefish/paddlefish/OperatorApplyPinLaw", "check", "(Lcom/example/paddlefish/paddlefish/BooleanExpression$Operator;IZZ)Z"⟩ : MethodName)) (Wd := 0) (cells' := 0) (slots' := 0) (argsL := [(.ref s_NOT_EQUAL), (.int (6 : Int32)), (.int u123_S0), (.int u129_S0)]) (rest := []) X119 hx hZ hown (by rw [hml]; rfl) (hv 4 rfl) (hv 5 rfl) (hv 7 rfl) (hv 6 rfl) (hb hby at_111) (by decide) (rmc4 l Z a0 hw [] s_NOT_EQUAL u123_S0 u129_S0 h0 n0 Z0 (F6_ordinal.ext O0.2) (E_s_NOT_EQUAL.ext O0.2) (by rcases hd123 with ⟨_, q⟩ | ⟨_, q⟩ <;> first | exact Or.inl q | exact Or.inr q) (by rcases hd129 with ⟨_, q⟩ | ⟨_, q⟩ <;> first | exact Or.inl q | exact Or.inr q)) e119 rfl rfl pd_rm0_0 rfl (Nat.le_of_eq rfl) (by decide) (by decide) rfl rfl (by decide) (by decide)
          obtain ⟨rfl, Nq135, e135q⟩ := Q135
          have N135 := Fr.app N0 Nq135
          have e135 : T135.heap = h0 := e135q
          have k135 : Go p e below m W T135 114 #[.val (.int p1), .val (.int p2), .val (.int ((p1 &&& (2147483647 : Int32)) % (5 : Int32))), .val (.ref s_NOT_EQUAL), .val (.int (6 : Int32)), .val (.int u123_S0), .val (.int u129_S0)] [(.int (1 : Int32))] := k135
          have k136 : Go p e below m W T135 122 #[.val (.int p1), .val (.int p2), .val (.int ((p1 &&& (2147483647 : Int32)) % (5 : Int32))), .val (.ref s_NOT_EQUAL), .val (.int (6 : Int32)), .val (.int u123_S0), .val (.int u129_S0)] [(.int (0 : Int32)), (.int (0 : Int32)), (.int (6 : Int32)), (.ref s_NOT_EQUAL)] := ((((k135.ifNo X135 hx (hb hby at_114) (XT.i0_eq_f (by decide))).aloadN X135 hx (hb hby at_117) rfl rfl).iload X135 hx (hb hby at_118) rfl).iconst X135 hx (hb hby at_120) (v := (0 : Int32)) rfl).iconst X135 hx (hb hby at_121) (v := (0 : Int32)) rfl
          obtain ⟨T137, v137, L137, X137, Q137, k137⟩ := k136.stat (y := (⟨"com/example/paddlefish/paddlefish/OperatorApplyPinLaw", "check", "(Lcom/example/paddlefish/paddlefish/BooleanExpression$Operator;IZZ)Z"⟩ : MethodName)) (Wd := 0) (cells' := 0) (slots' := 0) (argsL := [(.ref s_NOT_EQUAL), (.int (6 : Int32)), (.int (0 : Int32)), (.int (0 : Int32))]) (rest := []) X135 hx hZ hown (by rw [hml]; rfl) (hv 4 rfl) (hv 5 rfl) (hv 7 rfl) (hv 6 rfl) (hb hby at_122) (by decide) (rmc4 l Z a0 hw [] s_NOT_EQUAL (0 : Int32) (0 : Int32) h0 n0 Z0 (F6_ordinal.ext O0.2) (E_s_NOT_EQUAL.ext O0.2) (Or.inl rfl) (Or.inl rfl)) e135 rfl rfl pd_rm0_0 rfl (Nat.le_of_eq rfl) (by decide) (by decide) rfl rfl (by decide) (by decide)
          obtain ⟨rfl, Nq137, e137q⟩ := Q137
          have N137 := Fr.app N135 Nq137
          have e137 : T137.heap = h0 := e137q
          have k137 : Go p e below m W T137 125 #[.val (.int p1), .val (.int p2), .val (.int ((p1 &&& (2147483647 : Int32)) % (5 : Int32))), .val (.ref s_NOT_EQUAL), .val (.int (6 : Int32)), .val (.int u123_S0), .val (.int u129_S0)] [(.int (1 : Int32))] := k137
          have k138 : Go p e below m W T137 133 #[.val (.int p1), .val (.int p2), .val (.int ((p1 &&& (2147483647 : Int32)) % (5 : Int32))), .val (.ref s_NOT_EQUAL), .val (.int (6 : Int32)), .val (.int u123_S0), .val (.int u129_S0)] [(.int (1 : Int32)), (.int (0 : Int32)), (.int (6 : Int32)), (.ref s_NOT_EQUAL)] := ((((k137.ifNo X137 hx (hb hby at_125) (XT.i0_eq_f (by decide))).aloadN X137 hx (hb hby at_128) rfl rfl).iload X137 hx (hb hby at_129) rfl).iconst X137 hx (hb hby at_131) (v := (0 : Int32)) rfl).iconst X137 hx (hb hby at_132) (v := (1 : Int32)) rfl
          obtain ⟨T139, v139, L139, X139, Q139, k139⟩ := k138.stat (y := (⟨"com/example/paddlefish/paddlefish/OperatorApplyPinLaw", "check", "(Lcom/example/paddlefish/paddlefish/BooleanExpression$Operator;IZZ)Z"⟩ : MethodName)) (Wd := 0) (cells' := 0) (slots' := 0) (argsL := [(.ref s_NOT_EQUAL), (.int (6 : Int32)), (.int (0 : Int32)), (.int (1 : Int32))]) (rest := []) X137 hx hZ hown (by rw [hml]; rfl) (hv 4 rfl) (hv 5 rfl) (hv 7 rfl) (hv 6 rfl) (hb hby at_133) (by decide) (rmc4 l Z a0 hw [] s_NOT_EQUAL (0 : Int32) (1 : Int32) h0 n0 Z0 (F6_ordinal.ext O0.2) (E_s_NOT_EQUAL.ext O0.2) (Or.inl rfl) (Or.inr rfl)) e137 rfl rfl pd_rm0_0 rfl (Nat.le_of_eq rfl) (by decide) (by decide) rfl rfl (by decide) (by decide)
          obtain ⟨rfl, Nq139, e139q⟩ := Q139
          have N139 := Fr.app N137 Nq139
          have e139 : T139.heap = h0 := e139q
          have k139 : Go p e below m W T139 136 #[.val (.int p1), .val (.int p2), .val (.int ((p1 &&& (2147483647 : Int32)) % (5 : Int32))), .val (.ref s_NOT_EQUAL), .val (.int (6 : Int32)), .val (.int u123_S0), .val (.int u129_S0)] [(.int (1 : Int32))] := k139
          have k140 : Go p e below m W T139 144 #[.val (.int p1), .val (.int p2), .val (.int ((p1 &&& (2147483647 : Int32)) % (5 : Int32))), .val (.ref s_NOT_EQUAL), .val (.int (6 : Int32)), .val (.int u123_S0), .val (.int u129_S0)] [(.int (0 : Int32)), (.int (1 : Int32)), (.int (6 : Int32)), (.ref s_NOT_EQUAL)] := ((((k139.ifNo X139 hx (hb hby at_136) (XT.i0_eq_f (by decide))).aloadN X139 hx (hb hby at_139) rfl rfl).iload X139 hx (hb hby at_140) rfl).iconst X139 hx (hb hby at_142) (v := (1 : Int32)) rfl).iconst X139 hx (hb hby at_143) (v := (0 : Int32)) rfl
          obtain ⟨T141, v141, L141, X141, Q141, k141⟩ := k140.stat (y := (⟨"com/example/paddlefish/paddlefish/OperatorApplyPinLaw", "check", "(Lcom/example/paddlefish/paddlefish/BooleanExpression$Operator;IZZ)Z"⟩ : MethodName)) (Wd := 0) (cells' := 0) (slots' := 0) (argsL := [(.ref s_NOT_EQUAL), (.int (6 : Int32)), (.int (1 : Int32)), (.int (0 : Int32))]) (rest := []) X139 hx hZ hown (by rw [hml]; rfl) (hv 4 rfl) (hv 5 rfl) (hv 7 rfl) (hv 6 rfl) (hb hby at_144) (by decide) (rmc4 l Z a0 hw [] s_NOT_EQUAL (1 : Int32) (0 : Int32) h0 n0 Z0 (F6_ordinal.ext O0.2) (E_s_NOT_EQUAL.ext O0.2) (Or.inr rfl) (Or.inl rfl)) e139 rfl rfl pd_rm0_0 rfl (Nat.le_of_eq rfl) (by decide) (by decide) rfl rfl (by decide) (by decide)
          obtain ⟨rfl, Nq141, e141q⟩ := Q141
          have N141 := Fr.app N139 Nq141
          have e141 : T141.heap = h0 := e141q
          have k141 : Go p e below m W T141 147 #[.val (.int p1), .val (.int p2), .val (.int ((p1 &&& (2147483647 : Int32)) % (5 : Int32))), .val (.ref s_NOT_EQUAL), .val (.int (6 : Int32)), .val (.int u123_S0), .val (.int u129_S0)] [(.int (1 : Int32))] := k141
          have k142 : Go p e below m W T141 155 #[.val (.int p1), .val (.int p2), .val (.int ((p1 &&& (2147483647 : Int32)) % (5 : Int32))), .val (.ref s_NOT_EQUAL), .val (.int (6 : Int32)), .val (.int u123_S0), .val (.int u129_S0)] [(.int (1 : Int32)), (.int (1 : Int32)), (.int (6 : Int32)), (.ref s_NOT_EQUAL)] := ((((k141.ifNo X141 hx (hb hby at_147) (XT.i0_eq_f (by decide))).aloadN X141 hx (hb hby at_150) rfl rfl).iload X141 hx (hb hby at_151) rfl).iconst X141 hx (hb hby at_153) (v := (1 : Int32)) rfl).iconst X141 hx (hb hby at_154) (v := (1 : Int32)) rfl
          obtain ⟨T143, v143, L143, X143, Q143, k143⟩ := k142.stat (y := (⟨"com/example/paddlefish/paddlefish/OperatorApplyPinLaw", "check", "(Lcom/example/paddlefish/paddlefish/BooleanExpression$Operator;IZZ)Z"⟩ : MethodName)) (Wd := 0) (cells' := 0) (slots' := 0) (argsL := [(.ref s_NOT_EQUAL), (.int (6 : Int32)), (.int (1 : Int32)), (.int (1 : Int32))]) (rest := []) X141 hx hZ hown (by rw [hml]; rfl) (hv 4 rfl) (hv 5 rfl) (hv 7 rfl) (hv 6 rfl) (hb hby at_155) (by decide) (rmc4 l Z a0 hw [] s_NOT_EQUAL (1 : Int32) (1 : Int32) h0 n0 Z0 (F6_ordinal.ext O0.2) (E_s_NOT_EQUAL.ext O0.2) (Or.inr rfl) (Or.inr rfl)) e141 rfl rfl pd_rm0_0 rfl (Nat.le_of_eq rfl) (by decide) (by decide) rfl rfl (by decide) (by decide)
          obtain ⟨rfl, Nq143, e143q⟩ := Q143
          have N143 := Fr.app N141 Nq143
          have e143 : T143.heap = h0 := e143q
          have k143 : Go p e below m W T143 158 #[.val (.int p1), .val (.int p2), .val (.int ((p1 &&& (2147483647 : Int32)) % (5 : Int32))), .val (.ref s_NOT_EQUAL), .val (.int (6 : Int32)), .val (.int u123_S0), .val (.int u129_S0)] [(.int (1 : Int32))] := k143
          have k144 : Go p e below m W T143 166 #[.val (.int p1), .val (.int p2), .val (.int ((p1 &&& (2147483647 : Int32)) % (5 : Int32))), .val (.ref s_NOT_EQUAL), .val (.int (6 : Int32)), .val (.int u123_S0), .val (.int u129_S0)] [(.int (1 : Int32))] := ((k143.ifNo X143 hx (hb hby at_158) (XT.i0_eq_f (by decide))).iconst X143 hx (hb hby at_161) (v := (1 : Int32)) rfl).goto X143 hx (hb hby at_162) (by decide) (by decide)
          exact k144.ireturnN X143 hx (t := .boolean) Bd.returns (by simp) rfl (hb hby at_166) (BodyLoose.notSynchronized Bd) (by rw [e143]; exact ⟨rfl, N143⟩) (by decide) (by decide)

set_option maxRecDepth 65536 in
set_option maxHeartbeats 40000000 in
theorem comes_1 {Post : Tables → Env → Array Value → State → Outcome → State → Prop} (hpost : ∀ tb e args s v u, (limb_1_1.after args s (.returned v) u = true ∧ limb_1_2.after args s (.returned v) u = true ∧ True) → FrameEnd s (.returned v) u (Jvm.fieldLocs frame_1_writes args s ++ Jvm.arrayLocs frame_1_arrays args s ++ Jvm.staticLocs frame_1_statics s) 0 0 → Post tb e args s (.returned v) u) :
    ArmFor flags0 classFile x code maxLocals ret World_1 tables_1 room_1 Calls_1 rest_1 Pre_1 Post := by
  intro l hfl _ _ p e ha hc hk s m args below hf hA hF happ hP
  obtain ⟨hcalls, hrest, hpre⟩ := hP
  obtain ⟨-, -, -, hnamed, -, -, -, hat⟩ := (Spec.applies_iff hf).mp happ
  obtain ⟨hg, hn⟩ := and_e (Cond.before_iff.mp (show (Jvm.Cond.and given_1 narrow_1).before args s = true from hpre))
  obtain ⟨ga, gb⟩ := and_e hg
  obtain ⟨w0, w1, rfl⟩ : ∃ w0 w1 : Value, args = #[w0, w1] := by
    have hs : args.size = 2 := by simpa [Cond.value, given_1] using ga
    obtain ⟨L⟩ := args
    match L, hs with
    | [w0, w1], _ => exact ⟨w0, w1, rfl⟩
  have hw := fun d (hd : d ∈ tables_1) => atoms_spec (ws := Jvm.Cond.code x code maxLocals ret :: tables_1) hat d (List.mem_cons_of_mem _ hd)
  have hv : ∀ (i : Nat) {d : Jvm.Cond}, tables_1[i]? = some d → d.before _ s = true := fun i d q => hw d (List.mem_of_getElem? q)
  have hfit : Fit s := fun {y c} hc i hi => by
    obtain ⟨ha, rfl⟩ := Array.getElem?_eq_some_iff.mp hc
    have q := List.all_eq_true.mp ((Array.all_eq_true_iff_forall_mem.mp hF) _ (Array.getElem_mem ha)) i (List.mem_range.mpr hi)
    simpa [Array.getElem?_eq_getElem hi] using q
  obtain ⟨gi0, gr0⟩ := and_e gb
  obtain ⟨i0, ei0⟩ := is_v gi0
  obtain rfl : w0 = (.int i0) := Option.some.inj ei0
  obtain ⟨i1, ei1⟩ := is_v gr0
  obtain rfl : w1 = (.int i1) := Option.some.inj ei1
  have O0 : Old s s.heap.size s.heap := Old.start s
  obtain ⟨nc0, nr0⟩ := and_e hn
  obtain ⟨s_OR, ev_s_OR⟩ := exa_v nc0
  have S_s_OR : Sta s s.heap "com/example/paddlefish/paddlefish/BooleanExpression$Operator" "OR" "Lcom/example/paddlefish/paddlefish/BooleanExpression$Operator;" (.ref s_OR) := Sta.start ev_s_OR (Or.inr ⟨(hv 2 rfl), (hv 3 rfl)⟩)
  have E_s_OR : Exa s s.heap s_OR "com/example/paddlefish/paddlefish/BooleanExpression$Operator" := Exa.start ev_s_OR nc0
  obtain ⟨nc1, nr1⟩ := and_e nr0
  have F3_ordinal : Fld s s.heap s_OR "java/lang/Enum" "ordinal" "I" (.int (0 : Int32)) := Fld.start ((fld_at ev_s_OR).symm.trans (own_eqi nc1))
  obtain ⟨nc2, nr2⟩ := and_e nr1
  obtain ⟨s_NOT_EQUAL, ev_s_NOT_EQUAL⟩ := exa_v nc2
  have S_s_NOT_EQUAL : Sta s s.heap "com/example/paddlefish/paddlefish/BooleanExpression$Operator" "NOT_EQUAL" "Lcom/example/paddlefish/paddlefish/BooleanExpression$Operator;" (.ref s_NOT_EQUAL) := Sta.start ev_s_NOT_EQUAL (Or.inr ⟨(hv 2 rfl), (hv 26 rfl)⟩)
  have E_s_NOT_EQUAL : Exa s s.heap s_NOT_EQUAL "com/example/paddlefish/paddlefish/BooleanExpression$Operator" := Exa.start ev_s_NOT_EQUAL nc2
  obtain ⟨nc3, nr3⟩ := and_e nr2
  have F6_ordinal : Fld s s.heap s_NOT_EQUAL "java/lang/Enum" "ordinal" "I" (.int (4 : Int32)) := Fld.start ((fld_at ev_s_NOT_EQUAL).symm.trans (own_eqi nc3))
  obtain ⟨nc4, nr4⟩ := and_e nr3
  obtain ⟨s_EQUAL, ev_s_EQUAL⟩ := exa_v nc4
  have S_s_EQUAL : Sta s s.heap "com/example/paddlefish/paddlefish/BooleanExpression$Operator" "EQUAL" "Lcom/example/paddlefish/paddlefish/BooleanExpression$Operator;" (.ref s_EQUAL) := Sta.start ev_s_EQUAL (Or.inr ⟨(hv 2 rfl), (hv 28 rfl)⟩)
  have E_s_EQUAL : Exa s s.heap s_EQUAL "com/example/paddlefish/paddlefish/BooleanExpression$Operator" := Exa.start ev_s_EQUAL nc4
  obtain ⟨nc5, nr5⟩ := and_e nr4
  have F9_ordinal : Fld s s.heap s_EQUAL "java/lang/Enum" "ordinal" "I" (.int (3 : Int32)) := Fld.start ((fld_at ev_s_EQUAL).symm.trans (own_eqi nc5))
  obtain ⟨nc6, nr6⟩ := and_e nr5
  obtain ⟨s_XOR, ev_s_XOR⟩ := exa_v nc6
  have S_s_XOR : Sta s s.heap "com/example/paddlefish/paddlefish/BooleanExpression$Operator" "XOR" "Lcom/example/paddlefish/paddlefish/BooleanExpression$Operator;" (.ref s_XOR) := Sta.start ev_s_XOR (Or.inr ⟨(hv 2 rfl), (hv 30 rfl)⟩)
  have E_s_XOR : Exa s s.heap s_XOR "com/example/paddlefish/paddlefish/BooleanExpression$Operator" := Exa.start ev_s_XOR nc6
  obtain ⟨nc7, nr7⟩ := and_e nr6
  have F12_ordinal : Fld s s.heap s_XOR "java/lang/Enum" "ordinal" "I" (.int (1 : Int32)) := Fld.start ((fld_at ev_s_XOR).symm.trans (own_eqi nc7))
  obtain ⟨nc8, nr8⟩ := and_e nr7
  obtain ⟨s_AND, ev_s_AND⟩ := exa_v nc8
  have S_s_AND : Sta s s.heap "com/example/paddlefish/paddlefish/BooleanExpression$Operator" "AND" "Lcom/example/paddlefish/paddlefish/BooleanExpression$Operator;" (.ref s_AND) := Sta.start ev_s_AND (Or.inr ⟨(hv 2 rfl), (hv 32 rfl)⟩)
  have E_s_AND : Exa s s.heap s_AND "com/example/paddlefish/paddlefish/BooleanExpression$Operator" := Exa.start ev_s_AND nc8
  have F15_ordinal : Fld s s.heap s_AND "java/lang/Enum" "ordinal" "I" (.int (2 : Int32)) := Fld.start ((fld_at ev_s_AND).symm.trans (own_eqi nr8))
  obtain ⟨n, o, h1, h2, h3, _, L, rfl, ⟨rfl, N⟩, hq⟩ := rm0 l s _ hw tables_1 i0 i1 s_OR s_NOT_EQUAL s_EQUAL s_XOR s_AND s.heap s.heap.size (Nat.le_refl _) O0 S_s_OR E_s_OR F3_ordinal S_s_NOT_EQUAL E_s_NOT_EQUAL F6_ordinal S_s_EQUAL E_s_EQUAL F9_ordinal S_s_XOR E_s_XOR F12_ordinal S_s_AND E_s_AND F15_ordinal p e ha hc hk s m _ below hf ((Spec.applies_iff_loose hf).mp happ).1 ⟨rfl, State.Warmed39.refl s, rfl⟩ trivial
  refine ⟨n, _, h1, h2, h3, hpost _ _ _ _ _ _ ⟨Cond.after_iff.mpr rfl, Cond.after_iff.mpr (eq_i res_at (Term.int_eval (1)) rfl), trivial⟩ ⟨hq.1, hq.2.1, (hq.2.2.sift fun y hy => Or.inr (N y hy)).mono (by decide) (by decide)⟩⟩
theorem main_1_1 : Claimed_1_1 := comes_1 fun _ _ _ _ _ _ h hF => ⟨h.1, hF⟩
theorem main_1_2 : Claimed_1_2 := comes_1 fun _ _ _ _ _ _ h hF => ⟨h.2.1, hF⟩
end Jvm.Pilot.@@N@@
namespace Jvm.Pilot.@@N@@
open Jvm Jvm.ClassFile Sem Op Lib Jvm.Free Jvm.Stand Jvm.Pilot.@@N@@.Jvm.D
/-! MADE BY PROGRAM (witnessworld.py) out of the Statement's table words and the real class files: 12 classes; the members and pool entries that the words name. The judged class is class 1, her method 3. -/
namespace start1
open Jvm.ClassFile
def u (s : String) : CpInfo := .utf8 (stringToUtf16 s)
/-- a pool by its gaps: so many unusable entries, then the entry; so many at the end -/
def gap : Nat → List CpInfo → List CpInfo
  | 0, r => r
  | n + 1, r => .unusable :: gap n r
def poolList (es : List (Nat × CpInfo)) (last : Nat) : List CpInfo := es.foldr (fun e r => gap e.1 (e.2 :: r)) (gap last [])
def pool (es : List (Nat × CpInfo)) (last : Nat) : Array CpInfo := ⟨poolList es last⟩
def fileOf (pool : Array CpInfo) (this : Nat) (attrs : Array Attribute := #[]) (ms : Array MethodInfo := #[]) (fl : Nat := 33) (sup : Nat := 0) (ifs : Array Nat := #[]) (fds : Array FieldInfo := #[]) : ClassFile where
  minorVersion := 0
  majorVersion := 65
  constantPool := pool
  accessFlags := fl
  thisClass := this
  superClass := sup
  interfaces := ifs
  fields := fds
  methods := ms
  attributes := attrs
def plain (name : String) (sup : Option ClassId) : Class where
  name := name
  kind := .ordinary
  loader := none
  accessFlags := 33
  super := sup
  interfaces := #[]
  cf := none
  fields := #[]
  methods := #[]
  instanceTypes := #[]
  staticTypes := #[]
  resolved := #[]
  callSites := []
  init := .initialized
  statics := none
  mirror := none

def pool0 : Array CpInfo := pool [(5, u "<init>"), (0, u "()V"), (1, .class_ 10), (1, u "java/lang/Object")] 113

def k0m0 : Method := { name := "<init>", desc := "()V", sig := { parameters := [], returnType := none }, accessFlags := 1, code := none }
/-- java/lang/Object -/
def k0 : Class := { plain "java/lang/Object" none with
  accessFlags := 33
  interfaces := #[]
  cf := some (fileOf pool0 8 #[] #[{ accessFlags := 1, nameIndex := 5, descriptorIndex := 6, attributes := #[] }] 33 0 #[] #[])
  fields := #[]
  methods := #[k0m0]
  instanceTypes := #[]
  staticTypes := #[]
  resolved := Array.replicate 124 none
  statics := none }

def pool1 : Array CpInfo := pool [(2, .class_ 4), (1, u "java/lang/Object"), (0, u "<init>"), (0, u "()V"), (0, .methodref 8 9), (0, .class_ 10), (0, .nameAndType 11 12), (0, u "com/example/paddlefish/paddlefish/BooleanExpression$Operator"), (0, u "apply"), (0, u "(ZZ)Z"), (0, .methodref 14 15), (0, .class_ 16), (0, .nameAndType 17 18), (0, u "com/example/paddlefish/paddlefish/OperatorApplyPinLaw"), (0, u "bit"), (0, u "(IZZ)Z"), (0, .integer 2147483647), (0, .fieldref 8 21), (0, .nameAndType 22 23), (0, u "OR"), (0, u "Lcom/example/paddlefish/paddlefish/BooleanExpression$Operator;"), (0, .fieldref 8 25), (0, .nameAndType 26 23), (0, u "XOR"), (0, .fieldref 8 28), (0, .nameAndType 29 23), (0, u "AND"), (0, .fieldref 8 31), (0, .nameAndType 32 23), (0, u "EQUAL"), (0, .fieldref 8 34), (0, .nameAndType 35 23), (0, u "NOT_EQUAL"), (0, .methodref 14 37), (0, .nameAndType 38 39), (0, u "check"), (0, u "(Lcom/example/paddlefish/paddlefish/BooleanExpression$Operator;IZZ)Z"), (3, u "law"), (0, u "(II)Z")] 6

def k1m0 : Method := { name := "<init>", desc := "()V", sig := { parameters := [], returnType := none }, accessFlags := 1, code := none }
def k1c1 : Code := { maxStack := 2, maxLocals := 4, code := method_2_code, exceptionTable := #[], attributes := #[] }
def k1m1 : Method := { name := "bit", desc := "(IZZ)Z", sig := { parameters := [.int, .boolean, .boolean], returnType := some .boolean }, accessFlags := 10, code := some k1c1 }
def k1c2 : Code := { maxStack := 4, maxLocals := 4, code := method_3_code, exceptionTable := #[], attributes := #[] }
def k1m2 : Method := { name := "check", desc := "(Lcom/example/paddlefish/paddlefish/BooleanExpression$Operator;IZZ)Z", sig := { parameters := [(.object "com/example/paddlefish/paddlefish/BooleanExpression$Operator"), .int, .boolean, .boolean], returnType := some .boolean }, accessFlags := 10, code := some k1c2 }
def k1c3 : Code := { maxStack := 4, maxLocals := 7, code := code, exceptionTable := #[], attributes := #[] }
def k1m3 : Method := { name := "law", desc := "(II)Z", sig := { parameters := [.int, .int], returnType := some .boolean }, accessFlags := 9, code := some k1c3 }
/-- com/example/paddlefish/paddlefish/OperatorApplyPinLaw -/
def k1 : Class := { plain "com/example/paddlefish/paddlefish/OperatorApplyPinLaw" (some 0) with
  accessFlags := 49
  interfaces := #[]
  cf := some (fileOf pool1 14 #[] #[{ accessFlags := 1, nameIndex := 5, descriptorIndex := 6, attributes := #[] }, { accessFlags := 10, nameIndex := 17, descriptorIndex := 18, attributes := #[] }, { accessFlags := 10, nameIndex := 38, descriptorIndex := 39, attributes := #[] }, { accessFlags := 9, nameIndex := 43, descriptorIndex := 44, attributes := #[] }] 49 2 #[] #[])
  fields := #[]
  methods := #[k1m0, k1m1, k1m2, k1m3]
  instanceTypes := #[]
  staticTypes := #[]
  resolved := Array.replicate 51 none
  statics := none }

def pool2 : Array CpInfo := pool [(1, .class_ 2), (0, u "java/lang/constant/Constable"), (0, .class_ 4), (0, u "java/lang/Object")] 6

/-- java/lang/constant/Constable -/
def k2 : Class := { plain "java/lang/constant/Constable" (some 0) with
  accessFlags := 1537
  interfaces := #[]
  cf := some (fileOf pool2 1 #[] #[] 1537 3 #[] #[])
  fields := #[]
  methods := #[]
  instanceTypes := #[]
  staticTypes := #[]
  resolved := Array.replicate 11 none
  statics := none }

def pool3 : Array CpInfo := pool [(1, .class_ 2), (0, u "java/lang/Comparable"), (0, .class_ 4), (0, u "java/lang/Object")] 7

/-- java/lang/Comparable -/
def k3 : Class := { plain "java/lang/Comparable" (some 0) with
  accessFlags := 1537
  interfaces := #[]
  cf := some (fileOf pool3 1 #[] #[] 1537 3 #[] #[])
  fields := #[]
  methods := #[]
  instanceTypes := #[]
  staticTypes := #[]
  resolved := Array.replicate 12 none
  statics := none }

def pool4 : Array CpInfo := pool [(1, .class_ 2), (0, u "java/io/Serializable"), (0, .class_ 4), (0, u "java/lang/Object")] 2

/-- java/io/Serializable -/
def k4 : Class := { plain "java/io/Serializable" (some 0) with
  accessFlags := 1537
  interfaces := #[]
  cf := some (fileOf pool4 1 #[] #[] 1537 3 #[] #[])
  fields := #[]
  methods := #[]
  instanceTypes := #[]
  staticTypes := #[]
  resolved := Array.replicate 7 none
  statics := none }

def pool5 : Array CpInfo := pool [(2, .class_ 4), (1, u "java/lang/Enum"), (0, u "name"), (0, u "Ljava/lang/String;"), (0, .fieldref 2 8), (0, .nameAndType 9 10), (0, u "ordinal"), (0, u "I"), (1, .class_ 14), (1, u "java/lang/Object"), (4, u "hash"), (86, .class_ 108), (1, u "java/lang/Enum$EnumDesc"), (2, .class_ 112), (0, u "java/lang/constant/Constable"), (0, .class_ 114), (0, u "java/lang/Comparable"), (0, .class_ 116), (0, u "java/io/Serializable"), (9, u "()I")] 77

def k5c0 : Code := { maxStack := 1, maxLocals := 1, code := jdk_37_method_2_code, exceptionTable := #[], attributes := #[] }
def k5m0 : Method := { name := "ordinal", desc := "()I", sig := { parameters := [], returnType := some .int }, accessFlags := 17, code := some k5c0 }
/-- java/lang/Enum -/
def k5 : Class := { plain "java/lang/Enum" (some 0) with
  accessFlags := 1057
  interfaces := #[2, 3, 4]
  cf := some (fileOf pool5 2 #[.nestMembers #[106]] #[{ accessFlags := 17, nameIndex := 9, descriptorIndex := 126, attributes := #[] }] 1057 12 #[111, 113, 115] #[{ accessFlags := 18, nameIndex := 5, descriptorIndex := 6, attributes := #[] }, { accessFlags := 18, nameIndex := 9, descriptorIndex := 10, attributes := #[] }, { accessFlags := 2, nameIndex := 19, descriptorIndex := 10, attributes := #[] }])
  fields := #[{ name := "name", type := (.object "java/lang/String"), accessFlags := 18, slot := 0, constantValue := 0 }, { name := "ordinal", type := .int, accessFlags := 18, slot := 1, constantValue := 0 }, { name := "hash", type := .int, accessFlags := 2, slot := 2, constantValue := 0 }]
  methods := #[k5m0]
  instanceTypes := #[(.object "java/lang/String"), .int, .int]
  staticTypes := #[]
  resolved := Array.replicate 204 none
  statics := none }

def pool6 : Array CpInfo := pool [(1, .class_ 2), (0, u "com/example/paddlefish/paddlefish/BooleanExpression$Operator"), (2, u "OR"), (0, u "Lcom/example/paddlefish/paddlefish/BooleanExpression$Operator;"), (2, u "XOR"), (2, u "AND"), (2, u "EQUAL"), (2, u "NOT_EQUAL"), (2, u "$VALUES"), (0, u "[Lcom/example/paddlefish/paddlefish/BooleanExpression$Operator;"), (6, .class_ 31), (1, u "java/lang/Enum"), (8, u "symbol"), (0, u "Ljava/lang/String;"), (2, u "precedence"), (0, u "I"), (0, .methodref 1 47), (0, .nameAndType 48 49), (0, u "ordinal"), (0, u "()I"), (34, u "apply"), (0, u "(ZZ)Z"), (7, .class_ 94), (0, u "com/example/paddlefish/paddlefish/BooleanExpression")] 2

def k6c0 : Code := { maxStack := 4, maxLocals := 3, code := prog_6_method_6_code, exceptionTable := #[], attributes := #[] }
def k6m0 : Method := { name := "apply", desc := "(ZZ)Z", sig := { parameters := [.boolean, .boolean], returnType := some .boolean }, accessFlags := 0, code := some k6c0 }
/-- com/example/paddlefish/paddlefish/BooleanExpression$Operator -/
def k6 : Class := { plain "com/example/paddlefish/paddlefish/BooleanExpression$Operator" (some 5) with
  accessFlags := 16433
  interfaces := #[]
  cf := some (fileOf pool6 1 #[.nestHost 93] #[{ accessFlags := 0, nameIndex := 84, descriptorIndex := 85, attributes := #[] }] 16433 29 #[] #[{ accessFlags := 16409, nameIndex := 5, descriptorIndex := 6, attributes := #[] }, { accessFlags := 16409, nameIndex := 9, descriptorIndex := 6, attributes := #[] }, { accessFlags := 16409, nameIndex := 12, descriptorIndex := 6, attributes := #[] }, { accessFlags := 16409, nameIndex := 15, descriptorIndex := 6, attributes := #[] }, { accessFlags := 16409, nameIndex := 18, descriptorIndex := 6, attributes := #[] }, { accessFlags := 18, nameIndex := 40, descriptorIndex := 41, attributes := #[] }, { accessFlags := 18, nameIndex := 44, descriptorIndex := 45, attributes := #[] }, { accessFlags := 4122, nameIndex := 21, descriptorIndex := 22, attributes := #[] }])
  fields := #[{ name := "OR", type := (.object "com/example/paddlefish/paddlefish/BooleanExpression$Operator"), accessFlags := 16409, slot := 0, constantValue := 0 }, { name := "XOR", type := (.object "com/example/paddlefish/paddlefish/BooleanExpression$Operator"), accessFlags := 16409, slot := 1, constantValue := 0 }, { name := "AND", type := (.object "com/example/paddlefish/paddlefish/BooleanExpression$Operator"), accessFlags := 16409, slot := 2, constantValue := 0 }, { name := "EQUAL", type := (.object "com/example/paddlefish/paddlefish/BooleanExpression$Operator"), accessFlags := 16409, slot := 3, constantValue := 0 }, { name := "NOT_EQUAL", type := (.object "com/example/paddlefish/paddlefish/BooleanExpression$Operator"), accessFlags := 16409, slot := 4, constantValue := 0 }, { name := "symbol", type := (.object "java/lang/String"), accessFlags := 18, slot := 3, constantValue := 0 }, { name := "precedence", type := .int, accessFlags := 18, slot := 4, constantValue := 0 }, { name := "$VALUES", type := (.array (.object "com/example/paddlefish/paddlefish/BooleanExpression$Operator")), accessFlags := 4122, slot := 5, constantValue := 0 }]
  methods := #[k6m0]
  instanceTypes := #[(.object "java/lang/String"), .int, .int, (.object "java/lang/String"), .int]
  staticTypes := #[(.object "com/example/paddlefish/paddlefish/BooleanExpression$Operator"), (.object "com/example/paddlefish/paddlefish/BooleanExpression$Operator"), (.object "com/example/paddlefish/paddlefish/BooleanExpression$Operator"), (.object "com/example/paddlefish/paddlefish/BooleanExpression$Operator"), (.object "com/example/paddlefish/paddlefish/BooleanExpression$Operator"), (.array (.object "com/example/paddlefish/paddlefish/BooleanExpression$Operator"))]
  resolved := Array.replicate 97 none
  statics := some 0 }

def pool7 : Array CpInfo := pool [(1, u "java/lang/Cloneable"), (0, .class_ 1), (0, u "java/lang/Object"), (0, .class_ 3)] 3

/-- java/lang/Cloneable -/
def k7 : Class := { plain "java/lang/Cloneable" (some 0) with
  accessFlags := 1537
  interfaces := #[]
  cf := some (fileOf pool7 2 #[] #[] 1537 4 #[] #[])
  fields := #[]
  methods := #[]
  instanceTypes := #[]
  staticTypes := #[]
  resolved := Array.replicate 8 none
  statics := none }

/-- the primitive byte -/
def k8 : Class := { plain "byte" none with kind := .primitive 'B', accessFlags := 0x411 }
/-- [B -/
def k9 : Class := { plain "[B" (some 0) with kind := .array 8 .byte, interfaces := #[7, 4], accessFlags := 1041 }

/-- the primitive int -/
def k10 : Class := { plain "int" none with kind := .primitive 'I', accessFlags := 0x411 }
/-- [I -/
def k11 : Class := { plain "[I" (some 0) with kind := .array 10 .int, interfaces := #[7, 4], accessFlags := 1041 }

def heap : Heap := #[{ cls := 6, slots := #[.ref 1, .ref 4, .ref 5, .ref 3, .ref 2, .null], vm := .statics 6 },
  { cls := 6, slots := #[.null, .int 0, .int 0, .null, .int 0], vm := .none },
  { cls := 6, slots := #[.null, .int 4, .int 0, .null, .int 0], vm := .none },
  { cls := 6, slots := #[.null, .int 3, .int 0, .null, .int 0], vm := .none },
  { cls := 6, slots := #[.null, .int 1, .int 0, .null, .int 0], vm := .none },
  { cls := 6, slots := #[.null, .int 2, .int 0, .null, .int 0], vm := .none }]
def classes : Array Class := #[k0, k1, k2, k3, k4, k5, k6, k7, k8, k9, k10, k11]
def interned : List (Array UInt16 × Addr) := []
def slotsUsed : Nat := 31
def theMethod : MethodId := ⟨1, 3⟩
def args0 : Array Value := #[.int 5, .int 2]
def aboutOver (below : List Frame) : State where
  vm := { classes := classes, interned := interned.toArray }
  heap := heap
  slotsUsed := slotsUsed
  threads := #[{ frames := .invoking theMethod args0 :: below }]
def below0 : List Frame := [.native { method := ⟨0, 0⟩, args := #[] }]
def about1 : State := aboutOver below0
def p0 : Program := .bare "" "" ""
def e0 : Env := launch0.env 0 0 0
theorem w_frames : about1.frames = Frame.invoking theMethod args0 :: below0 := rfl
set_option maxRecDepth 65536 in
theorem w_args : argsFit about1.vm theMethod args0 = true := by decide +kernel
set_option maxRecDepth 65536 in
theorem w_heap : heapFits about1 = true := by decide +kernel
set_option maxRecDepth 65536 in
theorem w_runnable : about1.curStatus? = some .runnable := by decide +kernel
set_option maxRecDepth 65536 in
theorem w_alone : about1.alone = true := by decide +kernel
set_option maxRecDepth 65536 in
theorem w_named : about1.methodNamed? x = some theMethod := by decide +kernel
set_option maxRecDepth 65536 in
theorem w_hears : about1.hears theMethod below0 = true := by decide +kernel
set_option maxRecDepth 65536 in
theorem w_ripe : about1.ripe theMethod args0 below0 = true := by decide +kernel
theorem w_running : about1.status = .running := rfl
set_option maxRecDepth 65536 in
theorem w_room : about1.hasRoom e0.platform room_1 = true :=
  launch0.hasRoom_least _ room_1 (by decide +kernel) (by decide +kernel) (by decide +kernel) (by decide +kernel) (by decide +kernel) (by decide +kernel)
theorem allAtoms_all (ts : List Jvm.Cond) (a : Array Jvm.Value) (st : Jvm.State) : (allAtoms ts).before a st = ts.all (fun c => c.before a st) := by
  induction ts with
  | nil => rfl
  | cons c t ih =>
    show (Jvm.Cond.and c (allAtoms t)).before a st = _
    rw [Jvm.Cond.before_and, ih, List.all_cons]
def words1 : List Jvm.Cond := Jvm.Cond.code x code maxLocals ret :: tables_1
/-- a 'code' word, met by the world's own term for the bytes: nothing is compared byte by byte -/
theorem code_word {y : MethodName} {bytes : ByteArray} {mx : Nat} {rt : Option FieldType} {a : Array Value} {s : State} {m : MethodId} {meth : Method} {c : Code} (h1 : s.methodNamed? y = some m) (h2 : s.vm.method? m = some meth) (h3 : meth.code = some c) (h4 : c.code = bytes)
    (h5 : (c.maxLocals == mx && c.exceptionTable.isEmpty && decide (c.maxStack ≤ mostOperands) && decide (meth.sig.returnType = rt) && !meth.locks && decide (parseMethodDescriptor y.desc = some meth.sig)) = true) : (Jvm.Cond.code y bytes mx rt).before a s = true := by
  simp only [Bool.and_eq_true, beq_iff_eq, Bool.not_eq_true', decide_eq_true_eq] at h5
  obtain ⟨⟨⟨⟨⟨g1, g2⟩, g3⟩, g4⟩, g5⟩, g6⟩ := h5
  simp [Cond.before, Cond.holds, Cond.value, h1, h2, h3, h4, g1, g2, g3, g4, g5, g6]
def isCode : Jvm.Cond → Bool
  | .code _ _ _ _ => true
  | _ => false
theorem all_split {L : List Jvm.Cond} {P : Jvm.Cond → Bool} (h1 : L.all (fun c => isCode c || P c) = true) (h2 : ∀ c ∈ L.filter isCode, P c = true) : L.all P = true := by
  refine List.all_eq_true.mpr fun c hc => ?_
  have h := List.all_eq_true.mp h1 c hc
  rcases Bool.eq_false_or_eq_true (isCode c) with hi | hi
  · exact h2 c (List.mem_filter.mpr ⟨hc, hi⟩)
  · simpa [hi] using h
set_option maxRecDepth 65536 in
theorem w_c0 : (Jvm.Cond.code x code maxLocals ret).before args0 about1 = true := code_word (m := ⟨1, 3⟩) (meth := k1m3) (c := k1c3) (by decide +kernel) rfl rfl rfl (by decide +kernel)
set_option maxRecDepth 65536 in
theorem w_c1 : (Jvm.Cond.code ({ cls := "com/example/paddlefish/paddlefish/OperatorApplyPinLaw", name := "check", desc := "(Lcom/example/paddlefish/paddlefish/BooleanExpression$Operator;IZZ)Z" } : Jvm.MethodName) method_3_code (4 : Nat) (Option.some Jvm.ClassFile.FieldType.boolean)).before args0 about1 = true := code_word (m := ⟨1, 2⟩) (meth := k1m2) (c := k1c2) (by decide +kernel) rfl rfl rfl (by decide +kernel)
set_option maxRecDepth 65536 in
theorem w_c2 : (Jvm.Cond.code ({ cls := "com/example/paddlefish/paddlefish/BooleanExpression$Operator", name := "apply", desc := "(ZZ)Z" } : Jvm.MethodName) prog_6_method_6_code (3 : Nat) (Option.some Jvm.ClassFile.FieldType.boolean)).before args0 about1 = true := code_word (m := ⟨6, 0⟩) (meth := k6m0) (c := k6c0) (by decide +kernel) rfl rfl rfl (by decide +kernel)
set_option maxRecDepth 65536 in
theorem w_c3 : (Jvm.Cond.code ({ cls := "java/lang/Enum", name := "ordinal", desc := "()I" } : Jvm.MethodName) jdk_37_method_2_code (1 : Nat) (Option.some Jvm.ClassFile.FieldType.int)).before args0 about1 = true := code_word (m := ⟨5, 0⟩) (meth := k5m0) (c := k5c0) (by decide +kernel) rfl rfl rfl (by decide +kernel)
set_option maxRecDepth 65536 in
theorem w_c4 : (Jvm.Cond.code ({ cls := "com/example/paddlefish/paddlefish/OperatorApplyPinLaw", name := "bit", desc := "(IZZ)Z" } : Jvm.MethodName) method_2_code (4 : Nat) (Option.some Jvm.ClassFile.FieldType.boolean)).before args0 about1 = true := code_word (m := ⟨1, 1⟩) (meth := k1m1) (c := k1c1) (by decide +kernel) rfl rfl rfl (by decide +kernel)
def codes1 : List Jvm.Cond := [Jvm.Cond.code x code maxLocals ret, Jvm.Cond.code ({ cls := "com/example/paddlefish/paddlefish/OperatorApplyPinLaw", name := "check", desc := "(Lcom/example/paddlefish/paddlefish/BooleanExpression$Operator;IZZ)Z" } : Jvm.MethodName) method_3_code (4 : Nat) (Option.some Jvm.ClassFile.FieldType.boolean), Jvm.Cond.code ({ cls := "com/example/paddlefish/paddlefish/BooleanExpression$Operator", name := "apply", desc := "(ZZ)Z" } : Jvm.MethodName) prog_6_method_6_code (3 : Nat) (Option.some Jvm.ClassFile.FieldType.boolean), Jvm.Cond.code ({ cls := "java/lang/Enum", name := "ordinal", desc := "()I" } : Jvm.MethodName) jdk_37_method_2_code (1 : Nat) (Option.some Jvm.ClassFile.FieldType.int), Jvm.Cond.code ({ cls := "com/example/paddlefish/paddlefish/OperatorApplyPinLaw", name := "bit", desc := "(IZZ)Z" } : Jvm.MethodName) method_2_code (4 : Nat) (Option.some Jvm.ClassFile.FieldType.boolean)]
set_option maxRecDepth 65536 in
theorem codes_eq : words1.filter isCode = codes1 := rfl
theorem w_codes : ∀ c ∈ words1.filter isCode, c.before args0 about1 = true := by
  rw [codes_eq]
  intro c hc
  simp only [codes1, List.mem_cons, List.not_mem_nil, or_false] at hc
  rcases hc with rfl | rfl | rfl | rfl | rfl
  · exact w_c0
  · exact w_c1
  · exact w_c2
  · exact w_c3
  · exact w_c4
set_option maxRecDepth 65536 in
theorem w_t1 : (words1.take 24).all (fun c => isCode c || c.before args0 about1) = true := by decide +kernel
set_option maxRecDepth 65536 in
theorem w_t2 : (words1.drop 24).all (fun c => isCode c || c.before args0 about1) = true := by decide +kernel
theorem w_tables : (allAtoms (Jvm.Cond.code x code maxLocals ret :: tables_1)).before args0 about1 = true := by
  rw [allAtoms_all]
  show words1.all (fun c => c.before args0 about1) = true
  refine all_split ?_ w_codes
  rw [← List.take_append_drop 24 words1, List.all_append, w_t1, w_t2]
  rfl
set_option maxRecDepth 65536 in
theorem w_case : (Jvm.Cond.and given_1 narrow_1).before args0 about1 = true := by decide +kernel
theorem w_applies : (headSpec (Jvm.Cond.code x code maxLocals ret :: tables_1) room_1).applies x e0.platform about1 = true :=
  (Spec.applies_iff w_frames).mpr ⟨w_running, w_runnable, w_alone, w_named, w_hears, w_ripe, w_room, w_tables⟩
theorem atStart : AtStart classFile x code maxLocals ret World_1 tables_1 room_1 Calls_1 rest_1 Pre_1 launch0 p0 e0 about1 theMethod args0 below0 :=
  ⟨lists_1, trivial, launch0.admits_env _ _ _, launch0.least_env, fairChoices_fair.cas, fairChoices_fair.clock, w_frames, w_args, w_heap, w_applies, trivial, trivial, w_case⟩
end start1
theorem witness_1 : WitnessClaimed_1 := ⟨start1.p0, start1.e0, start1.about1, start1.theMethod, start1.args0, start1.below0, start1.atStart⟩
end Jvm.Pilot.@@N@@
