import JvmDerived
import JvmDerived.Pilot.@@N@@Statement
import JvmDerived.Pilot.@@N@@Code
set_option linter.unusedVariables false
set_option linter.unusedSimpArgs false
namespace Jvm.RoadKit
open Sem ClassFile Op Lib Jvm.Stand Jvm.Free Jvm.LawKit
section New
variable {p : Program} {l : Launch} {e : Env} {R : Room} {s : State} {m : MethodId} {args : Array Value} {below : List Frame} {meth : Method} {c : Code} {T : State} {locs : List Loc} {cells slots : Nat}
theorem retI (X : Stand p l e R s m args below meth c T locs cells slots) (hx : p.tables.exec = Jvm.exec) {pc : Nat} {Ls : Array Slot} {z : Int32} {rest : List Value} (hret : meth.sig.returnType = some .int) (hd : decode c.code pc = .ok (.ireturn, 1)) {fs : List Frame}
    (hl : ∀ (f : JFrame) (acts : List Action), f.method = m → f.locked = none → f.entered = [] → (doReturn e (T.setTop f) acts (some (.int z))).1 = T.setFrames fs) : Steps p.tables e below (T.setTop (mkF m pc Ls (.int z :: rest))) (T.setFrames fs) := by
  have hm' : T.vm.method? m = some meth := X.method'
  have hn : narrow .int (.int z) = .int z := rfl
  show Steps p.tables e below (T.setTop { method := m, pc := pc, locals := Ls, stack := _ :: rest, locked := none }) _
  jvm_step X.here [X.here.top, hx, hd, hm', hret, hn]
  first | (intro acts; rw [hl _ acts rfl rfl rfl]) | rw [hl _ _ rfl rfl rfl]
  exact Steps.refl _
end New
end Jvm.RoadKit
namespace Jvm.Pilot.@@N@@
open Jvm Jvm.ClassFile Sem Op Lib Jvm.Free Jvm.Stand Jvm.LawKit Jvm.RoadKit Bundle Jvm.Pilot.@@N@@.Jvm.D
section OwnKit
variable {p : Program} {l : Launch} {e : Env} {R : Room} {s : State} {m : MethodId} {args : Array Value} {below : List Frame} {meth : Method} {c : Code} {T W : State} {locs : List Loc} {cells slots : Nat} {Z : State} {a0 : Array Value} {h : Heap} {pc : Nat} {L : Array Slot} {S : List Value}
def Go (p : Program) (e : Env) (below : List Frame) (m : MethodId) (W T : State) (pc : Nat) (L : Array Slot) (S : List Value) : Prop := ∀ t, Steps p.tables e below (T.setTop (mkF m pc L S)) t → Steps p.tables e below W t
theorem Go.iloadN {n : Fin 4} {v : Int32} (k : Go p e below m W T pc L S) (X : Stand p l e R s m args below meth c T locs cells slots) (hx : p.tables.exec = Jvm.exec) (hd : decode c.code pc = .ok (.iload_n n, 1)) (hl : L[n.val]? = some (.val (.int v))) : Go p e below m W T (pc + 1) L (.int v :: S) := fun t kt => k t (Jvm.Free.XS.iloadN X.here hx rfl hd hl kt)
theorem Go.iload {n : Nat} {v : Int32} (k : Go p e below m W T pc L S) (X : Stand p l e R s m args below meth c T locs cells slots) (hx : p.tables.exec = Jvm.exec) (hd : decode c.code pc = .ok (.iload n, 2)) (hl : L[n]? = some (.val (.int v))) : Go p e below m W T (pc + 2) L (.int v :: S) := fun t kt => k t (Jvm.Free.XS.iload X.here hx rfl hd hl kt)
theorem Go.lloadN {n : Fin 4} {v : Int64} (k : Go p e below m W T pc L S) (X : Stand p l e R s m args below meth c T locs cells slots) (hx : p.tables.exec = Jvm.exec) (hd : decode c.code pc = .ok (.lload_n n, 1)) (hl : L[n.val]? = some (.val (.long v))) : Go p e below m W T (pc + 1) L (.long v :: S) := fun t kt => k t (Jvm.Free.XT.lloadN X.here hx rfl hd hl kt)
theorem Go.lload {n : Nat} {v : Int64} (k : Go p e below m W T pc L S) (X : Stand p l e R s m args below meth c T locs cells slots) (hx : p.tables.exec = Jvm.exec) (hd : decode c.code pc = .ok (.lload n, 2)) (hl : L[n]? = some (.val (.long v))) : Go p e below m W T (pc + 2) L (.long v :: S) := fun t kt => k t (Jvm.Free.XT.lload X.here hx rfl hd hl kt)
theorem Go.aloadN {n : Fin 4} {v : Value} (k : Go p e below m W T pc L S) (X : Stand p l e R s m args below meth c T locs cells slots) (hx : p.tables.exec = Jvm.exec) (hd : decode c.code pc = .ok (.aload_n n, 1)) (hl : L[n.val]? = some (.val v)) (hv : v.isRef = true) : Go p e below m W T (pc + 1) L (v :: S) := fun t kt => k t (Jvm.Free.XS.aloadN X.here hx rfl hd hl hv kt)
theorem Go.aload {n : Nat} {v : Value} (k : Go p e below m W T pc L S) (X : Stand p l e R s m args below meth c T locs cells slots) (hx : p.tables.exec = Jvm.exec) (hd : decode c.code pc = .ok (.aload n, 2)) (hl : L[n]? = some (.val v)) (hv : v.isRef = true) : Go p e below m W T (pc + 2) L (v :: S) := fun t kt => k t (Jvm.Free.XS.aload X.here hx rfl hd hl hv kt)
theorem Go.iconst {i : Int} {v : Int32} (k : Go p e below m W T pc L S) (X : Stand p l e R s m args below meth c T locs cells slots) (hx : p.tables.exec = Jvm.exec) (hd : decode c.code pc = .ok (.iconst i, 1)) (hv : Int32.ofInt i = v) : Go p e below m W T (pc + 1) L (.int v :: S) := fun t kt => k t (Jvm.Free.XT.iconstV X.here hx rfl v hd hv kt)
theorem Go.bipush {i : Int} {v : Int32} (k : Go p e below m W T pc L S) (X : Stand p l e R s m args below meth c T locs cells slots) (hx : p.tables.exec = Jvm.exec) (hd : decode c.code pc = .ok (.bipush i, 2)) (hv : (Int8.ofInt i).toInt32 = v) : Go p e below m W T (pc + 2) L (.int v :: S) := fun t kt => k t (Jvm.Free.XT.bipushV X.here hx rfl v hd hv kt)
theorem Go.sipush {i : Int} {v : Int32} (k : Go p e below m W T pc L S) (X : Stand p l e R s m args below meth c T locs cells slots) (hx : p.tables.exec = Jvm.exec) (hd : decode c.code pc = .ok (.sipush i, 3)) (hv : (Int16.ofInt i).toInt32 = v) : Go p e below m W T (pc + 3) L (.int v :: S) := fun t kt => k t (Jvm.Free.XT.sipushV X.here hx rfl v hd hv kt)
theorem Go.lconst {i : Fin 2} {v : Int64} (k : Go p e below m W T pc L S) (X : Stand p l e R s m args below meth c T locs cells slots) (hx : p.tables.exec = Jvm.exec) (hd : decode c.code pc = .ok (.lconst i, 1)) (hv : Int64.ofNat i = v) : Go p e below m W T (pc + 1) L (.long v :: S) := fun t kt => k t (Jvm.Free.XT.lconstV X.here hx rfl v hd hv kt)
theorem Go.aconstNull  (k : Go p e below m W T pc L S) (X : Stand p l e R s m args below meth c T locs cells slots) (hx : p.tables.exec = Jvm.exec) (hd : decode c.code pc = .ok (.aconst_null, 1)) : Go p e below m W T (pc + 1) L (.null :: S) := fun t kt => k t (Jvm.Free.XS.aconstNull X.here hx rfl hd kt)
theorem Go.istoreN {n : Fin 4} {x : Int32} {L' : Array Slot} (k : Go p e below m W T pc L (.int x :: S)) (X : Stand p l e R s m args below meth c T locs cells slots) (hx : p.tables.exec = Jvm.exec) (hd : decode c.code pc = .ok (.istore_n n, 1)) (hl : storeLocals L n.val (.int x) = some L') : Go p e below m W T (pc + 1) L' S := fun t kt => k t (Jvm.Free.XS.istoreN X.here hx rfl hd rfl hl kt)
theorem Go.istore {n : Nat} {x : Int32} {L' : Array Slot} (k : Go p e below m W T pc L (.int x :: S)) (X : Stand p l e R s m args below meth c T locs cells slots) (hx : p.tables.exec = Jvm.exec) (hd : decode c.code pc = .ok (.istore n, 2)) (hl : storeLocals L n (.int x) = some L') : Go p e below m W T (pc + 2) L' S := fun t kt => k t (Jvm.Free.XS.istore X.here hx rfl hd rfl hl kt)
theorem Go.lstoreN {n : Fin 4} {x : Int64} {L' : Array Slot} (k : Go p e below m W T pc L (.long x :: S)) (X : Stand p l e R s m args below meth c T locs cells slots) (hx : p.tables.exec = Jvm.exec) (hd : decode c.code pc = .ok (.lstore_n n, 1)) (hl : storeLocals L n.val (.long x) = some L') : Go p e below m W T (pc + 1) L' S := fun t kt => k t (Jvm.Free.XT.lstoreN X.here hx rfl hd rfl hl kt)
theorem Go.lstore {n : Nat} {x : Int64} {L' : Array Slot} (k : Go p e below m W T pc L (.long x :: S)) (X : Stand p l e R s m args below meth c T locs cells slots) (hx : p.tables.exec = Jvm.exec) (hd : decode c.code pc = .ok (.lstore n, 2)) (hl : storeLocals L n (.long x) = some L') : Go p e below m W T (pc + 2) L' S := fun t kt => k t (Jvm.Free.XT.lstore X.here hx rfl hd rfl hl kt)
theorem Go.astoreN {n : Fin 4} {x : Value} {L' : Array Slot} (k : Go p e below m W T pc L (x :: S)) (X : Stand p l e R s m args below meth c T locs cells slots) (hx : p.tables.exec = Jvm.exec) (hd : decode c.code pc = .ok (.astore_n n, 1)) (hv : x.isRef = true) (hl : storeLocals L n.val x = some L') : Go p e below m W T (pc + 1) L' S := fun t kt => k t (Jvm.Free.XS.astoreN X.here hx rfl hd rfl hv hl kt)
theorem Go.astore {n : Nat} {x : Value} {L' : Array Slot} (k : Go p e below m W T pc L (x :: S)) (X : Stand p l e R s m args below meth c T locs cells slots) (hx : p.tables.exec = Jvm.exec) (hd : decode c.code pc = .ok (.astore n, 2)) (hv : x.isRef = true) (hl : storeLocals L n x = some L') : Go p e below m W T (pc + 2) L' S := fun t kt => k t (Jvm.Free.XS.astore X.here hx rfl hd rfl hv hl kt)
theorem Go.iinc {n : Nat} {i : Int} {x v : Int32} {L' : Array Slot} (k : Go p e below m W T pc L S) (X : Stand p l e R s m args below meth c T locs cells slots) (hx : p.tables.exec = Jvm.exec) (hd : decode c.code pc = .ok (.iinc n i, 3)) (hv : Int32.ofInt i = v) (hl : L[n]? = some (.val (.int x))) (hl' : storeLocals L n (.int (x + v)) = some L') : Go p e below m W T (pc + 3) L' S := fun t kt => k t (Jvm.Free.XT.iincV X.here hx rfl v hd hv hl hl' kt)
theorem Go.iadd {x y : Int32} (k : Go p e below m W T pc L (.int y :: .int x :: S)) (X : Stand p l e R s m args below meth c T locs cells slots) (hx : p.tables.exec = Jvm.exec) (hd : decode c.code pc = .ok (.iadd, 1)) : Go p e below m W T (pc + 1) L (.int (x + y) :: S) := fun t kt => k t (Jvm.Free.XS.iadd X.here hx rfl hd rfl kt)
theorem Go.isub {x y : Int32} (k : Go p e below m W T pc L (.int y :: .int x :: S)) (X : Stand p l e R s m args below meth c T locs cells slots) (hx : p.tables.exec = Jvm.exec) (hd : decode c.code pc = .ok (.isub, 1)) : Go p e below m W T (pc + 1) L (.int (x - y) :: S) := fun t kt => k t (Jvm.Free.XS.isub X.here hx rfl hd rfl kt)
theorem Go.iand {x y : Int32} (k : Go p e below m W T pc L (.int y :: .int x :: S)) (X : Stand p l e R s m args below meth c T locs cells slots) (hx : p.tables.exec = Jvm.exec) (hd : decode c.code pc = .ok (.iand, 1)) : Go p e below m W T (pc + 1) L (.int (x &&& y) :: S) := fun t kt => k t (Jvm.Free.XS.iand X.here hx rfl hd rfl kt)
theorem Go.imul {x y : Int32} (k : Go p e below m W T pc L (.int y :: .int x :: S)) (X : Stand p l e R s m args below meth c T locs cells slots) (hx : p.tables.exec = Jvm.exec) (hd : decode c.code pc = .ok (.imul, 1)) : Go p e below m W T (pc + 1) L (.int (x * y) :: S) := fun t kt => k t (Jvm.Free.XS.imul X.here hx rfl hd rfl kt)
theorem Go.ixor {x y : Int32} (k : Go p e below m W T pc L (.int y :: .int x :: S)) (X : Stand p l e R s m args below meth c T locs cells slots) (hx : p.tables.exec = Jvm.exec) (hd : decode c.code pc = .ok (.ixor, 1)) : Go p e below m W T (pc + 1) L (.int (x ^^^ y) :: S) := fun t kt => k t (Jvm.Free.XT.ixor X.here hx rfl hd rfl kt)
theorem Go.ior {x y : Int32} (k : Go p e below m W T pc L (.int y :: .int x :: S)) (X : Stand p l e R s m args below meth c T locs cells slots) (hx : p.tables.exec = Jvm.exec) (hd : decode c.code pc = .ok (.ior, 1)) : Go p e below m W T (pc + 1) L (.int (x ||| y) :: S) := fun t kt => k t (Jvm.Free.XT.ior X.here hx rfl hd rfl kt)
theorem Go.ishl {x y : Int32} (k : Go p e below m W T pc L (.int y :: .int x :: S)) (X : Stand p l e R s m args below meth c T locs cells slots) (hx : p.tables.exec = Jvm.exec) (hd : decode c.code pc = .ok (.ishl, 1)) : Go p e below m W T (pc + 1) L (.int (x <<< (y &&& 31)) :: S) := fun t kt => k t (Jvm.Free.XT.ishl X.here hx rfl hd rfl kt)
theorem Go.ishr {x y : Int32} (k : Go p e below m W T pc L (.int y :: .int x :: S)) (X : Stand p l e R s m args below meth c T locs cells slots) (hx : p.tables.exec = Jvm.exec) (hd : decode c.code pc = .ok (.ishr, 1)) : Go p e below m W T (pc + 1) L (.int (x >>> (y &&& 31)) :: S) := fun t kt => k t (Jvm.Free.XT.ishr X.here hx rfl hd rfl kt)
theorem Go.iushr {x y : Int32} (k : Go p e below m W T pc L (.int y :: .int x :: S)) (X : Stand p l e R s m args below meth c T locs cells slots) (hx : p.tables.exec = Jvm.exec) (hd : decode c.code pc = .ok (.iushr, 1)) : Go p e below m W T (pc + 1) L (.int (XT.ushr x y) :: S) := fun t kt => k t (Jvm.Free.XT.iushr X.here hx rfl hd rfl kt)
theorem Go.idiv {x y : Int32} (k : Go p e below m W T pc L (.int y :: .int x :: S)) (X : Stand p l e R s m args below meth c T locs cells slots) (hx : p.tables.exec = Jvm.exec) (hd : decode c.code pc = .ok (.idiv, 1)) (hy : y ≠ 0) : Go p e below m W T (pc + 1) L (.int (x / y) :: S) := fun t kt => k t (Jvm.Free.XS.idiv X.here hx rfl hd rfl hy kt)
theorem Go.irem {x y : Int32} (k : Go p e below m W T pc L (.int y :: .int x :: S)) (X : Stand p l e R s m args below meth c T locs cells slots) (hx : p.tables.exec = Jvm.exec) (hd : decode c.code pc = .ok (.irem, 1)) (hy : y ≠ 0) : Go p e below m W T (pc + 1) L (.int (x % y) :: S) := fun t kt => k t (Jvm.RoadKit.iremM X hx rfl hd rfl hy kt)
theorem Go.ineg {x : Int32} (k : Go p e below m W T pc L (.int x :: S)) (X : Stand p l e R s m args below meth c T locs cells slots) (hx : p.tables.exec = Jvm.exec) (hd : decode c.code pc = .ok (.ineg, 1)) : Go p e below m W T (pc + 1) L (.int (-x) :: S) := fun t kt => k t (Jvm.Free.XS.ineg X.here hx rfl hd rfl kt)
theorem Go.ladd {x y : Int64} (k : Go p e below m W T pc L (.long y :: .long x :: S)) (X : Stand p l e R s m args below meth c T locs cells slots) (hx : p.tables.exec = Jvm.exec) (hd : decode c.code pc = .ok (.ladd, 1)) : Go p e below m W T (pc + 1) L (.long (x + y) :: S) := fun t kt => k t (Jvm.Free.XT.ladd X.here hx rfl hd rfl kt)
theorem Go.lsub {x y : Int64} (k : Go p e below m W T pc L (.long y :: .long x :: S)) (X : Stand p l e R s m args below meth c T locs cells slots) (hx : p.tables.exec = Jvm.exec) (hd : decode c.code pc = .ok (.lsub, 1)) : Go p e below m W T (pc + 1) L (.long (x - y) :: S) := fun t kt => k t (Jvm.Free.XT.lsub X.here hx rfl hd rfl kt)
theorem Go.lmul {x y : Int64} (k : Go p e below m W T pc L (.long y :: .long x :: S)) (X : Stand p l e R s m args below meth c T locs cells slots) (hx : p.tables.exec = Jvm.exec) (hd : decode c.code pc = .ok (.lmul, 1)) : Go p e below m W T (pc + 1) L (.long (x * y) :: S) := fun t kt => k t (Jvm.Free.XT.lmul X.here hx rfl hd rfl kt)
theorem Go.land {x y : Int64} (k : Go p e below m W T pc L (.long y :: .long x :: S)) (X : Stand p l e R s m args below meth c T locs cells slots) (hx : p.tables.exec = Jvm.exec) (hd : decode c.code pc = .ok (.land, 1)) : Go p e below m W T (pc + 1) L (.long (x &&& y) :: S) := fun t kt => k t (Jvm.Free.XT.land X.here hx rfl hd rfl kt)
theorem Go.lor {x y : Int64} (k : Go p e below m W T pc L (.long y :: .long x :: S)) (X : Stand p l e R s m args below meth c T locs cells slots) (hx : p.tables.exec = Jvm.exec) (hd : decode c.code pc = .ok (.lor, 1)) : Go p e below m W T (pc + 1) L (.long (x ||| y) :: S) := fun t kt => k t (Jvm.Free.XT.lor X.here hx rfl hd rfl kt)
theorem Go.lxor {x y : Int64} (k : Go p e below m W T pc L (.long y :: .long x :: S)) (X : Stand p l e R s m args below meth c T locs cells slots) (hx : p.tables.exec = Jvm.exec) (hd : decode c.code pc = .ok (.lxor, 1)) : Go p e below m W T (pc + 1) L (.long (x ^^^ y) :: S) := fun t kt => k t (Jvm.Free.XT.lxor X.here hx rfl hd rfl kt)
theorem Go.lshl {x : Int64} {y : Int32} (k : Go p e below m W T pc L (.int y :: .long x :: S)) (X : Stand p l e R s m args below meth c T locs cells slots) (hx : p.tables.exec = Jvm.exec) (hd : decode c.code pc = .ok (.lshl, 1)) : Go p e below m W T (pc + 1) L (.long (x <<< (y.toInt64 &&& 63)) :: S) := fun t kt => k t (Jvm.Free.XT.lshl X.here hx rfl hd rfl kt)
theorem Go.lshr {x : Int64} {y : Int32} (k : Go p e below m W T pc L (.int y :: .long x :: S)) (X : Stand p l e R s m args below meth c T locs cells slots) (hx : p.tables.exec = Jvm.exec) (hd : decode c.code pc = .ok (.lshr, 1)) : Go p e below m W T (pc + 1) L (.long (x >>> (y.toInt64 &&& 63)) :: S) := fun t kt => k t (Jvm.Free.XT.lshr X.here hx rfl hd rfl kt)
theorem Go.lushr {x : Int64} {y : Int32} (k : Go p e below m W T pc L (.int y :: .long x :: S)) (X : Stand p l e R s m args below meth c T locs cells slots) (hx : p.tables.exec = Jvm.exec) (hd : decode c.code pc = .ok (.lushr, 1)) : Go p e below m W T (pc + 1) L (.long (XT.ushrL x y) :: S) := fun t kt => k t (Jvm.Free.XT.lushr X.here hx rfl hd rfl kt)
theorem Go.i2l {x : Int32} (k : Go p e below m W T pc L (.int x :: S)) (X : Stand p l e R s m args below meth c T locs cells slots) (hx : p.tables.exec = Jvm.exec) (hd : decode c.code pc = .ok (.i2l, 1)) : Go p e below m W T (pc + 1) L (.long x.toInt64 :: S) := fun t kt => k t (Jvm.Free.XT.i2l X.here hx rfl hd rfl kt)
theorem Go.l2i {x : Int64} (k : Go p e below m W T pc L (.long x :: S)) (X : Stand p l e R s m args below meth c T locs cells slots) (hx : p.tables.exec = Jvm.exec) (hd : decode c.code pc = .ok (.l2i, 1)) : Go p e below m W T (pc + 1) L (.int x.toInt32 :: S) := fun t kt => k t (Jvm.Free.XT.l2i X.here hx rfl hd rfl kt)
theorem Go.i2b {x : Int32} (k : Go p e below m W T pc L (.int x :: S)) (X : Stand p l e R s m args below meth c T locs cells slots) (hx : p.tables.exec = Jvm.exec) (hd : decode c.code pc = .ok (.i2b, 1)) : Go p e below m W T (pc + 1) L (.int x.toInt8.toInt32 :: S) := fun t kt => k t (Jvm.Free.XT.i2b X.here hx rfl hd rfl kt)
theorem Go.i2c {x : Int32} (k : Go p e below m W T pc L (.int x :: S)) (X : Stand p l e R s m args below meth c T locs cells slots) (hx : p.tables.exec = Jvm.exec) (hd : decode c.code pc = .ok (.i2c, 1)) : Go p e below m W T (pc + 1) L (.int x.toUInt32.toUInt16.toUInt32.toInt32 :: S) := fun t kt => k t (Jvm.Free.XT.i2c X.here hx rfl hd rfl kt)
theorem Go.lcmp {x y : Int64} (k : Go p e below m W T pc L (.long y :: .long x :: S)) (X : Stand p l e R s m args below meth c T locs cells slots) (hx : p.tables.exec = Jvm.exec) (hd : decode c.code pc = .ok (.lcmp, 1)) : Go p e below m W T (pc + 1) L (.int (XT.cmpL x y) :: S) := fun t kt => k t (Jvm.Free.XT.lcmp X.here hx rfl hd rfl kt)
theorem Go.dup {x : Value} (k : Go p e below m W T pc L (x :: S)) (X : Stand p l e R s m args below meth c T locs cells slots) (hx : p.tables.exec = Jvm.exec) (hd : decode c.code pc = .ok (.dup, 1)) (h1 : x.category = 1) : Go p e below m W T (pc + 1) L (x :: x :: S) := fun t kt => k t (Jvm.Free.XS.dup X.here hx rfl hd rfl h1 kt)
theorem Go.pop {x : Value} (k : Go p e below m W T pc L (x :: S)) (X : Stand p l e R s m args below meth c T locs cells slots) (hx : p.tables.exec = Jvm.exec) (hd : decode c.code pc = .ok (.pop, 1)) (h1 : x.category = 1) : Go p e below m W T (pc + 1) L S := fun t kt => k t (Jvm.Free.XT.pop X.here hx rfl hd rfl h1 kt)
theorem Go.dupX1 {x y : Value} (k : Go p e below m W T pc L (x :: y :: S)) (X : Stand p l e R s m args below meth c T locs cells slots) (hx : p.tables.exec = Jvm.exec) (hd : decode c.code pc = .ok (.dup_x1, 1)) (h1 : x.category = 1) (h2 : y.category = 1) : Go p e below m W T (pc + 1) L (x :: y :: x :: S) := fun t kt => k t (Jvm.Free.XT.dupX1 X.here hx rfl hd rfl h1 h2 kt)
theorem Go.dup2 {x y : Value} (k : Go p e below m W T pc L (x :: y :: S)) (X : Stand p l e R s m args below meth c T locs cells slots) (hx : p.tables.exec = Jvm.exec) (hd : decode c.code pc = .ok (.dup2, 1)) (h1 : x.category = 1) (h2 : y.category = 1) : Go p e below m W T (pc + 1) L (x :: y :: x :: y :: S) := fun t kt => k t (Jvm.Free.XT.dup2 X.here hx rfl hd rfl h1 h2 kt)
theorem Go.goto {o : Int} {pc' : Nat} (k : Go p e below m W T pc L S) (X : Stand p l e R s m args below meth c T locs cells slots) (hx : p.tables.exec = Jvm.exec) (hd : decode c.code pc = .ok (.goto o, 3)) (ho : 0 ≤ (pc : Int) + o) (hp : ((pc : Int) + o).toNat = pc') : Go p e below m W T pc' L S := fun t kt => k t (Jvm.Free.XS.goto X.here hx rfl rfl hd ho hp kt)
theorem Go.ifYes {cd : ClassFile.Cond} {o : Int} {pc' : Nat} {x : Int32} (k : Go p e below m W T pc L (.int x :: S)) (X : Stand p l e R s m args below meth c T locs cells slots) (hx : p.tables.exec = Jvm.exec) (hd : decode c.code pc = .ok (.ifCond cd o, 3)) (hc : ifCond.holds cd x = true) (ho : 0 ≤ (pc : Int) + o) (hp : ((pc : Int) + o).toNat = pc') : Go p e below m W T pc' L S := fun t kt => k t (Jvm.Free.XS.ifYes X.here hx rfl rfl hd rfl hc ho hp kt)
theorem Go.ifNo {cd : ClassFile.Cond} {o : Int} {x : Int32} (k : Go p e below m W T pc L (.int x :: S)) (X : Stand p l e R s m args below meth c T locs cells slots) (hx : p.tables.exec = Jvm.exec) (hd : decode c.code pc = .ok (.ifCond cd o, 3)) (hc : ifCond.holds cd x = false) : Go p e below m W T (pc + 3) L S := fun t kt => k t (Jvm.Free.XS.ifNo X.here hx rfl hd rfl hc kt)
theorem Go.icmpYes {cd : ClassFile.Cond} {o : Int} {pc' : Nat} {x y : Int32} (k : Go p e below m W T pc L (.int y :: .int x :: S)) (X : Stand p l e R s m args below meth c T locs cells slots) (hx : p.tables.exec = Jvm.exec) (hd : decode c.code pc = .ok (.if_icmp cd o, 3)) (hc : if_icmp.holds cd x y = true) (ho : 0 ≤ (pc : Int) + o) (hp : ((pc : Int) + o).toNat = pc') : Go p e below m W T pc' L S := fun t kt => k t (Jvm.Free.XS.icmpYes X.here hx rfl rfl hd rfl hc ho hp kt)
theorem Go.icmpNo {cd : ClassFile.Cond} {o : Int} {x y : Int32} (k : Go p e below m W T pc L (.int y :: .int x :: S)) (X : Stand p l e R s m args below meth c T locs cells slots) (hx : p.tables.exec = Jvm.exec) (hd : decode c.code pc = .ok (.if_icmp cd o, 3)) (hc : if_icmp.holds cd x y = false) : Go p e below m W T (pc + 3) L S := fun t kt => k t (Jvm.Free.XS.icmpNo X.here hx rfl hd rfl hc kt)
theorem Go.nullYes {o : Int} {pc' : Nat} {v : Value} (k : Go p e below m W T pc L (v :: S)) (X : Stand p l e R s m args below meth c T locs cells slots) (hx : p.tables.exec = Jvm.exec) (hd : decode c.code pc = .ok (.ifnull o, 3)) (hv : v = .null) (ho : 0 ≤ (pc : Int) + o) (hp : ((pc : Int) + o).toNat = pc') : Go p e below m W T pc' L S := fun t kt => k t (Jvm.Free.XT.nullYes X.here hx rfl rfl hd rfl hv ho hp kt)
theorem Go.nullNo {o : Int} {v : Value} (k : Go p e below m W T pc L (v :: S)) (X : Stand p l e R s m args below meth c T locs cells slots) (hx : p.tables.exec = Jvm.exec) (hd : decode c.code pc = .ok (.ifnull o, 3)) (hr : v.isRef = true) (hv : ¬ v = .null) : Go p e below m W T (pc + 3) L S := fun t kt => k t (Jvm.Free.XT.nullNo X.here hx rfl hd rfl hr hv kt)
theorem Go.nonnullYes {o : Int} {pc' : Nat} {v : Value} (k : Go p e below m W T pc L (v :: S)) (X : Stand p l e R s m args below meth c T locs cells slots) (hx : p.tables.exec = Jvm.exec) (hd : decode c.code pc = .ok (.ifnonnull o, 3)) (hr : v.isRef = true) (hv : ¬ v = .null) (ho : 0 ≤ (pc : Int) + o) (hp : ((pc : Int) + o).toNat = pc') : Go p e below m W T pc' L S := fun t kt => k t (Jvm.Free.XT.nonnullYes X.here hx rfl rfl hd rfl hr hv ho hp kt)
theorem Go.nonnullNo {o : Int} {v : Value} (k : Go p e below m W T pc L (v :: S)) (X : Stand p l e R s m args below meth c T locs cells slots) (hx : p.tables.exec = Jvm.exec) (hd : decode c.code pc = .ok (.ifnonnull o, 3)) (hv : v = .null) : Go p e below m W T (pc + 3) L S := fun t kt => k t (Jvm.Free.XT.nonnullNo X.here hx rfl hd rfl hv kt)
theorem Go.acmpYes {cd : ClassFile.ACond} {o : Int} {pc' : Nat} {x y : Value} (k : Go p e below m W T pc L (y :: x :: S)) (X : Stand p l e R s m args below meth c T locs cells slots) (hx : p.tables.exec = Jvm.exec) (hd : decode c.code pc = .ok (.if_acmp cd o, 3)) (h1 : x.isRef = true) (h2 : y.isRef = true) (hc : XT.acmp cd x y = true) (ho : 0 ≤ (pc : Int) + o) (hp : ((pc : Int) + o).toNat = pc') : Go p e below m W T pc' L S := fun t kt => k t (Jvm.Free.XT.acmpYes X.here hx rfl rfl hd rfl h1 h2 hc ho hp kt)
theorem Go.acmpNo {cd : ClassFile.ACond} {o : Int} {x y : Value} (k : Go p e below m W T pc L (y :: x :: S)) (X : Stand p l e R s m args below meth c T locs cells slots) (hx : p.tables.exec = Jvm.exec) (hd : decode c.code pc = .ok (.if_acmp cd o, 3)) (h1 : x.isRef = true) (h2 : y.isRef = true) (hc : XT.acmp cd x y = false) : Go p e below m W T (pc + 3) L S := fun t kt => k t (Jvm.Free.XT.acmpNo X.here hx rfl hd rfl h1 h2 hc kt)
theorem Go.tsw {dflt low high : Int} {offs : Array Int} {len : Nat} {o : Int} {pc' : Nat} {i : Int32} (k : Go p e below m W T pc L (.int i :: S)) (X : Stand p l e R s m args below meth c T locs cells slots) (hx : p.tables.exec = Jvm.exec) (hd : decode c.code pc = .ok (.tableswitch dflt low high offs, len)) (hin : ¬ (i.toInt < low ∨ i.toInt > high)) (hoff : offs[(i.toInt - low).toNat]? = some o) (ho : 0 ≤ (pc : Int) + o) (hp : ((pc : Int) + o).toNat = pc') : Go p e below m W T pc' L S := fun t kt => k t (Jvm.Free.XS.tswIn X.here hx rfl rfl hd rfl hin hoff ho hp kt)
theorem Go.ldcI {own : String} {index : Nat} {v : Int32} (k : Go p e below m W T pc L S) (X : Stand p l e R s m args below meth c T locs cells slots) (hx : p.tables.exec = Jvm.exec) (hZ : Z.Warmed39 s.vm) (hown : s.vm.findClass own = some m.cls) (w : (Cond.constant own index v).before a0 Z = true) (hd : decode c.code pc = .ok (.ldc index, 2)) : Go p e below m W T (pc + 2) L (.int v :: S) := fun t kt => k t (Jvm.Stand.ldcI X hx hown (mvT hZ w) rfl hd kt)
theorem Go.ldc2J {own : String} {index : Nat} {v : Int64} (k : Go p e below m W T pc L S) (X : Stand p l e R s m args below meth c T locs cells slots) (hx : p.tables.exec = Jvm.exec) (hZ : Z.Warmed39 s.vm) (hown : s.vm.findClass own = some m.cls) (w : (Cond.constantLong own index v).before a0 Z = true) (hd : decode c.code pc = .ok (.ldc2_w index, 3)) : Go p e below m W T (pc + 3) L (.long v :: S) := fun t kt => k t (Jvm.Stand.ldc2J X hx hown (mvT hZ w) rfl hd kt)
theorem Go.getF {own R0 O n d host : String} {index : Nat} {a : Addr} {v : Value} (k : Go p e below m W T pc L (.ref a :: S)) (X : Stand p l e R s m args below meth c T locs cells slots) (hx : p.tables.exec = Jvm.exec) (hZ : Z.Warmed39 s.vm) (hown : s.vm.findClass own = some m.cls) (w : (Cond.fieldLink own index R0 n d).before a0 Z = true ∨ (Cond.fieldLinkNest own index R0 n d host).before a0 Z = true) (via : Via Z R0 O n d) (eT : T.heap = h) (F : Fld Z h a O n d v) (hd : decode c.code pc = .ok (.getfield index, 3)) :
    ∃ T', Stand p l e R s m args below meth c T' locs cells slots ∧ T'.heap = h ∧ Go p e below m W T' (pc + 3) L (v :: S) := by
  obtain ⟨T', X', e', st⟩ := Jvm.RoadKit.getF X hx hZ hown w via eT F (g := mkF m pc L (.ref a :: S)) rfl rfl hd
  exact ⟨T', X', e', fun t kt => k t (st t kt)⟩
theorem Go.getS {own R0 O n d host : String} {index : Nat} {v : Value} (k : Go p e below m W T pc L S) (X : Stand p l e R s m args below meth c T locs cells slots) (hx : p.tables.exec = Jvm.exec) (hZ : Z.Warmed39 s.vm) (hown : s.vm.findClass own = some m.cls) (w : (Cond.fieldLink own index R0 n d).before a0 Z = true ∨ (Cond.fieldLinkNest own index R0 n d host).before a0 Z = true) (via : Via Z R0 O n d) (eT : T.heap = h) (F : Sta Z h O n d v) (hd : decode c.code pc = .ok (.getstatic index, 3)) :
    ∃ T', Stand p l e R s m args below meth c T' locs cells slots ∧ T'.heap = h ∧ Go p e below m W T' (pc + 3) L (v :: S) := by
  obtain ⟨T', X', e', st⟩ := Jvm.RoadKit.getS2 X hx hZ hown w via eT F (g := mkF m pc L S) rfl hd
  exact ⟨T', X', e', fun t kt => k t (st t kt)⟩
theorem Go.putF {own R0 O n d host C : String} {index kk : Nat} {ty : FieldType} {a : Addr} {v old : Value} (k : Go p e below m W T pc L (v :: .ref a :: S)) (X : Stand p l e R s m args below meth c T locs cells slots) (hx : p.tables.exec = Jvm.exec) (hZ : Z.Warmed39 s.vm) (hown : s.vm.findClass own = some m.cls) (w : (Cond.fieldLink own index R0 n d).before a0 Z = true ∨ (Cond.fieldLinkNest own index R0 n d host).before a0 Z = true) (via : Via Z R0 O n d) (eT : T.heap = h) (F : Fld Z h a O n d old) (E : Exa Z h a C)
    (Ly : (Cond.lays C O n d).before a0 Z = true ∨ ((Cond.laysFinal C O n d).before a0 Z = true ∧ own = O ∧ meth.name = "<init>")) (wi : (Cond.instantiable C kk).before a0 Z = true) (hty : parseFieldDescriptor d = some ty) (hn : narrow ty v = v) (hf : fits ty v = true) {n0 : Nat} (N : Fr n0 locs) (g0 : n0 ≤ a) (hd : decode c.code pc = .ok (.putfield index, 3)) :
    ∃ T' h' locs', Stand p l e R s m args below meth c T' locs' cells slots ∧ T'.heap = h' ∧ Wr h h' a (Jvm.RoadKit.slotOf Z O n d) v ∧ Fr n0 locs' ∧ Go p e below m W T' (pc + 3) L S := by
  obtain ⟨T', h', X', e', W', st⟩ := Jvm.RoadKit.putF X hx hZ hown w via eT F E Ly wi hty hn hf (g := mkF m pc L (v :: .ref a :: S)) rfl rfl hd
  exact ⟨T', h', _, X', e', W', Fr.snoc X' N g0, fun t kt => k t (st t kt)⟩
theorem Go.newO {own C : String} {index n cells' slots' : Nat} (k : Go p e below m W T pc L S) (X : Stand p l e R s m args below meth c T locs cells slots) (hx : p.tables.exec = Jvm.exec) (hZ : Z.Warmed39 s.vm) (hown : s.vm.findClass own = some m.cls) (w : (Cond.classLink own index C).before a0 Z = true) (wi : (Cond.instantiable C n).before a0 Z = true) (wz : (Cond.initialized C).before a0 Z = true) (eT : T.heap = h) (hd : decode c.code pc = .ok (.new index, 3)) (h1 : cells + 1 = cells') (h2 : slots + n = slots') (h3 : cells' ≤ R.cells) (h4 : slots' ≤ R.slots) :
    ∃ T' h' b, Stand p l e R s m args below meth c T' locs cells' slots' ∧ T'.heap = h' ∧ b = h.size ∧ Ext h h' ∧ Exa Z h' b C ∧ (∀ {O nm d : String} {ty : FieldType}, Laid Z a0 C O nm d → parseFieldDescriptor d = some ty → Fld Z h' b O nm d (defaultValue ty)) ∧ Go p e below m W T' (pc + 3) L (.ref b :: S) := by
  subst h1 h2
  obtain ⟨T', h', X', e', E', A', D', -, st⟩ := Jvm.RoadKit.newO X hx hZ hown w wi wz eT (g := mkF m pc L S) rfl hd h3 h4
  exact ⟨T', h', _, X', e', rfl, E', A', D', fun t kt => k t (st t kt)⟩
theorem Go.initO {own : String} {idx Wd : Nat} {a : Addr} (k : Go p e below m W T pc L (.ref a :: S)) (X : Stand p l e R s m args below meth c T locs cells slots) (hx : p.tables.exec = Jvm.exec) (hZ : Z.Warmed39 s.vm) (hown : s.vm.findClass own = some m.cls) (hsz : L.size = c.maxLocals) (w1 : (Cond.methodLink own idx Lib.objectInit).before a0 Z = true) (w2 : (Cond.instanceMethod Lib.objectInit).before a0 Z = true)
    (w3 : (Cond.code Lib.objectInit ⟨#[0xb1]⟩ 1 none).before a0 Z = true) (eT : T.heap = h) (hd : decode c.code pc = .ok (.invokespecial idx, 3)) (hW : (S.map fun v => v.category).sum ≤ Wd) (hf : 1 ≤ R.frames) (hl : Wd + 12 ≤ R.locals) :
    ∃ T', Stand p l e R s m args below meth c T' locs cells slots ∧ T'.heap = h ∧ Go p e below m W T' (pc + 3) L S := by
  obtain ⟨T', X', e', st⟩ := Jvm.RoadKit.initO X hx hZ hown w1 w2 w3 eT (g := mkF m pc L (.ref a :: S)) rfl hsz rfl hd hf (W := Wd) (by show 2 * 0 + _ ≤ _; rw [Nat.mul_zero, Nat.zero_add]; exact hW) hl
  exact ⟨T', X', e', fun t kt => k t (st t kt)⟩
theorem Go.virtB {own C : String} {index : Nat} {y z : MethodName} {Wd cells' slots' : Nat} {b : Addr} {argsL rest : List Value} {Q : Option Value → Heap → List Loc → Prop} {as' : Array Value} {ps : List FieldType} {r : Option FieldType} {rc rs : Nat}
    (k : Go p e below m W T pc L S) (X : Stand p l e R s m args below meth c T locs cells slots) (hx : p.tables.exec = Jvm.exec) (hZ : Z.Warmed39 s.vm) (hown : s.vm.findClass own = some m.cls) (hsz : L.size = c.maxLocals)
    (w1 : (Cond.methodLink own index y).before a0 Z = true) (w2 : (Cond.declares y).before a0 Z = true) (hnf : NotFace s y) (w3 : (Cond.selects C y z).before a0 Z = true) (w4 : (Cond.instanceMethod z).before a0 Z = true) (hd : decode c.code pc = .ok (.invokevirtual index, 3)) (hy : y.cls ≠ "java/lang/invoke/MethodHandle" ∧ y.cls ≠ "java/lang/invoke/VarHandle")
    (hK : Back l R p e below s args z 3 Wd (fun A a => a = as' ∧ A.U.heap = h ∧ A.cells + rc ≤ R.cells ∧ A.slots + rs ≤ R.slots) (fun A _ v B => ∃ L, Q v B.U.heap L ∧ B.locs = A.locs ++ L ∧ B.cells = A.cells + rc ∧ B.slots = A.slots + rs))
    (eT : T.heap = h) (E : Exa Z h b C) (hs : S = argsL.reverse ++ .ref b :: rest) (ha : (.ref b :: argsL).toArray = as') (hp : parseMethodDescriptor y.desc = some ⟨ps, r⟩) (hlen : argsL.length = ps.length) (hW : (rest.map fun v => v.category).sum ≤ Wd) (h1 : cells + rc = cells') (h2 : slots + rs = slots') (h3 : cells' ≤ R.cells) (h4 : slots' ≤ R.slots) :
    ∃ T' v L', Stand p l e R s m args below meth c T' (locs ++ L') cells' slots' ∧ Q v T'.heap L' ∧ Go p e below m W T' (pc + 3) L (v.toList ++ rest) := by
  subst hs h1 h2
  obtain ⟨cq, kq, qa, qb, qc⟩ := isOf hZ eT E
  obtain ⟨v, _, ⟨T', L', k', n'⟩, -, X', ⟨Lc, hQ, l1, y1, z1⟩, st⟩ := X.virtualBack hx (y := y) (z := z) hown (mvT hZ w1) (mvT hZ w2) hnf (mvT hZ w3) (mvT hZ w4) hy hK qa qc (g := mkF m pc L (argsL.reverse ++ .ref b :: rest)) rfl hsz (Steps.refl _) (argsL := argsL) (rest := rest) (lenOf hp hlen) rfl (by show 2 * 0 + _ ≤ _; rw [Nat.mul_zero, Nat.zero_add]; exact hW) hd (fun _ _ => ⟨ha, eT, h3, h4⟩)
  dsimp only [Pt.U, Pt.locs, Pt.cells, Pt.slots] at X' l1 y1 z1 st hQ
  subst l1 y1 z1
  exact ⟨T', v, Lc, X', hQ, fun t kt => k t (st.trans kt)⟩
theorem Go.virt {own C : String} {index : Nat} {y z : MethodName} {Wd cells' slots' : Nat} {b : Addr} {argsL rest : List Value} {Q : Option Value → Heap → List Loc → Prop} {as' : Array Value} {ps : List FieldType} {r : Option FieldType} {bytes : ByteArray} {maxL : Nat} {ret : Option FieldType} {rm : Room}
    (k : Go p e below m W T pc L S) (X : Stand p l e R s m args below meth c T locs cells slots) (hx : p.tables.exec = Jvm.exec) (hZ : Z.Warmed39 s.vm) (hown : s.vm.findClass own = some m.cls) (hsz : L.size = c.maxLocals)
    (w1 : (Cond.methodLink own index y).before a0 Z = true) (w2 : (Cond.declares y).before a0 Z = true) (hnf : NotFace s y) (w3 : (Cond.selects C y z).before a0 Z = true) (w4 : (Cond.instanceMethod z).before a0 Z = true) (wc : (Cond.code z bytes maxL ret).before a0 Z = true) (wz : (Cond.initialized z.cls).before a0 Z = true) (hd : decode c.code pc = .ok (.invokevirtual index, 3)) (hy : y.cls ≠ "java/lang/invoke/MethodHandle" ∧ y.cls ≠ "java/lang/invoke/VarHandle")
    (hM : MetFree l z (head1 [Cond.code z bytes maxL ret] rm) (fun a U => a = as' ∧ Z.Warmed39 U.vm ∧ U.heap = h) (fun _ _ _ _ _ => True) (fun _ U o U' => ∃ v L, o = .returned v ∧ Q v U'.heap L ∧ FrameEnd U o U' L rm.cells rm.slots))
    (eT : T.heap = h) (E : Exa Z h b C) (hs : S = argsL.reverse ++ .ref b :: rest) (ha : (.ref b :: argsL).toArray = as') (hp : parseMethodDescriptor y.desc = some ⟨ps, r⟩) (hlen : argsL.length = ps.length) (hW : (rest.map fun v => v.category).sum ≤ Wd) (hf : rm.frames + 1 ≤ R.frames) (hl : Wd + (maxL + 11) + rm.locals ≤ R.locals) (h1 : cells + rm.cells = cells') (h2 : slots + rm.slots = slots') (h3 : cells' ≤ R.cells) (h4 : slots' ≤ R.slots) :
    ∃ T' v L', Stand p l e R s m args below meth c T' (locs ++ L') cells' slots' ∧ Q v T'.heap L' ∧ Go p e below m W T' (pc + 3) L (v.toList ++ rest) :=
  Go.virtB (Wd := Wd) k X hx hZ hown hsz w1 w2 hnf w3 w4 hd hy (backOf (W := Wd) hM hZ wc wz hf hl) eT E hs ha hp hlen hW h1 h2 h3 h4
theorem Go.virtUpB {own C owner : String} {index : Nat} {y z : MethodName} {Wd cells' slots' : Nat} {b : Addr} {argsL rest : List Value} {Q : Option Value → Heap → List Loc → Prop} {as' : Array Value} {ps : List FieldType} {r : Option FieldType} {rc rs : Nat}
    (k : Go p e below m W T pc L S) (X : Stand p l e R s m args below meth c T locs cells slots) (hx : p.tables.exec = Jvm.exec) (hZ : Z.Warmed39 s.vm) (hown : s.vm.findClass own = some m.cls) (hsz : L.size = c.maxLocals)
    (w1 : (Cond.methodLink own index y).before a0 Z = true) (w2 : (Cond.sameMethod y.cls owner y.name y.desc).before a0 Z = true) (w5 : (Cond.declares ⟨owner, y.name, y.desc⟩).before a0 Z = true) (w3 : (Cond.selects C y z).before a0 Z = true) (w4 : (Cond.instanceMethod z).before a0 Z = true) (hd : decode c.code pc = .ok (.invokevirtual index, 3)) (hy : owner ≠ "java/lang/invoke/MethodHandle" ∧ owner ≠ "java/lang/invoke/VarHandle")
    (hK : Back l R p e below s args z 3 Wd (fun A a => a = as' ∧ A.U.heap = h ∧ A.cells + rc ≤ R.cells ∧ A.slots + rs ≤ R.slots) (fun A _ v B => ∃ L, Q v B.U.heap L ∧ B.locs = A.locs ++ L ∧ B.cells = A.cells + rc ∧ B.slots = A.slots + rs))
    (eT : T.heap = h) (E : Exa Z h b C) (hs : S = argsL.reverse ++ .ref b :: rest) (ha : (.ref b :: argsL).toArray = as') (hp : parseMethodDescriptor y.desc = some ⟨ps, r⟩) (hlen : argsL.length = ps.length) (hW : (rest.map fun v => v.category).sum ≤ Wd) (h1 : cells + rc = cells') (h2 : slots + rs = slots') (h3 : cells' ≤ R.cells) (h4 : slots' ≤ R.slots) :
    ∃ T' v L', Stand p l e R s m args below meth c T' (locs ++ L') cells' slots' ∧ Q v T'.heap L' ∧ Go p e below m W T' (pc + 3) L (v.toList ++ rest) := by
  subst hs h1 h2
  obtain ⟨cq, kq, qa, qb, qc⟩ := isOf hZ eT E
  obtain ⟨v, _, ⟨T', L', k', n'⟩, -, X', ⟨Lc, hQ, l1, y1, z1⟩, st⟩ := X.virtualBackUp hx (x := y) (y := z) (owner := owner) hown (mvT hZ w1) (mvT hZ w2) (mvT hZ w5) hy (mvT hZ w3) (mvT hZ w4) hK qa qc (g := mkF m pc L (argsL.reverse ++ .ref b :: rest)) rfl hsz (Steps.refl _) (argsL := argsL) (rest := rest) (lenOf hp hlen) rfl (by show 2 * 0 + _ ≤ _; rw [Nat.mul_zero, Nat.zero_add]; exact hW) hd (fun _ _ => ⟨ha, eT, h3, h4⟩)
  dsimp only [Pt.U, Pt.locs, Pt.cells, Pt.slots] at X' l1 y1 z1 st hQ
  subst l1 y1 z1
  exact ⟨T', v, Lc, X', hQ, fun t kt => k t (st.trans kt)⟩
theorem Go.virtUp {own C owner : String} {index : Nat} {y z : MethodName} {Wd cells' slots' : Nat} {b : Addr} {argsL rest : List Value} {Q : Option Value → Heap → List Loc → Prop} {as' : Array Value} {ps : List FieldType} {r : Option FieldType} {bytes : ByteArray} {maxL : Nat} {ret : Option FieldType} {rm : Room}
    (k : Go p e below m W T pc L S) (X : Stand p l e R s m args below meth c T locs cells slots) (hx : p.tables.exec = Jvm.exec) (hZ : Z.Warmed39 s.vm) (hown : s.vm.findClass own = some m.cls) (hsz : L.size = c.maxLocals)
    (w1 : (Cond.methodLink own index y).before a0 Z = true) (w2 : (Cond.sameMethod y.cls owner y.name y.desc).before a0 Z = true) (w5 : (Cond.declares ⟨owner, y.name, y.desc⟩).before a0 Z = true) (w3 : (Cond.selects C y z).before a0 Z = true) (w4 : (Cond.instanceMethod z).before a0 Z = true) (wc : (Cond.code z bytes maxL ret).before a0 Z = true) (wz : (Cond.initialized z.cls).before a0 Z = true) (hd : decode c.code pc = .ok (.invokevirtual index, 3)) (hy : owner ≠ "java/lang/invoke/MethodHandle" ∧ owner ≠ "java/lang/invoke/VarHandle")
    (hM : MetFree l z (head1 [Cond.code z bytes maxL ret] rm) (fun a U => a = as' ∧ Z.Warmed39 U.vm ∧ U.heap = h) (fun _ _ _ _ _ => True) (fun _ U o U' => ∃ v L, o = .returned v ∧ Q v U'.heap L ∧ FrameEnd U o U' L rm.cells rm.slots))
    (eT : T.heap = h) (E : Exa Z h b C) (hs : S = argsL.reverse ++ .ref b :: rest) (ha : (.ref b :: argsL).toArray = as') (hp : parseMethodDescriptor y.desc = some ⟨ps, r⟩) (hlen : argsL.length = ps.length) (hW : (rest.map fun v => v.category).sum ≤ Wd) (hf : rm.frames + 1 ≤ R.frames) (hl : Wd + (maxL + 11) + rm.locals ≤ R.locals) (h1 : cells + rm.cells = cells') (h2 : slots + rm.slots = slots') (h3 : cells' ≤ R.cells) (h4 : slots' ≤ R.slots) :
    ∃ T' v L', Stand p l e R s m args below meth c T' (locs ++ L') cells' slots' ∧ Q v T'.heap L' ∧ Go p e below m W T' (pc + 3) L (v.toList ++ rest) :=
  Go.virtUpB (Wd := Wd) (owner := owner) k X hx hZ hown hsz w1 w2 w5 w3 w4 hd hy (backOf (W := Wd) hM hZ wc wz hf hl) eT E hs ha hp hlen hW h1 h2 h3 h4
theorem Go.ifaceB {own C : String} {index count : Nat} {y z : MethodName} {Wd cells' slots' : Nat} {b : Addr} {argsL rest : List Value} {Q : Option Value → Heap → List Loc → Prop} {as' : Array Value} {ps : List FieldType} {r : Option FieldType} {rc rs : Nat}
    (k : Go p e below m W T pc L S) (X : Stand p l e R s m args below meth c T locs cells slots) (hx : p.tables.exec = Jvm.exec) (hZ : Z.Warmed39 s.vm) (hown : s.vm.findClass own = some m.cls) (hsz : L.size = c.maxLocals)
    (w1 : (Cond.methodLink own index y).before a0 Z = true) (w2 : (Cond.declares y).before a0 Z = true) (w5 : (Cond.interfaceMethod y.cls y.cls y.name y.desc).before args s = true) (w3 : (Cond.selects C y z).before a0 Z = true) (w4 : (Cond.instanceMethod z).before a0 Z = true) (w6 : (Cond.publicMethod z).before a0 Z = true) (w7 : (Cond.unhidden C y.name y.desc).before a0 Z = true) (w8 : (Cond.castable C y.cls).before a0 Z = true) (hd : decode c.code pc = .ok (.invokeinterface index count, 5)) (hy : y.cls ≠ "java/lang/invoke/MethodHandle" ∧ y.cls ≠ "java/lang/invoke/VarHandle")
    (hK : Back l R p e below s args z 5 Wd (fun A a => a = as' ∧ A.U.heap = h ∧ A.cells + rc ≤ R.cells ∧ A.slots + rs ≤ R.slots) (fun A _ v B => ∃ L, Q v B.U.heap L ∧ B.locs = A.locs ++ L ∧ B.cells = A.cells + rc ∧ B.slots = A.slots + rs))
    (eT : T.heap = h) (E : Exa Z h b C) (hs : S = argsL.reverse ++ .ref b :: rest) (ha : (.ref b :: argsL).toArray = as') (hp : parseMethodDescriptor y.desc = some ⟨ps, r⟩) (hlen : argsL.length = ps.length) (hW : (rest.map fun v => v.category).sum ≤ Wd) (h1 : cells + rc = cells') (h2 : slots + rs = slots') (h3 : cells' ≤ R.cells) (h4 : slots' ≤ R.slots) :
    ∃ T' v L', Stand p l e R s m args below meth c T' (locs ++ L') cells' slots' ∧ Q v T'.heap L' ∧ Go p e below m W T' (pc + 5) L (v.toList ++ rest) := by
  subst hs h1 h2
  obtain ⟨cq, kq, qa, qb, qc⟩ := isOf hZ eT E
  obtain ⟨v, _, ⟨T', L', k', n'⟩, -, X', ⟨Lc, hQ, l1, y1, z1⟩, st⟩ := X.interfaceBack hx (xi := y) (y := z) (count := count) hown (mvT hZ w1) (mvT hZ w2) w5 (mvT hZ w3) (mvT hZ w4) (mvT hZ w6) (mvT hZ w7) (mvT hZ w8) hy hK qa qb qc (g := mkF m pc L (argsL.reverse ++ .ref b :: rest)) rfl hsz (Steps.refl _) (argsL := argsL) (rest := rest) (lenOf hp hlen) rfl (by show 2 * 0 + _ ≤ _; rw [Nat.mul_zero, Nat.zero_add]; exact hW) hd (fun _ _ => ⟨ha, eT, h3, h4⟩)
  dsimp only [Pt.U, Pt.locs, Pt.cells, Pt.slots] at X' l1 y1 z1 st hQ
  subst l1 y1 z1
  exact ⟨T', v, Lc, X', hQ, fun t kt => k t (st.trans kt)⟩
theorem Go.iface {own C : String} {index count : Nat} {y z : MethodName} {Wd cells' slots' : Nat} {b : Addr} {argsL rest : List Value} {Q : Option Value → Heap → List Loc → Prop} {as' : Array Value} {ps : List FieldType} {r : Option FieldType} {bytes : ByteArray} {maxL : Nat} {ret : Option FieldType} {rm : Room}
    (k : Go p e below m W T pc L S) (X : Stand p l e R s m args below meth c T locs cells slots) (hx : p.tables.exec = Jvm.exec) (hZ : Z.Warmed39 s.vm) (hown : s.vm.findClass own = some m.cls) (hsz : L.size = c.maxLocals)
    (w1 : (Cond.methodLink own index y).before a0 Z = true) (w2 : (Cond.declares y).before a0 Z = true) (w5 : (Cond.interfaceMethod y.cls y.cls y.name y.desc).before args s = true) (w3 : (Cond.selects C y z).before a0 Z = true) (w4 : (Cond.instanceMethod z).before a0 Z = true) (w6 : (Cond.publicMethod z).before a0 Z = true) (w7 : (Cond.unhidden C y.name y.desc).before a0 Z = true) (w8 : (Cond.castable C y.cls).before a0 Z = true) (wc : (Cond.code z bytes maxL ret).before a0 Z = true) (wz : (Cond.initialized z.cls).before a0 Z = true) (hd : decode c.code pc = .ok (.invokeinterface index count, 5)) (hy : y.cls ≠ "java/lang/invoke/MethodHandle" ∧ y.cls ≠ "java/lang/invoke/VarHandle")
    (hM : MetFree l z (head1 [Cond.code z bytes maxL ret] rm) (fun a U => a = as' ∧ Z.Warmed39 U.vm ∧ U.heap = h) (fun _ _ _ _ _ => True) (fun _ U o U' => ∃ v L, o = .returned v ∧ Q v U'.heap L ∧ FrameEnd U o U' L rm.cells rm.slots))
    (eT : T.heap = h) (E : Exa Z h b C) (hs : S = argsL.reverse ++ .ref b :: rest) (ha : (.ref b :: argsL).toArray = as') (hp : parseMethodDescriptor y.desc = some ⟨ps, r⟩) (hlen : argsL.length = ps.length) (hW : (rest.map fun v => v.category).sum ≤ Wd) (hf : rm.frames + 1 ≤ R.frames) (hl : Wd + (maxL + 11) + rm.locals ≤ R.locals) (h1 : cells + rm.cells = cells') (h2 : slots + rm.slots = slots') (h3 : cells' ≤ R.cells) (h4 : slots' ≤ R.slots) :
    ∃ T' v L', Stand p l e R s m args below meth c T' (locs ++ L') cells' slots' ∧ Q v T'.heap L' ∧ Go p e below m W T' (pc + 5) L (v.toList ++ rest) :=
  Go.ifaceB (Wd := Wd) k X hx hZ hown hsz w1 w2 w5 w3 w4 w6 w7 w8 hd hy (backOf (W := Wd) hM hZ wc wz hf hl) eT E hs ha hp hlen hW h1 h2 h3 h4
theorem Go.specB {own : String} {index : Nat} {y : MethodName} {bytes : ByteArray} {maxL : Nat} {Wd cells' slots' : Nat} {b : Addr} {argsL rest : List Value} {Q : Option Value → Heap → List Loc → Prop} {as' : Array Value} {ps : List FieldType} {r : Option FieldType} {rc rs : Nat}
    (k : Go p e below m W T pc L S) (X : Stand p l e R s m args below meth c T locs cells slots) (hx : p.tables.exec = Jvm.exec) (hZ : Z.Warmed39 s.vm) (hown : s.vm.findClass own = some m.cls) (hsz : L.size = c.maxLocals)
    (hy1 : y.name = "<init>") (w1 : (Cond.methodLink own index y).before a0 Z = true) (w2 : (Cond.instanceMethod y).before a0 Z = true) (wc : (Cond.code y bytes maxL none).before a0 Z = true) (hd : decode c.code pc = .ok (.invokespecial index, 3)) (hy : y.cls ≠ "java/lang/invoke/MethodHandle" ∧ y.cls ≠ "java/lang/invoke/VarHandle")
    (hK : Back l R p e below s args y 3 Wd (fun A a => a = as' ∧ A.U.heap = h ∧ A.cells + rc ≤ R.cells ∧ A.slots + rs ≤ R.slots) (fun A _ v B => ∃ L, Q v B.U.heap L ∧ B.locs = A.locs ++ L ∧ B.cells = A.cells + rc ∧ B.slots = A.slots + rs))
    (eT : T.heap = h) (hs : S = argsL.reverse ++ .ref b :: rest) (ha : (.ref b :: argsL).toArray = as') (hp : parseMethodDescriptor y.desc = some ⟨ps, r⟩) (hlen : argsL.length = ps.length) (hW : (rest.map fun v => v.category).sum ≤ Wd) (h1 : cells + rc = cells') (h2 : slots + rs = slots') (h3 : cells' ≤ R.cells) (h4 : slots' ≤ R.slots) :
    ∃ T' v L', Stand p l e R s m args below meth c T' (locs ++ L') cells' slots' ∧ Q v T'.heap L' ∧ Go p e below m W T' (pc + 3) L (v.toList ++ rest) := by
  subst hs h1 h2
  obtain ⟨v, _, ⟨T', L', k', n'⟩, -, X', ⟨Lc, hQ, l1, y1, z1⟩, st⟩ := X.specialBack hx (y := y) hy1 hown (mvT hZ w1) (mvT hZ w2) (mvT hZ wc) hy hK (g := mkF m pc L (argsL.reverse ++ .ref b :: rest)) rfl hsz (Steps.refl _) (a := b) (argsL := argsL) (rest := rest) (lenOf hp hlen) rfl (by show 2 * 0 + _ ≤ _; rw [Nat.mul_zero, Nat.zero_add]; exact hW) hd (fun _ _ => ⟨ha, eT, h3, h4⟩)
  dsimp only [Pt.U, Pt.locs, Pt.cells, Pt.slots] at X' l1 y1 z1 st hQ
  subst l1 y1 z1
  exact ⟨T', v, Lc, X', hQ, fun t kt => k t (st.trans kt)⟩
theorem Go.spec {own : String} {index : Nat} {y : MethodName} {bytes : ByteArray} {maxL : Nat} {Wd cells' slots' : Nat} {b : Addr} {argsL rest : List Value} {Q : Option Value → Heap → List Loc → Prop} {as' : Array Value} {ps : List FieldType} {r : Option FieldType} {rm : Room}
    (k : Go p e below m W T pc L S) (X : Stand p l e R s m args below meth c T locs cells slots) (hx : p.tables.exec = Jvm.exec) (hZ : Z.Warmed39 s.vm) (hown : s.vm.findClass own = some m.cls) (hsz : L.size = c.maxLocals)
    (hy1 : y.name = "<init>") (w1 : (Cond.methodLink own index y).before a0 Z = true) (w2 : (Cond.instanceMethod y).before a0 Z = true)  (wc : (Cond.code y bytes maxL none).before a0 Z = true) (wz : (Cond.initialized y.cls).before a0 Z = true) (hd : decode c.code pc = .ok (.invokespecial index, 3)) (hy : y.cls ≠ "java/lang/invoke/MethodHandle" ∧ y.cls ≠ "java/lang/invoke/VarHandle")
    (hM : MetFree l y (head1 [Cond.code y bytes maxL none] rm) (fun a U => a = as' ∧ Z.Warmed39 U.vm ∧ U.heap = h) (fun _ _ _ _ _ => True) (fun _ U o U' => ∃ v L, o = .returned v ∧ Q v U'.heap L ∧ FrameEnd U o U' L rm.cells rm.slots))
    (eT : T.heap = h) (hs : S = argsL.reverse ++ .ref b :: rest) (ha : (.ref b :: argsL).toArray = as') (hp : parseMethodDescriptor y.desc = some ⟨ps, r⟩) (hlen : argsL.length = ps.length) (hW : (rest.map fun v => v.category).sum ≤ Wd) (hf : rm.frames + 1 ≤ R.frames) (hl : Wd + (maxL + 11) + rm.locals ≤ R.locals) (h1 : cells + rm.cells = cells') (h2 : slots + rm.slots = slots') (h3 : cells' ≤ R.cells) (h4 : slots' ≤ R.slots) :
    ∃ T' v L', Stand p l e R s m args below meth c T' (locs ++ L') cells' slots' ∧ Q v T'.heap L' ∧ Go p e below m W T' (pc + 3) L (v.toList ++ rest) :=
  Go.specB (Wd := Wd) k X hx hZ hown hsz hy1 w1 w2 wc hd hy (backOf (W := Wd) hM hZ wc wz hf hl) eT hs ha hp hlen hW h1 h2 h3 h4
theorem Go.statB {own : String} {index : Nat} {y : MethodName} {bytes : ByteArray} {maxL : Nat} {ret : Option FieldType} {Wd cells' slots' : Nat} {argsL rest : List Value} {Q : Option Value → Heap → List Loc → Prop} {as' : Array Value} {ps : List FieldType} {r : Option FieldType} {rc rs : Nat}
    (k : Go p e below m W T pc L S) (X : Stand p l e R s m args below meth c T locs cells slots) (hx : p.tables.exec = Jvm.exec) (hZ : Z.Warmed39 s.vm) (hown : s.vm.findClass own = some m.cls) (hsz : L.size = c.maxLocals)
    (w1 : (Cond.methodLink own index y).before a0 Z = true) (w2 : (Cond.static y).before a0 Z = true) (wc : (Cond.code y bytes maxL ret).before a0 Z = true) (wz : (Cond.initialized y.cls).before a0 Z = true) (hd : decode c.code pc = .ok (.invokestatic index, 3)) (hy : y.cls ≠ "java/lang/invoke/MethodHandle" ∧ y.cls ≠ "java/lang/invoke/VarHandle")
    (hK : Back l R p e below s args y 3 Wd (fun A a => a = as' ∧ A.U.heap = h ∧ A.cells + rc ≤ R.cells ∧ A.slots + rs ≤ R.slots) (fun A _ v B => ∃ L, Q v B.U.heap L ∧ B.locs = A.locs ++ L ∧ B.cells = A.cells + rc ∧ B.slots = A.slots + rs))
    (eT : T.heap = h) (hs : S = argsL.reverse ++ rest) (ha : argsL.toArray = as') (hp : parseMethodDescriptor y.desc = some ⟨ps, r⟩) (hlen : argsL.length = ps.length) (hW : (rest.map fun v => v.category).sum ≤ Wd) (h1 : cells + rc = cells') (h2 : slots + rs = slots') (h3 : cells' ≤ R.cells) (h4 : slots' ≤ R.slots) :
    ∃ T' v L', Stand p l e R s m args below meth c T' (locs ++ L') cells' slots' ∧ Q v T'.heap L' ∧ Go p e below m W T' (pc + 3) L (v.toList ++ rest) := by
  subst hs h1 h2
  obtain ⟨v, _, ⟨T', L', k', n'⟩, -, X', ⟨Lc, hQ, l1, y1, z1⟩, st⟩ := Jvm.LawKit.callS X hx (y := y) hown (mvT hZ w1) (mvT hZ w2) (mvT hZ wz) (mvT hZ wc) hy hK (g := mkF m pc L (argsL.reverse ++ rest)) rfl hsz (argsL := argsL) (rest := rest) (lenOf hp hlen) rfl (by show 2 * 0 + _ ≤ _; rw [Nat.mul_zero, Nat.zero_add]; exact hW) hd (fun _ _ => ⟨ha, eT, h3, h4⟩)
  dsimp only [Pt.U, Pt.locs, Pt.cells, Pt.slots] at X' l1 y1 z1 st hQ
  subst l1 y1 z1
  exact ⟨T', v, Lc, X', hQ, fun t kt => k t (st t kt)⟩
theorem Go.stat {own : String} {index : Nat} {y : MethodName} {bytes : ByteArray} {maxL : Nat} {ret : Option FieldType} {Wd cells' slots' : Nat} {argsL rest : List Value} {Q : Option Value → Heap → List Loc → Prop} {as' : Array Value} {ps : List FieldType} {r : Option FieldType} {rm : Room}
    (k : Go p e below m W T pc L S) (X : Stand p l e R s m args below meth c T locs cells slots) (hx : p.tables.exec = Jvm.exec) (hZ : Z.Warmed39 s.vm) (hown : s.vm.findClass own = some m.cls) (hsz : L.size = c.maxLocals)
    (w1 : (Cond.methodLink own index y).before a0 Z = true) (w2 : (Cond.static y).before a0 Z = true)  (wc : (Cond.code y bytes maxL ret).before a0 Z = true) (wz : (Cond.initialized y.cls).before a0 Z = true) (hd : decode c.code pc = .ok (.invokestatic index, 3)) (hy : y.cls ≠ "java/lang/invoke/MethodHandle" ∧ y.cls ≠ "java/lang/invoke/VarHandle")
    (hM : MetFree l y (head1 [Cond.code y bytes maxL ret] rm) (fun a U => a = as' ∧ Z.Warmed39 U.vm ∧ U.heap = h) (fun _ _ _ _ _ => True) (fun _ U o U' => ∃ v L, o = .returned v ∧ Q v U'.heap L ∧ FrameEnd U o U' L rm.cells rm.slots))
    (eT : T.heap = h) (hs : S = argsL.reverse ++ rest) (ha : argsL.toArray = as') (hp : parseMethodDescriptor y.desc = some ⟨ps, r⟩) (hlen : argsL.length = ps.length) (hW : (rest.map fun v => v.category).sum ≤ Wd) (hf : rm.frames + 1 ≤ R.frames) (hl : Wd + (maxL + 11) + rm.locals ≤ R.locals) (h1 : cells + rm.cells = cells') (h2 : slots + rm.slots = slots') (h3 : cells' ≤ R.cells) (h4 : slots' ≤ R.slots) :
    ∃ T' v L', Stand p l e R s m args below meth c T' (locs ++ L') cells' slots' ∧ Q v T'.heap L' ∧ Go p e below m W T' (pc + 3) L (v.toList ++ rest) :=
  Go.statB (Wd := Wd) k X hx hZ hown hsz w1 w2 wc wz hd hy (backOf (W := Wd) hM hZ wc wz hf hl) eT hs ha hp hlen hW h1 h2 h3 h4
theorem Go.privB {own C : String} {index : Nat} {y : MethodName} {bytes : ByteArray} {maxL : Nat} {ret : Option FieldType} {Wd cells' slots' : Nat} {b : Addr} {argsL rest : List Value} {Q : Option Value → Heap → List Loc → Prop} {as' : Array Value} {ps : List FieldType} {r : Option FieldType} {rc rs : Nat}
    (k : Go p e below m W T pc L S) (X : Stand p l e R s m args below meth c T locs cells slots) (hx : p.tables.exec = Jvm.exec) (hZ : Z.Warmed39 s.vm) (hown : s.vm.findClass own = some m.cls) (hsz : L.size = c.maxLocals)
    (w1 : (Cond.methodLink own index y).before a0 Z = true) (w2 : (Cond.instanceMethod y).before a0 Z = true) (w3 : (Cond.selects y.cls y y).before a0 Z = true) (w4 : (Cond.privateMethod y).before a0 Z = true) (wc : (Cond.code y bytes maxL ret).before a0 Z = true)
    (hd : decode c.code pc = .ok (.invokevirtual index, 3)) (hy : y.cls ≠ "java/lang/invoke/MethodHandle" ∧ y.cls ≠ "java/lang/invoke/VarHandle")
    (hK : Back l R p e below s args y 3 Wd (fun A a => a = as' ∧ A.U.heap = h ∧ A.cells + rc ≤ R.cells ∧ A.slots + rs ≤ R.slots) (fun A _ v B => ∃ L, Q v B.U.heap L ∧ B.locs = A.locs ++ L ∧ B.cells = A.cells + rc ∧ B.slots = A.slots + rs))
    (eT : T.heap = h) (E : Exa Z h b C) (hs : S = argsL.reverse ++ .ref b :: rest) (ha : (.ref b :: argsL).toArray = as') (hp : parseMethodDescriptor y.desc = some ⟨ps, r⟩) (hlen : argsL.length = ps.length) (hW : (rest.map fun v => v.category).sum ≤ Wd) (h1 : cells + rc = cells') (h2 : slots + rs = slots') (h3 : cells' ≤ R.cells) (h4 : slots' ≤ R.slots) :
    ∃ T' v L', Stand p l e R s m args below meth c T' (locs ++ L') cells' slots' ∧ Q v T'.heap L' ∧ Go p e below m W T' (pc + 3) L (v.toList ++ rest) := by
  subst hs h1 h2
  obtain ⟨cq, q1, q2⟩ := E.cell
  obtain ⟨v, _, ⟨T', L', k', n'⟩, -, X', ⟨Lc, hQ, l1, y1, z1⟩, st⟩ := X.privateBack hx (y := y) hown (mvT hZ w1) (mvT hZ w2) (mvT hZ w3) (Cond.privateMethod_at (mvP hZ w4 (args := #[]))) (mvT hZ wc) hy hK (g := mkF m pc L (argsL.reverse ++ .ref b :: rest)) rfl hsz (Steps.refl _) (a := b) (by rw [eT]; exact q1) q2 (argsL := argsL) (rest := rest) (lenOf hp hlen) rfl (by show 2 * 0 + _ ≤ _; rw [Nat.mul_zero, Nat.zero_add]; exact hW) hd (fun _ _ => ⟨ha, eT, h3, h4⟩)
  dsimp only [Pt.U, Pt.locs, Pt.cells, Pt.slots] at X' l1 y1 z1 st hQ
  subst l1 y1 z1
  exact ⟨T', v, Lc, X', hQ, fun t kt => k t (st.trans kt)⟩
theorem Go.priv {own C : String} {index : Nat} {y : MethodName} {bytes : ByteArray} {maxL : Nat} {ret : Option FieldType} {Wd cells' slots' : Nat} {b : Addr} {argsL rest : List Value} {Q : Option Value → Heap → List Loc → Prop} {as' : Array Value} {ps : List FieldType} {r : Option FieldType} {rm : Room}
    (k : Go p e below m W T pc L S) (X : Stand p l e R s m args below meth c T locs cells slots) (hx : p.tables.exec = Jvm.exec) (hZ : Z.Warmed39 s.vm) (hown : s.vm.findClass own = some m.cls) (hsz : L.size = c.maxLocals)
    (w1 : (Cond.methodLink own index y).before a0 Z = true) (w2 : (Cond.instanceMethod y).before a0 Z = true) (w3 : (Cond.selects y.cls y y).before a0 Z = true) (w4 : (Cond.privateMethod y).before a0 Z = true) (wc : (Cond.code y bytes maxL ret).before a0 Z = true) (wz : (Cond.initialized y.cls).before a0 Z = true)
    (hd : decode c.code pc = .ok (.invokevirtual index, 3)) (hy : y.cls ≠ "java/lang/invoke/MethodHandle" ∧ y.cls ≠ "java/lang/invoke/VarHandle")
    (hM : MetFree l y (head1 [Cond.code y bytes maxL ret] rm) (fun a U => a = as' ∧ Z.Warmed39 U.vm ∧ U.heap = h) (fun _ _ _ _ _ => True) (fun _ U o U' => ∃ v L, o = .returned v ∧ Q v U'.heap L ∧ FrameEnd U o U' L rm.cells rm.slots))
    (eT : T.heap = h) (E : Exa Z h b C) (hs : S = argsL.reverse ++ .ref b :: rest) (ha : (.ref b :: argsL).toArray = as') (hp : parseMethodDescriptor y.desc = some ⟨ps, r⟩) (hlen : argsL.length = ps.length) (hW : (rest.map fun v => v.category).sum ≤ Wd) (hf : rm.frames + 1 ≤ R.frames) (hl : Wd + (maxL + 11) + rm.locals ≤ R.locals) (h1 : cells + rm.cells = cells') (h2 : slots + rm.slots = slots') (h3 : cells' ≤ R.cells) (h4 : slots' ≤ R.slots) :
    ∃ T' v L', Stand p l e R s m args below meth c T' (locs ++ L') cells' slots' ∧ Q v T'.heap L' ∧ Go p e below m W T' (pc + 3) L (v.toList ++ rest) :=
  Go.privB (Wd := Wd) k X hx hZ hown hsz w1 w2 w3 w4 wc hd hy (backOf (W := Wd) hM hZ wc wz hf hl) eT E hs ha hp hlen hW h1 h2 h3 h4
theorem Go.castY {own K : String} {index : Nat} {a : Addr} (k : Go p e below m W T pc L (.ref a :: S)) (X : Stand p l e R s m args below meth c T locs cells slots) (hx : p.tables.exec = Jvm.exec) (hZ : Z.Warmed39 s.vm) (hown : s.vm.findClass own = some m.cls) (w : (Cond.classLink own index K).before a0 Z = true) (eT : T.heap = h) (F : Ins Z h a K true) (hd : decode c.code pc = .ok (.checkcast index, 3)) :
    ∃ T', Stand p l e R s m args below meth c T' locs cells slots ∧ T'.heap = h ∧ Go p e below m W T' (pc + 3) L (.ref a :: S) := by
  obtain ⟨T', X', e', st⟩ := Jvm.RoadKit.castY X hx hZ hown w eT F (g := mkF m pc L (.ref a :: S)) rfl rfl hd
  exact ⟨T', X', e', fun t kt => k t (st t kt)⟩
theorem Go.instY {own K : String} {index : Nat} {a : Addr} (k : Go p e below m W T pc L (.ref a :: S)) (X : Stand p l e R s m args below meth c T locs cells slots) (hx : p.tables.exec = Jvm.exec) (hZ : Z.Warmed39 s.vm) (hown : s.vm.findClass own = some m.cls) (w : (Cond.classLink own index K).before a0 Z = true) (eT : T.heap = h) (F : Ins Z h a K true) (hd : decode c.code pc = .ok (.instanceof index, 3)) :
    ∃ T', Stand p l e R s m args below meth c T' locs cells slots ∧ T'.heap = h ∧ Go p e below m W T' (pc + 3) L (.int 1 :: S) := by
  obtain ⟨T', X', e', st⟩ := Jvm.RoadKit.instY X hx hZ hown w eT F (g := mkF m pc L (.ref a :: S)) rfl rfl hd
  exact ⟨T', X', e', fun t kt => k t (st t kt)⟩
theorem Go.instNull {index : Nat} (k : Go p e below m W T pc L (.null :: S)) (X : Stand p l e R s m args below meth c T locs cells slots) (hx : p.tables.exec = Jvm.exec) (hd : decode c.code pc = .ok (.instanceof index, 3)) : Go p e below m W T (pc + 3) L (.int 0 :: S) := fun t kt => k t (X.instanceofNull hx (g := mkF m pc L (.null :: S)) rfl rfl hd t kt)
theorem Go.castNull {index : Nat} (k : Go p e below m W T pc L (.null :: S)) (X : Stand p l e R s m args below meth c T locs cells slots) (hx : p.tables.exec = Jvm.exec) (hd : decode c.code pc = .ok (.checkcast index, 3)) : Go p e below m W T (pc + 3) L (.null :: S) := fun t kt => k t (X.checkcastNull hx (g := mkF m pc L (.null :: S)) rfl rfl hd t kt)
theorem Go.cast {x y : Int32} (k : Go p e below m W T pc L (.int x :: S)) (q : x = y) : Go p e below m W T pc L (.int y :: S) := q ▸ k
theorem Go.castJ {x y : Int64} (k : Go p e below m W T pc L (.long x :: S)) (q : x = y) : Go p e below m W T pc L (.long y :: S) := q ▸ k
/-! the ways out of a body -/
abbrev Done (p : Program) (e : Env) (below : List Frame) (s W : State) (Q : Option Value → Heap → List Loc → Prop) (rc rs : Nat) : Prop :=
  ∃ s₂ o, Steps p.tables e below W s₂ ∧ s₂.status = .running ∧ Ended s₂ below o ∧ ∃ v L, o = .returned v ∧ Q v s₂.heap L ∧ FrameEnd s o s₂ L rc rs
theorem Go.ireturnN {t : FieldType} {x : Int32} {Q : Option Value → Heap → List Loc → Prop} {rc rs : Nat} (k : Go p e below m W T pc L (.int x :: S)) (X : Stand p l e R s m args below meth c T locs cells slots) (hx : p.tables.exec = Jvm.exec) (hret : meth.sig.returnType = some t) (ht : t = .boolean ∨ t = .byte ∨ t = .char ∨ t = .short) (hn : nar t x = x) (hd : decode c.code pc = .ok (.ireturn, 1)) (hlk : meth.locks = false) (hq : Q (some (.int x)) T.heap locs) (h1 : cells ≤ rc) (h2 : slots ≤ rs) : Done p e below s W Q rc rs := by
  obtain ⟨fs, hr, hrun, hended, hW, hsame⟩ := X.leave (v := some (.int x)) (fun q => by rw [hret] at q; cases q) hlk
  refine ⟨_, _, k _ (retN X hx hret ht hd (by rw [hn]; exact hr)), hrun, hended, _, _, rfl, hq, ⟨_, rfl⟩, hW, hsame.mono h1 h2⟩
theorem Go.ireturnI {x : Int32} {Q : Option Value → Heap → List Loc → Prop} {rc rs : Nat} (k : Go p e below m W T pc L (.int x :: S)) (X : Stand p l e R s m args below meth c T locs cells slots) (hx : p.tables.exec = Jvm.exec) (hret : meth.sig.returnType = some .int) (hd : decode c.code pc = .ok (.ireturn, 1)) (hlk : meth.locks = false) (hq : Q (some (.int x)) T.heap locs) (h1 : cells ≤ rc) (h2 : slots ≤ rs) : Done p e below s W Q rc rs := by
  obtain ⟨fs, hr, hrun, hended, hW, hsame⟩ := X.leave (v := some (.int x)) (fun q => by rw [hret] at q; cases q) hlk
  refine ⟨_, _, k _ (retI X hx hret hd hr), hrun, hended, _, _, rfl, hq, ⟨_, rfl⟩, hW, hsame.mono h1 h2⟩
theorem Go.return_ {Q : Option Value → Heap → List Loc → Prop} {rc rs : Nat} (k : Go p e below m W T pc L []) (X : Stand p l e R s m args below meth c T locs cells slots) (hx : p.tables.exec = Jvm.exec) (hret : meth.sig.returnType = none) (hd : decode c.code pc = .ok (.return_, 1)) (hlk : meth.locks = false) (hq : Q none T.heap locs) (h1 : cells ≤ rc) (h2 : slots ≤ rs) : Done p e below s W Q rc rs := by
  obtain ⟨fs, hr, hrun, hended, hW, hsame⟩ := X.leave (v := none) (fun _ => rfl) hlk
  refine ⟨_, _, k _ (X.returnOut hx hret hd hr), hrun, hended, _, _, rfl, hq, ⟨_, rfl⟩, hW, hsame.mono h1 h2⟩
theorem Go.areturn {t : FieldType} {v : Value} {Q : Option Value → Heap → List Loc → Prop} {rc rs : Nat} (k : Go p e below m W T pc L (v :: S)) (X : Stand p l e R s m args below meth c T locs cells slots) (hx : p.tables.exec = Jvm.exec) (hret : meth.sig.returnType = some t) (ht : t.isReference = true) (hv : v.isRef = true) (hd : decode c.code pc = .ok (.areturn, 1)) (hlk : meth.locks = false) (hq : Q (some v) T.heap locs) (h1 : cells ≤ rc) (h2 : slots ≤ rs) : Done p e below s W Q rc rs := by
  obtain ⟨fs, hr, hrun, hended, hW, hsame⟩ := X.leave (v := some v) (fun q => by rw [hret] at q; cases q) hlk
  refine ⟨_, _, k _ ?_, hrun, hended, _, _, rfl, hq, ⟨_, rfl⟩, hW, hsame.mono h1 h2⟩
  jvm_step X.here [X.here.top, hx, hd, X.method', hret, hv, ht]
  first | (intro acts; rw [hr _ acts rfl rfl rfl]) | rw [hr _ _ rfl rfl rfl]
  exact Steps.refl _

theorem own_in {cl : Cell} {z j : Int32} {i n : Nat} (S1 : cl.slots.size = z.toNatClampNeg) (hz : z.toNatClampNeg = n) (hj : j.toNatClampNeg = i) (hj0 : ¬ j < 0) (hi : i < n) : ¬ (j < 0 ∨ cl.slots.size ≤ j.toNatClampNeg) := by
  intro q
  rcases q with q | q
  · exact hj0 q
  · rw [S1, hz, hj] at q; omega

theorem Go.iastore {a : Addr} {kc : ClassId} {z j : Int32} {vs : List Value} {d : Value} {i : Nat} {n0 : Nat} {x : Int32} (k : Go p e below m W T pc L (.int x :: .int j :: .ref a :: S)) (X : Stand p l e R s m args below meth c T locs cells slots) (hx : p.tables.exec = Jvm.exec) (hZ : Z.Warmed39 s.vm) (eT : T.heap = h) (Va : Arv Z h a kc .int z vs d) (hz : z.toNatClampNeg = vs.length) (hj : j.toNatClampNeg = i) (hj0 : ¬ j < 0) (hi : i < vs.length) (N : Fr n0 locs) (g0 : n0 ≤ a) (hd : decode c.code pc = .ok (.iastore, 1)) :
    ∃ T' h' locs', Stand p l e R s m args below meth c T' locs' cells slots ∧ T'.heap = h' ∧ Wr h h' a j.toNatClampNeg (.int x) ∧ Arv Z h' a kc .int z (vs.set i (.int x)) d ∧ Fr n0 locs' ∧ Go p e below m W T' (pc + 1) L S := by
  obtain ⟨cl, A, q1, S1, q3, H, G⟩ := Va
  have hin := own_in S1 hz hj hj0 hi
  obtain ⟨T', h', X', e', W', st⟩ := Jvm.RoadKit.stI X hx hZ eT A hin (g := mkF m pc L (.int x :: .int j :: .ref a :: S)) rfl rfl hd
  exact ⟨T', h', _, X', e', W', Arv.set A q1 S1 q3 H G rfl W' i hj hi, Fr.snoc X' N g0, fun t kt => k t (st t kt)⟩

theorem Go.lastore {a : Addr} {kc : ClassId} {z j : Int32} {vs : List Value} {d : Value} {i : Nat} {n0 : Nat} {x : Int64} (k : Go p e below m W T pc L (.long x :: .int j :: .ref a :: S)) (X : Stand p l e R s m args below meth c T locs cells slots) (hx : p.tables.exec = Jvm.exec) (hZ : Z.Warmed39 s.vm) (eT : T.heap = h) (Va : Arv Z h a kc .long z vs d) (hz : z.toNatClampNeg = vs.length) (hj : j.toNatClampNeg = i) (hj0 : ¬ j < 0) (hi : i < vs.length) (N : Fr n0 locs) (g0 : n0 ≤ a) (hd : decode c.code pc = .ok (.lastore, 1)) :
    ∃ T' h' locs', Stand p l e R s m args below meth c T' locs' cells slots ∧ T'.heap = h' ∧ Wr h h' a j.toNatClampNeg (.long x) ∧ Arv Z h' a kc .long z (vs.set i (.long x)) d ∧ Fr n0 locs' ∧ Go p e below m W T' (pc + 1) L S := by
  obtain ⟨cl, A, q1, S1, q3, H, G⟩ := Va
  have hin := own_in S1 hz hj hj0 hi
  obtain ⟨T', h', X', e', W', st⟩ := Jvm.RoadKit.stJ X hx hZ eT A hin (g := mkF m pc L (.long x :: .int j :: .ref a :: S)) rfl rfl hd
  exact ⟨T', h', _, X', e', W', Arv.set A q1 S1 q3 H G rfl W' i hj hi, Fr.snoc X' N g0, fun t kt => k t (st t kt)⟩

theorem Go.castore {a : Addr} {kc : ClassId} {z j : Int32} {vs : List Value} {d : Value} {i : Nat} {n0 : Nat} {x : Int32} (k : Go p e below m W T pc L (.int x :: .int j :: .ref a :: S)) (X : Stand p l e R s m args below meth c T locs cells slots) (hx : p.tables.exec = Jvm.exec) (hZ : Z.Warmed39 s.vm) (eT : T.heap = h) (Va : Arv Z h a kc .char z vs d) (hz : z.toNatClampNeg = vs.length) (hj : j.toNatClampNeg = i) (hj0 : ¬ j < 0) (hi : i < vs.length) (N : Fr n0 locs) (g0 : n0 ≤ a) (hd : decode c.code pc = .ok (.castore, 1)) :
    ∃ T' h' locs', Stand p l e R s m args below meth c T' locs' cells slots ∧ T'.heap = h' ∧ Wr h h' a j.toNatClampNeg (.int (nar .char x)) ∧ Arv Z h' a kc .char z (vs.set i (.int (nar .char x))) d ∧ Fr n0 locs' ∧ Go p e below m W T' (pc + 1) L S := by
  obtain ⟨cl, A, q1, S1, q3, H, G⟩ := Va
  have hin := own_in S1 hz hj hj0 hi
  obtain ⟨T', h', X', e', W', st⟩ := Jvm.RoadKit.stC X hx hZ eT A hin (g := mkF m pc L (.int x :: .int j :: .ref a :: S)) rfl rfl hd
  exact ⟨T', h', _, X', e', W', Arv.set A q1 S1 q3 H G (fits_nar_char x) W' i hj hi, Fr.snoc X' N g0, fun t kt => k t (st t kt)⟩

theorem Go.bastore {a : Addr} {kc : ClassId} {z j : Int32} {vs : List Value} {d : Value} {i : Nat} {n0 : Nat} {x : Int32} (k : Go p e below m W T pc L (.int x :: .int j :: .ref a :: S)) (X : Stand p l e R s m args below meth c T locs cells slots) (hx : p.tables.exec = Jvm.exec) (hZ : Z.Warmed39 s.vm) (eT : T.heap = h) (Va : Arv Z h a kc .byte z vs d) (hz : z.toNatClampNeg = vs.length) (hj : j.toNatClampNeg = i) (hj0 : ¬ j < 0) (hi : i < vs.length) (N : Fr n0 locs) (g0 : n0 ≤ a) (hd : decode c.code pc = .ok (.bastore, 1)) :
    ∃ T' h' locs', Stand p l e R s m args below meth c T' locs' cells slots ∧ T'.heap = h' ∧ Wr h h' a j.toNatClampNeg (.int (nar .byte x)) ∧ Arv Z h' a kc .byte z (vs.set i (.int (nar .byte x))) d ∧ Fr n0 locs' ∧ Go p e below m W T' (pc + 1) L S := by
  obtain ⟨cl, A, q1, S1, q3, H, G⟩ := Va
  have hin := own_in S1 hz hj hj0 hi
  obtain ⟨T', h', X', e', W', st⟩ := Jvm.RoadKit.stB X hx hZ eT A hin (g := mkF m pc L (.int x :: .int j :: .ref a :: S)) rfl rfl hd
  exact ⟨T', h', _, X', e', W', Arv.set A q1 S1 q3 H G (fits_nar_byte x) W' i hj hi, Fr.snoc X' N g0, fun t kt => k t (st t kt)⟩

theorem Go.aastore {a : Addr} {kc : ClassId} {C : String} {z j : Int32} {vs : List Value} {d v : Value} {i : Nat} {n0 : Nat} (k : Go p e below m W T pc L (v :: .int j :: .ref a :: S)) (X : Stand p l e R s m args below meth c T locs cells slots) (hx : p.tables.exec = Jvm.exec) (hZ : Z.Warmed39 s.vm) (eT : T.heap = h) (Va : Arv Z h a kc (.object C) z vs d) (O : Ovr Z kc C) (hv : v = .null ∨ ∃ y, v = .ref y ∧ Ins Z h y C true) (hz : z.toNatClampNeg = vs.length) (hj : j.toNatClampNeg = i) (hj0 : ¬ j < 0) (hi : i < vs.length) (N : Fr n0 locs) (g0 : n0 ≤ a) (hd : decode c.code pc = .ok (.aastore, 1)) :
    ∃ T' h' locs', Stand p l e R s m args below meth c T' locs' cells slots ∧ T'.heap = h' ∧ Wr h h' a j.toNatClampNeg v ∧ Arv Z h' a kc (.object C) z (vs.set i v) d ∧ Fr n0 locs' ∧ Go p e below m W T' (pc + 1) L S := by
  obtain ⟨cl, A, q1, S1, q3, H, G⟩ := Va
  have hin := own_in S1 hz hj hj0 hi
  have F : Sto Z h a v := by
    rcases hv with rfl | ⟨y, rfl, I⟩
    · exact Or.inl rfl
    · exact Sto.of A (q1 ▸ O) I
  have hf : fits (.object C) v = true := by rcases hv with rfl | ⟨y, rfl, I⟩ <;> rfl
  obtain ⟨T', h', X', e', W', st⟩ := Jvm.RoadKit.stR X hx hZ eT A hin rfl F (g := mkF m pc L (v :: .int j :: .ref a :: S)) rfl rfl hd
  exact ⟨T', h', _, X', e', W', Arv.set A q1 S1 q3 H G hf W' i hj hi, Fr.snoc X' N g0, fun t kt => k t (st t kt)⟩
theorem Go.newP {aty : ArrayType} {n : Int32} {cap cells' slots' : Nat} (k : Go p e below m W T pc L (.int n :: S)) (X : Stand p l e R s m args below meth c T locs cells slots) (hx : p.tables.exec = Jvm.exec) (hZ : Z.Warmed39 s.vm) (w : (Cond.arrayClass (newarray.typeOf aty)).before a0 Z = true) (eT : T.heap = h) (hd : decode c.code pc = .ok (.newarray aty, 2)) (hn : ¬ n < 0) (hcap : n.toNatClampNeg ≤ cap) (hb : cap * 8 ≤ 536870912) (h1 : cells + 1 = cells') (h2 : slots + cap = slots') (h3 : cells' ≤ R.cells) (h4 : slots' ≤ R.slots) :
    ∃ T' h' b kc, Stand p l e R s m args below meth c T' locs cells' slots' ∧ T'.heap = h' ∧ b = h.size ∧ Ext h h' ∧ (∀ len, Arv Z h' b kc (newarray.typeOf aty) n (List.replicate len (defaultValue (newarray.typeOf aty))) (defaultValue (newarray.typeOf aty))) ∧ Go p e below m W T' (pc + 2) L (.ref b :: S) := by
  subst h1 h2
  obtain ⟨T', h', kc, X', e', E', A', st⟩ := Jvm.RoadKit.newP X hx hZ w eT (g := mkF m pc L (.int n :: S)) rfl hd rfl hn hcap hb h3 h4
  exact ⟨T', h', _, kc, X', e', rfl, E', fun len => (Arv.new A' hn).pad (pad_rep [] _ len), fun t kt => k t (st t kt)⟩
theorem Go.newR {own C : String} {index : Nat} {n : Int32} {cap cells' slots' : Nat} (k : Go p e below m W T pc L (.int n :: S)) (X : Stand p l e R s m args below meth c T locs cells slots) (hx : p.tables.exec = Jvm.exec) (hZ : Z.Warmed39 s.vm) (hown : s.vm.findClass own = some m.cls) (w1 : (Cond.classLink own index C).before a0 Z = true) (w2 : (Cond.arrayOver (.object C)).before a0 Z = true) (eT : T.heap = h) (hd : decode c.code pc = .ok (.anewarray index, 3)) (hn : ¬ n < 0) (hcap : n.toNatClampNeg ≤ cap) (hb : cap * 8 ≤ 536870912) (h1 : cells + 1 = cells') (h2 : slots + cap = slots') (h3 : cells' ≤ R.cells) (h4 : slots' ≤ R.slots) :
    ∃ T' h' b kc, Stand p l e R s m args below meth c T' locs cells' slots' ∧ T'.heap = h' ∧ b = h.size ∧ Ext h h' ∧ (∀ len, Arv Z h' b kc (.object C) n (List.replicate len .null) .null) ∧ Ovr Z kc C ∧ Go p e below m W T' (pc + 3) L (.ref b :: S) := by
  subst h1 h2
  obtain ⟨T', h', kc, X', e', E', A', O', st⟩ := Jvm.RoadKit.newR X hx hZ hown w1 w2 eT (g := mkF m pc L (.int n :: S)) rfl hd rfl hn hcap hb h3 h4
  exact ⟨T', h', _, kc, X', e', rfl, E', fun len => (Arv.new A' hn).pad (pad_rep [] _ len), O', fun t kt => k t (st t kt)⟩
theorem Go.arraylength {a : Addr} {kc : ClassId} {ty : FieldType} {z : Int32} {vs : List Value} {d : Value} (k : Go p e below m W T pc L (.ref a :: S)) (X : Stand p l e R s m args below meth c T locs cells slots) (hx : p.tables.exec = Jvm.exec) (hZ : Z.Warmed39 s.vm) (eT : T.heap = h) (Va : Arv Z h a kc ty z vs d) (hd : decode c.code pc = .ok (.arraylength, 1)) : Go p e below m W T (pc + 1) L (.int z :: S) := by
  obtain ⟨cl, A, q1, S1, q3, H, G⟩ := Va
  intro t kt
  refine k t (X.arraylength hx (cell := cl) (by rw [eT]; exact A.1) (State.isArrayOf_alike hZ.alike A.2.1) (g := mkF m pc L (.ref a :: S)) rfl (rest := S) rfl hd t ?_)
  rw [len_of S1 q3]
  exact kt

theorem Go.iaload {a : Addr} {kc : ClassId} {z j : Int32} {vs : List Value} {d v : Value} {i n : Nat}  (k : Go p e below m W T pc L (.int j :: .ref a :: S)) (X : Stand p l e R s m args below meth c T locs cells slots) (hx : p.tables.exec = Jvm.exec) (hZ : Z.Warmed39 s.vm) (eT : T.heap = h) (Va : Arv Z h a kc .int z vs d) (hz : z.toNatClampNeg = n) (hj : j.toNatClampNeg = i) (hj0 : ¬ j < 0) (hi : i < n) (hv : vs.getD i d = v) (hd : decode c.code pc = .ok (.iaload, 1)) : Go p e below m W T (pc + 1) L (v :: S) := by
  obtain ⟨cl, A, q1, S1, q3, H, G⟩ := Va
  have hin := own_in S1 hz hj hj0 hi
  subst hj
  exact fun t kt => k t (X.iaload hx (j := j) (v := v) (by rw [eT]; exact A.1) (State.isArrayOf_alike hZ.alike A.2.1) A.2.2 hin (Has.at H hin hv) (g := mkF m pc L (.int j :: .ref a :: S)) rfl rfl hd t kt)

theorem Go.laload {a : Addr} {kc : ClassId} {z j : Int32} {vs : List Value} {d v : Value} {i n : Nat}  (k : Go p e below m W T pc L (.int j :: .ref a :: S)) (X : Stand p l e R s m args below meth c T locs cells slots) (hx : p.tables.exec = Jvm.exec) (hZ : Z.Warmed39 s.vm) (eT : T.heap = h) (Va : Arv Z h a kc .long z vs d) (hz : z.toNatClampNeg = n) (hj : j.toNatClampNeg = i) (hj0 : ¬ j < 0) (hi : i < n) (hv : vs.getD i d = v) (hd : decode c.code pc = .ok (.laload, 1)) : Go p e below m W T (pc + 1) L (v :: S) := by
  obtain ⟨cl, A, q1, S1, q3, H, G⟩ := Va
  have hin := own_in S1 hz hj hj0 hi
  subst hj
  exact fun t kt => k t (X.laload hx (j := j) (v := v) (by rw [eT]; exact A.1) (State.isArrayOf_alike hZ.alike A.2.1) A.2.2 hin (Has.at H hin hv) (g := mkF m pc L (.int j :: .ref a :: S)) rfl rfl hd t kt)

theorem Go.caload {a : Addr} {kc : ClassId} {z j : Int32} {vs : List Value} {d v : Value} {i n : Nat}  (k : Go p e below m W T pc L (.int j :: .ref a :: S)) (X : Stand p l e R s m args below meth c T locs cells slots) (hx : p.tables.exec = Jvm.exec) (hZ : Z.Warmed39 s.vm) (eT : T.heap = h) (Va : Arv Z h a kc .char z vs d) (hz : z.toNatClampNeg = n) (hj : j.toNatClampNeg = i) (hj0 : ¬ j < 0) (hi : i < n) (hv : vs.getD i d = v) (hd : decode c.code pc = .ok (.caload, 1)) : Go p e below m W T (pc + 1) L (v :: S) := by
  obtain ⟨cl, A, q1, S1, q3, H, G⟩ := Va
  have hin := own_in S1 hz hj hj0 hi
  subst hj
  exact fun t kt => k t (X.caload hx (j := j) (v := v) (by rw [eT]; exact A.1) (State.isArrayOf_alike hZ.alike A.2.1) A.2.2 hin (Has.at H hin hv) (g := mkF m pc L (.int j :: .ref a :: S)) rfl rfl hd t kt)

theorem Go.aaload {a : Addr} {kc : ClassId} {z j : Int32} {vs : List Value} {d v : Value} {i n : Nat} {ty : FieldType} (k : Go p e below m W T pc L (.int j :: .ref a :: S)) (X : Stand p l e R s m args below meth c T locs cells slots) (hx : p.tables.exec = Jvm.exec) (hZ : Z.Warmed39 s.vm) (eT : T.heap = h) (Va : Arv Z h a kc ty z vs d) (hz : z.toNatClampNeg = n) (hj : j.toNatClampNeg = i) (hj0 : ¬ j < 0) (hi : i < n) (hv : vs.getD i d = v) (hty : ty.isReference = true) (hd : decode c.code pc = .ok (.aaload, 1)) : Go p e below m W T (pc + 1) L (v :: S) := by
  obtain ⟨cl, A, q1, S1, q3, H, G⟩ := Va
  have hin := own_in S1 hz hj hj0 hi
  subst hj
  exact fun t kt => k t (X.aaload hx (j := j) (v := v) (by rw [eT]; exact A.1) (State.isArrayOf_alike hZ.alike A.2.1) hty A.2.2 hin (Has.at H hin hv) (g := mkF m pc L (.int j :: .ref a :: S)) rfl rfl hd t kt)

theorem Go.baload {a : Addr} {kc : ClassId} {z j : Int32} {vs : List Value} {d v : Value} {i n : Nat}  (k : Go p e below m W T pc L (.int j :: .ref a :: S)) (X : Stand p l e R s m args below meth c T locs cells slots) (hx : p.tables.exec = Jvm.exec) (hZ : Z.Warmed39 s.vm) (eT : T.heap = h) (Va : Arv Z h a kc .byte z vs d) (hz : z.toNatClampNeg = n) (hj : j.toNatClampNeg = i) (hj0 : ¬ j < 0) (hi : i < n) (hv : vs.getD i d = v) (hd : decode c.code pc = .ok (.baload, 1)) : Go p e below m W T (pc + 1) L (v :: S) := by
  obtain ⟨cl, A, q1, S1, q3, H, G⟩ := Va
  have hin := own_in S1 hz hj hj0 hi
  subst hj
  exact fun t kt => k t (X.baloadBytes hx (j := j) (v := v) (by rw [eT]; exact A.1) (State.isArrayOf_alike hZ.alike A.2.1) A.2.2 hin (Has.at H hin hv) (g := mkF m pc L (.int j :: .ref a :: S)) rfl rfl hd t kt)

theorem Go.newPE {aty : ArrayType} {n : Int32} {cap cells' slots' : Nat} {ad : String} (k : Go p e below m W T pc L (.int n :: S)) (X : Stand p l e R s m args below meth c T locs cells slots) (hx : p.tables.exec = Jvm.exec) (hZ : Z.Warmed39 s.vm) (w : (Cond.arrayClass (newarray.typeOf aty)).before a0 Z = true) (eT : T.heap = h) (hd : decode c.code pc = .ok (.newarray aty, 2)) (hn : ¬ n < 0) (hcap : n.toNatClampNeg ≤ cap) (hb : cap * 8 ≤ 536870912) (h1 : cells + 1 = cells') (h2 : slots + cap = slots') (h3 : cells' ≤ R.cells) (h4 : slots' ≤ R.slots) (had : "[" ++ (newarray.typeOf aty).toString = ad) :
    ∃ T' h' b kc, Stand p l e R s m args below meth c T' locs cells' slots' ∧ T'.heap = h' ∧ b = h.size ∧ Ext h h' ∧ (∀ len, Arv Z h' b kc (newarray.typeOf aty) n (List.replicate len (defaultValue (newarray.typeOf aty))) (defaultValue (newarray.typeOf aty))) ∧ Exa Z h' b ad ∧ Go p e below m W T' (pc + 2) L (.ref b :: S) := by
  subst h1 h2
  obtain ⟨T', h', kc, X', e', E', A', Ex, st⟩ := Jvm.RoadKit.newPE X hx hZ w eT (g := mkF m pc L (.int n :: S)) rfl hd rfl hn hcap hb h3 h4 had
  exact ⟨T', h', _, kc, X', e', rfl, E', fun len => (Arv.new A' hn).pad (pad_rep [] _ len), Ex, fun t kt => k t (st t kt)⟩
theorem Go.newRE {own C : String} {index : Nat} {n : Int32} {cap cells' slots' : Nat} {ad : String} (k : Go p e below m W T pc L (.int n :: S)) (X : Stand p l e R s m args below meth c T locs cells slots) (hx : p.tables.exec = Jvm.exec) (hZ : Z.Warmed39 s.vm) (hown : s.vm.findClass own = some m.cls) (w1 : (Cond.classLink own index C).before a0 Z = true) (w2 : (Cond.arrayOver (.object C)).before a0 Z = true) (eT : T.heap = h) (hd : decode c.code pc = .ok (.anewarray index, 3)) (hn : ¬ n < 0) (hcap : n.toNatClampNeg ≤ cap) (hb : cap * 8 ≤ 536870912) (h1 : cells + 1 = cells') (h2 : slots + cap = slots') (h3 : cells' ≤ R.cells) (h4 : slots' ≤ R.slots) (had : "[" ++ (FieldType.object C).toString = ad) :
    ∃ T' h' b kc, Stand p l e R s m args below meth c T' locs cells' slots' ∧ T'.heap = h' ∧ b = h.size ∧ Ext h h' ∧ (∀ len, Arv Z h' b kc (.object C) n (List.replicate len .null) .null) ∧ Ovr Z kc C ∧ Exa Z h' b ad ∧ Go p e below m W T' (pc + 3) L (.ref b :: S) := by
  subst h1 h2
  obtain ⟨T', h', kc, X', e', E', A', Ex, O', st⟩ := Jvm.RoadKit.newRE X hx hZ hown w1 w2 eT (g := mkF m pc L (.int n :: S)) rfl hd rfl hn hcap hb h3 h4 had
  exact ⟨T', h', _, kc, X', e', rfl, E', fun len => (Arv.new A' hn).pad (pad_rep [] _ len), O', Ex, fun t kt => k t (st t kt)⟩
theorem Go.newRA {own C : String} {ty : FieldType} {index : Nat} {n : Int32} {cap cells' slots' : Nat} {ad : String} (k : Go p e below m W T pc L (.int n :: S)) (X : Stand p l e R s m args below meth c T locs cells slots) (hx : p.tables.exec = Jvm.exec) (hZ : Z.Warmed39 s.vm) (hown : s.vm.findClass own = some m.cls) (hC : (FieldType.array ty).toString = C) (w1 : (Cond.classLink own index C).before a0 Z = true) (w2 : (Cond.arrayOver (.array ty)).before a0 Z = true) (eT : T.heap = h) (hd : decode c.code pc = .ok (.anewarray index, 3)) (hn : ¬ n < 0) (hcap : n.toNatClampNeg ≤ cap) (hb : cap * 8 ≤ 536870912) (h1 : cells + 1 = cells') (h2 : slots + cap = slots') (h3 : cells' ≤ R.cells) (h4 : slots' ≤ R.slots) (had : "[" ++ C = ad) :
    ∃ T' h' b kc, Stand p l e R s m args below meth c T' locs cells' slots' ∧ T'.heap = h' ∧ b = h.size ∧ Ext h h' ∧ (∀ len, Arv Z h' b kc (.array ty) n (List.replicate len .null) .null) ∧ OvrA Z kc ty C ∧ Exa Z h' b ad ∧ Go p e below m W T' (pc + 3) L (.ref b :: S) := by
  subst h1 h2
  obtain ⟨T', h', kc, X', e', E', A', Ex, O', st⟩ := Jvm.RoadKit.newRA X hx hZ hown hC w1 w2 eT (g := mkF m pc L (.int n :: S)) rfl hd rfl hn hcap hb h3 h4 had
  exact ⟨T', h', _, kc, X', e', rfl, E', fun len => (Arv.new A' hn).pad (pad_rep [] _ len), O', Ex, fun t kt => k t (st t kt)⟩
theorem Go.aastoreA {a : Addr} {kc : ClassId} {C : String} {ty : FieldType} {z j : Int32} {vs : List Value} {d v : Value} {i : Nat} {n0 : Nat} (k : Go p e below m W T pc L (v :: .int j :: .ref a :: S)) (X : Stand p l e R s m args below meth c T locs cells slots) (hx : p.tables.exec = Jvm.exec) (hZ : Z.Warmed39 s.vm) (eT : T.heap = h) (Va : Arv Z h a kc (.array ty) z vs d) (O : OvrA Z kc ty C) (hv : v = .null ∨ ∃ y, v = .ref y ∧ Ins Z h y C true) (hz : z.toNatClampNeg = vs.length) (hj : j.toNatClampNeg = i) (hj0 : ¬ j < 0) (hi : i < vs.length) (N : Fr n0 locs) (g0 : n0 ≤ a) (hd : decode c.code pc = .ok (.aastore, 1)) :
    ∃ T' h' locs', Stand p l e R s m args below meth c T' locs' cells slots ∧ T'.heap = h' ∧ Wr h h' a j.toNatClampNeg v ∧ Arv Z h' a kc (.array ty) z (vs.set i v) d ∧ Fr n0 locs' ∧ Go p e below m W T' (pc + 1) L S := by
  obtain ⟨cl, A, q1, S1, q3, H, G⟩ := Va
  have hin := own_in S1 hz hj hj0 hi
  have F : Sto Z h a v := by
    rcases hv with rfl | ⟨y, rfl, I⟩
    · exact Or.inl rfl
    · exact Sto.ofVA A q1 O I
  have hf : fits (.array ty) v = true := by rcases hv with rfl | ⟨y, rfl, I⟩ <;> rfl
  obtain ⟨T', h', X', e', W', st⟩ := Jvm.RoadKit.stR X hx hZ eT A hin rfl F (g := mkF m pc L (v :: .int j :: .ref a :: S)) rfl rfl hd
  exact ⟨T', h', _, X', e', W', Arv.set A q1 S1 q3 H G hf W' i hj hi, Fr.snoc X' N g0, fun t kt => k t (st t kt)⟩
end OwnKit

theorem own_eqi {args : Array Value} {first s : State} {o : Option Outcome} {idx : List Nat} {a : Term} {n : Int32} (h : (Cond.eq a (Term.int n)).value args first o s idx = some true) : a.eval args first o idx s = some (.int n) := by
  obtain ⟨x, y, h1, h2, -, -⟩ := cmp_v (Or.inl h)
  have e2 : (Term.int n).eval args first o idx s = some (.int n) := Term.int_eval n
  cases h2.symm.trans e2
  cases x <;> simp [Cond.value, h1, e2] at h
  rw [h1, h]
theorem own_eqr {args : Array Value} {first s : State} {o : Option Outcome} {idx : List Nat} {a b : Term} {y : Addr} (h : (Cond.eq a b).value args first o s idx = some true) (hb : b.eval args first o idx s = some (.ref y)) : a.eval args first o idx s = some (.ref y) := by
  obtain ⟨x, z, h1, h2, -, -⟩ := cmp_v (Or.inl h)
  cases h2.symm.trans hb
  cases x <;> simp [Cond.value, h1, hb] at h
  rw [h1, h]
theorem own_ne {Z : State} {h : Heap} {a b : Addr} {C n d : String} {v w : Value} (F : Fld Z h a C n d v) (G : Fld Z h b C n d w) (q : v ≠ w) : a ≠ b := by
  intro e
  subst e
  obtain ⟨c1, cf1, k1, i1, f1, h1, h2, -, -, -, -, h7⟩ := F
  obtain ⟨c2, cf2, k2, i2, f2, g1, g2, -, -, -, -, g7⟩ := G
  cases h1.symm.trans g1
  cases h2.symm.trans g2
  exact q (Option.some.inj (h7.symm.trans g7))
theorem own_nz {x : Int32} (h : x = 0 ∨ x = 1) : narrow .boolean (.int x) = .int x ∧ fits .boolean (.int x) = true ∧ nar .boolean x = x := by rcases h with rfl | rfl <;> exact ⟨rfl, rfl, rfl⟩
theorem own_nref {v : Value} {C : String} (h : v.isRef = true) : narrow (.object C) v = v := by cases v <;> first | rfl | simp [Value.isRef] at h
theorem own_fref {v : Value} {C : String} (h : v.isRef = true) : fits (.object C) v = true := by cases v <;> first | rfl | simp [Value.isRef] at h
theorem own_01 {x : Int32} {P : Prop} (h : (P ∧ x = (0 : Int32)) ∨ (¬ P ∧ x = (1 : Int32))) : x = 0 ∨ x = 1 := h.imp And.right And.right
theorem own_10 {x : Int32} {P : Prop} (h : (P ∧ x = (1 : Int32)) ∨ (¬ P ∧ x = (0 : Int32))) : x = 0 ∨ x = 1 := h.symm.imp And.right And.right

theorem own_mask (x : Int32) : 0 ≤ (x &&& (2147483647 : Int32)).toInt := (c_andS x 2147483647).2.2 (by decide)
theorem own_rem {x y : Int32} (hx : 0 ≤ x.toInt) (hy : 0 < y.toInt) : 0 ≤ (x % y).toInt ∧ (x % y).toInt < y.toInt := ⟨((c_iremV x y).1 hx hy).1, ((c_iremV x y).1 hx hy).2.1⟩
theorem own_i {x : Int32} {n : Int} (y : Int32) (h : x.toInt = n) (hy : y.toInt = n) : x = y := Int32.toInt_inj.mp (h.trans hy.symm)

theorem own_11 (x : Int32) : (x &&& (2147483647 : Int32)) % (11 : Int32) = (0 : Int32) ∨ (x &&& (2147483647 : Int32)) % (11 : Int32) = (1 : Int32) ∨ (x &&& (2147483647 : Int32)) % (11 : Int32) = (2 : Int32) ∨ (x &&& (2147483647 : Int32)) % (11 : Int32) = (3 : Int32) ∨ (x &&& (2147483647 : Int32)) % (11 : Int32) = (4 : Int32) ∨ (x &&& (2147483647 : Int32)) % (11 : Int32) = (5 : Int32) ∨ (x &&& (2147483647 : Int32)) % (11 : Int32) = (6 : Int32) ∨ (x &&& (2147483647 : Int32)) % (11 : Int32) = (7 : Int32) ∨ (x &&& (2147483647 : Int32)) % (11 : Int32) = (8 : Int32) ∨ (x &&& (2147483647 : Int32)) % (11 : Int32) = (9 : Int32) ∨ (x &&& (2147483647 : Int32)) % (11 : Int32) = (10 : Int32) := by
  obtain ⟨h1, h2⟩ := own_rem (own_mask x) (show 0 < (11 : Int32).toInt by decide)
  have h3 : (11 : Int32).toInt = 11 := by decide
  rw [h3] at h2
  have h4 : ((x &&& (2147483647 : Int32)) % (11 : Int32)).toInt = 0 ∨ ((x &&& (2147483647 : Int32)) % (11 : Int32)).toInt = 1 ∨ ((x &&& (2147483647 : Int32)) % (11 : Int32)).toInt = 2 ∨ ((x &&& (2147483647 : Int32)) % (11 : Int32)).toInt = 3 ∨ ((x &&& (2147483647 : Int32)) % (11 : Int32)).toInt = 4 ∨ ((x &&& (2147483647 : Int32)) % (11 : Int32)).toInt = 5 ∨ ((x &&& (2147483647 : Int32)) % (11 : Int32)).toInt = 6 ∨ ((x &&& (2147483647 : Int32)) % (11 : Int32)).toInt = 7 ∨ ((x &&& (2147483647 : Int32)) % (11 : Int32)).toInt = 8 ∨ ((x &&& (2147483647 : Int32)) % (11 : Int32)).toInt = 9 ∨ ((x &&& (2147483647 : Int32)) % (11 : Int32)).toInt = 10 := by omega
  rcases h4 with q | q | q | q | q | q | q | q | q | q | q
  · exact Or.inl (own_i _ q (by decide))
  · exact Or.inr (Or.inl (own_i _ q (by decide)))
  · exact Or.inr (Or.inr (Or.inl (own_i _ q (by decide))))
  · exact Or.inr (Or.inr (Or.inr (Or.inl (own_i _ q (by decide)))))
  · exact Or.inr (Or.inr (Or.inr (Or.inr (Or.inl (own_i _ q (by decide))))))
  · exact Or.inr (Or.inr (Or.inr (Or.inr (Or.inr (Or.inl (own_i _ q (by decide)))))))
  · exact Or.inr (Or.inr (Or.inr (Or.inr (Or.inr (Or.inr (Or.inl (own_i _ q (by decide))))))))
  · exact Or.inr (Or.inr (Or.inr (Or.inr (Or.inr (Or.inr (Or.inr (Or.inl (own_i _ q (by decide)))))))))
  · exact Or.inr (Or.inr (Or.inr (Or.inr (Or.inr (Or.inr (Or.inr (Or.inr (Or.inl (own_i _ q (by decide))))))))))
  · exact Or.inr (Or.inr (Or.inr (Or.inr (Or.inr (Or.inr (Or.inr (Or.inr (Or.inr (Or.inl (own_i _ q (by decide)))))))))))
  · exact Or.inr (Or.inr (Or.inr (Or.inr (Or.inr (Or.inr (Or.inr (Or.inr (Or.inr (Or.inr (own_i _ q (by decide)))))))))))

theorem d_rm1_0 : decode prog_58_method_7_code 0 = .ok (.aload_n 0, 1) := by decide +kernel
theorem d_rm1_1 : decode prog_58_method_7_code 1 = .ok (.getfield 60, 3) := by decide +kernel
theorem d_rm1_4 : decode prog_58_method_7_code 4 = .ok (.getstatic 103, 3) := by decide +kernel
theorem d_rm1_7 : decode prog_58_method_7_code 7 = .ok (.if_acmp .ne 7, 3) := by decide +kernel
theorem d_rm1_10 : decode prog_58_method_7_code 10 = .ok (.iconst 1, 1) := by decide +kernel
theorem d_rm1_11 : decode prog_58_method_7_code 11 = .ok (.goto 4, 3) := by decide +kernel
theorem d_rm1_15 : decode prog_58_method_7_code 15 = .ok (.ireturn, 1) := by decide +kernel
theorem pn_rm1 : plainName "com/example/evenfall/evenfall/TransactionType" = true := by first | (simp [plainName, overriddenIn]; done) | decide +kernel
theorem ef_rm1 (m : MethodId) (a1 : Addr) : entryFrame m #[(.ref a1)] 1 = mkF m 0 #[.val (.ref a1)] [] := by first | (simp [entryFrame, mkF, argsToLocals, Value.category]; done) | rfl
def Q_rm1 (Z : State) (a1 : Addr) (w2 : Addr) (h0 : Heap) (n0 : Nat) (v : Option Value) (h : Heap) (L : List Loc) : Prop := v = some (.int (1 : Int32)) ∧ Fr n0 L ∧ h = h0
set_option maxRecDepth 65536 in
set_option maxHeartbeats 40000000 in
theorem rm1 (l : Launch) (Z : State) (a0 : Array Value) (hw : ∀ d ∈ tables_1, d.before a0 Z = true) (ws : List Jvm.Cond) (a1 : Addr) (w2 : Addr) (h0 : Heap) (n0 : Nat) (Z0 : n0 ≤ h0.size) (F1 : Fld Z h0 a1 "com/example/evenfall/evenfall/TransactionType" "source" "Lcom/example/evenfall/evenfall/TransactionType$Source;" (.ref w2)) (S1 : Sta Z h0 "com/example/evenfall/evenfall/TransactionType$Source" "FEE_EVENT" "Lcom/example/evenfall/evenfall/TransactionType$Source;" (.ref w2)) :
    MetFree l (⟨"com/example/evenfall/evenfall/TransactionType", "namesFee", "()Z"⟩ : MethodName) (head1 (Jvm.Cond.code (⟨"com/example/evenfall/evenfall/TransactionType", "namesFee", "()Z"⟩ : MethodName) prog_58_method_7_code 1 (some .boolean) :: ws) ({ frames := 0, cells := 0, slots := 0, locals := 0 } : Room)) (fun a U => a = #[(.ref a1)] ∧ Z.Warmed39 U.vm ∧ U.heap = h0) (fun _ _ _ _ _ => True) (fun _ U o U' => ∃ v L, o = .returned v ∧ Q_rm1 Z a1 w2 h0 n0 v U'.heap L ∧ FrameEnd U o U' L ({ frames := 0, cells := 0, slots := 0, locals := 0 } : Room).cells ({ frames := 0, cells := 0, slots := 0, locals := 0 } : Room).slots) := by
  refine MetFree.of_bodySF (plainFor_of_name pn_rm1) hisR ?_
  intro p e s m args_ below meth c s₁ Bd hml0 hP hK
  obtain ⟨hargs, hZ, hh⟩ := hP
  have hx := Bd.exec
  have hby := Bd.bytes
  have hml : c.maxLocals = 1 := hml0
  have hown : s.vm.findClass "com/example/evenfall/evenfall/TransactionType" = some m.cls := findClass_of_methodNamed Bd.named
  have hnm := (name_of_methodNamed Bd.named Bd.method).1
  have X0 : Stand p l e ({ frames := 0, cells := 0, slots := 0, locals := 0 } : Room) s m args_ below meth c s₁ [] 0 0 := Stand.of_body Bd
  have e0 : s₁.heap = h0 := by rw [← hh, Bd.state]; rfl
  have N0 := Fr.nil n0
  have hv : ∀ (i : Nat) {d : Jvm.Cond}, tables_1[i]? = some d → d.before a0 Z = true := fun i d q => hw d (List.mem_of_getElem? q)
  have k0 : Go p e below m (s₁.setTop (entryFrame m args_ 1)) s₁ 0 #[.val (.ref a1)] [] := by rw [hargs]; exact fun t kt => castTop (ef_rm1 m a1) kt
  obtain ⟨W, hWW⟩ : ∃ W, W = s₁.setTop (entryFrame m args_ 1) := ⟨_, rfl⟩
  rw [← hWW] at k0 ⊢
  show Done p e below s W (Q_rm1 Z a1 w2 h0 n0) ({ frames := 0, cells := 0, slots := 0, locals := 0 } : Room).cells ({ frames := 0, cells := 0, slots := 0, locals := 0 } : Room).slots
  have k1 : Go p e below m W s₁ 1 #[.val (.ref a1)] [(.ref a1)] := k0.aloadN X0 hx (hb hby d_rm1_0) rfl rfl
  obtain ⟨T2, X2, e2, k2⟩ := k1.getF X0 hx hZ hown (host := "") (Or.inl (hv 32 rfl)) Via.refl e0 F1 (hb hby d_rm1_1)
  have k2 : Go p e below m W T2 4 #[.val (.ref a1)] [(.ref w2)] := k2
  obtain ⟨T3, X3, e3, k3⟩ := k2.getS X2 hx hZ hown (host := "") (Or.inl (hv 36 rfl)) Via.refl e2 S1 (hb hby d_rm1_4)
  have k3 : Go p e below m W T3 7 #[.val (.ref a1)] [(.ref w2), (.ref w2)] := k3
  have k4 : Go p e below m W T3 15 #[.val (.ref a1)] [(.int (1 : Int32))] := ((k3.acmpNo X3 hx (hb hby d_rm1_7) rfl rfl (XT.aa_ne_f rfl)).iconst X3 hx (hb hby d_rm1_10) (v := (1 : Int32)) rfl).goto X3 hx (hb hby d_rm1_11) (by decide) (by decide)
  exact k4.ireturnN X3 hx (t := .boolean) Bd.returns (by simp) rfl (hb hby d_rm1_15) (BodyLoose.notSynchronized Bd) (by rw [e3]; exact ⟨rfl, N0, rfl⟩) (by decide) (by decide)

theorem d_rm2_0 : decode prog_58_method_7_code 0 = .ok (.aload_n 0, 1) := by decide +kernel
theorem d_rm2_1 : decode prog_58_method_7_code 1 = .ok (.getfield 60, 3) := by decide +kernel
theorem d_rm2_4 : decode prog_58_method_7_code 4 = .ok (.getstatic 103, 3) := by decide +kernel
theorem d_rm2_7 : decode prog_58_method_7_code 7 = .ok (.if_acmp .ne 7, 3) := by decide +kernel
theorem d_rm2_14 : decode prog_58_method_7_code 14 = .ok (.iconst 0, 1) := by decide +kernel
theorem d_rm2_15 : decode prog_58_method_7_code 15 = .ok (.ireturn, 1) := by decide +kernel
theorem pn_rm2 : plainName "com/example/evenfall/evenfall/TransactionType" = true := by first | (simp [plainName, overriddenIn]; done) | decide +kernel
theorem ef_rm2 (m : MethodId) (a1 : Addr) : entryFrame m #[(.ref a1)] 1 = mkF m 0 #[.val (.ref a1)] [] := by first | (simp [entryFrame, mkF, argsToLocals, Value.category]; done) | rfl
def Q_rm2 (Z : State) (a1 : Addr) (w2 : Addr) (w3 : Addr) (h0 : Heap) (n0 : Nat) (v : Option Value) (h : Heap) (L : List Loc) : Prop := v = some (.int (0 : Int32)) ∧ Fr n0 L ∧ h = h0
set_option maxRecDepth 65536 in
set_option maxHeartbeats 40000000 in
theorem rm2 (l : Launch) (Z : State) (a0 : Array Value) (hw : ∀ d ∈ tables_1, d.before a0 Z = true) (ws : List Jvm.Cond) (a1 : Addr) (w2 : Addr) (w3 : Addr) (h0 : Heap) (n0 : Nat) (Z0 : n0 ≤ h0.size) (F1 : Fld Z h0 a1 "com/example/evenfall/evenfall/TransactionType" "source" "Lcom/example/evenfall/evenfall/TransactionType$Source;" (.ref w3)) (S1 : Sta Z h0 "com/example/evenfall/evenfall/TransactionType$Source" "FEE_EVENT" "Lcom/example/evenfall/evenfall/TransactionType$Source;" (.ref w2)) (n32 : w3 ≠ w2) :
    MetFree l (⟨"com/example/evenfall/evenfall/TransactionType", "namesFee", "()Z"⟩ : MethodName) (head1 (Jvm.Cond.code (⟨"com/example/evenfall/evenfall/TransactionType", "namesFee", "()Z"⟩ : MethodName) prog_58_method_7_code 1 (some .boolean) :: ws) ({ frames := 0, cells := 0, slots := 0, locals := 0 } : Room)) (fun a U => a = #[(.ref a1)] ∧ Z.Warmed39 U.vm ∧ U.heap = h0) (fun _ _ _ _ _ => True) (fun _ U o U' => ∃ v L, o = .returned v ∧ Q_rm2 Z a1 w2 w3 h0 n0 v U'.heap L ∧ FrameEnd U o U' L ({ frames := 0, cells := 0, slots := 0, locals := 0 } : Room).cells ({ frames := 0, cells := 0, slots := 0, locals := 0 } : Room).slots) := by
  refine MetFree.of_bodySF (plainFor_of_name pn_rm2) hisR ?_
  intro p e s m args_ below meth c s₁ Bd hml0 hP hK
  obtain ⟨hargs, hZ, hh⟩ := hP
  have hx := Bd.exec
  have hby := Bd.bytes
  have hml : c.maxLocals = 1 := hml0
  have hown : s.vm.findClass "com/example/evenfall/evenfall/TransactionType" = some m.cls := findClass_of_methodNamed Bd.named
  have hnm := (name_of_methodNamed Bd.named Bd.method).1
  have X0 : Stand p l e ({ frames := 0, cells := 0, slots := 0, locals := 0 } : Room) s m args_ below meth c s₁ [] 0 0 := Stand.of_body Bd
  have e0 : s₁.heap = h0 := by rw [← hh, Bd.state]; rfl
  have N0 := Fr.nil n0
  have hv : ∀ (i : Nat) {d : Jvm.Cond}, tables_1[i]? = some d → d.before a0 Z = true := fun i d q => hw d (List.mem_of_getElem? q)
  have k0 : Go p e below m (s₁.setTop (entryFrame m args_ 1)) s₁ 0 #[.val (.ref a1)] [] := by rw [hargs]; exact fun t kt => castTop (ef_rm2 m a1) kt
  obtain ⟨W, hWW⟩ : ∃ W, W = s₁.setTop (entryFrame m args_ 1) := ⟨_, rfl⟩
  rw [← hWW] at k0 ⊢
  show Done p e below s W (Q_rm2 Z a1 w2 w3 h0 n0) ({ frames := 0, cells := 0, slots := 0, locals := 0 } : Room).cells ({ frames := 0, cells := 0, slots := 0, locals := 0 } : Room).slots
  have k1 : Go p e below m W s₁ 1 #[.val (.ref a1)] [(.ref a1)] := k0.aloadN X0 hx (hb hby d_rm2_0) rfl rfl
  obtain ⟨T2, X2, e2, k2⟩ := k1.getF X0 hx hZ hown (host := "") (Or.inl (hv 32 rfl)) Via.refl e0 F1 (hb hby d_rm2_1)
  have k2 : Go p e below m W T2 4 #[.val (.ref a1)] [(.ref w3)] := k2
  obtain ⟨T3, X3, e3, k3⟩ := k2.getS X2 hx hZ hown (host := "") (Or.inl (hv 36 rfl)) Via.refl e2 S1 (hb hby d_rm2_4)
  have k3 : Go p e below m W T3 7 #[.val (.ref a1)] [(.ref w2), (.ref w3)] := k3
  have k4 : Go p e below m W T3 15 #[.val (.ref a1)] [(.int (0 : Int32))] := (k3.acmpYes X3 hx (hb hby d_rm2_7) rfl rfl (XT.aa_ne_t (fun q => n32 (Value.ref.inj q))) (by decide) (by decide)).iconst X3 hx (hb hby d_rm2_14) (v := (0 : Int32)) rfl
  exact k4.ireturnN X3 hx (t := .boolean) Bd.returns (by simp) rfl (hb hby d_rm2_15) (BodyLoose.notSynchronized Bd) (by rw [e3]; exact ⟨rfl, N0, rfl⟩) (by decide) (by decide)

theorem pn_rm0 : plainName "com/example/evenfall/evenfall/TransactionTypeNamesFeePinLaw" = true := by first | (simp [plainName, overriddenIn]; done) | decide +kernel
theorem pd_rm0_0 : parseMethodDescriptor "()Z" = some ⟨[], (some .boolean)⟩ := by decide +kernel
theorem ef_rm0 (m : MethodId) (p1 : Int32) : entryFrame m #[(.int p1)] maxLocals = mkF m 0 #[.val (.int p1), .unset, .unset, .unset, .unset] [] := by first | (simp [entryFrame, mkF, argsToLocals, Value.category, maxLocals]; done) | rfl
def Q_rm0 (Z : State) (p1 : Int32) (s_DISBURSEMENT : Addr) (s_PAYMENT : Addr) (s_PREPAYMENT : Addr) (s_CHARGE : Addr) (s_PREPAID_FEE : Addr) (s_ACCRUAL_ENTRY : Addr) (s_INTEREST_POSTING : Addr) (s_CAPITALISATION : Addr) (s_RESERVE_APPLIED : Addr) (s_FEE_ACCRUAL : Addr) (s_REFUND : Addr) (s_EVENT : Addr) (s_FEE_EVENT : Addr) (s_RUN : Addr) (h0 : Heap) (n0 : Nat) (v : Option Value) (h : Heap) (L : List Loc) : Prop := v = some (.int (1 : Int32)) ∧ Fr n0 L
set_option maxRecDepth 65536 in
set_option maxHeartbeats 40000000 in
theorem rm0 (l : Launch) (Z : State) (a0 : Array Value) (hw : ∀ d ∈ tables_1, d.before a0 Z = true) (ws : List Jvm.Cond) (p1 : Int32) (s_DISBURSEMENT : Addr) (s_PAYMENT : Addr) (s_PREPAYMENT : Addr) (s_CHARGE : Addr) (s_PREPAID_FEE : Addr) (s_ACCRUAL_ENTRY : Addr) (s_INTEREST_POSTING : Addr) (s_CAPITALISATION : Addr) (s_RESERVE_APPLIED : Addr) (s_FEE_ACCRUAL : Addr) (s_REFUND : Addr) (s_EVENT : Addr) (s_FEE_EVENT : Addr) (s_RUN : Addr) (h0 : Heap) (n0 : Nat) (Z0 : n0 ≤ h0.size) (O0 : Old Z n0 h0) (S_s_DISBURSEMENT : Sta Z Z.heap "com/example/evenfall/evenfall/TransactionType" "DISBURSEMENT" "Lcom/example/evenfall/evenfall/TransactionType;" (.ref s_DISBURSEMENT)) (E_s_DISBURSEMENT : Exa Z Z.heap s_DISBURSEMENT "com/example/evenfall/evenfall/TransactionType") (S_s_PAYMENT : Sta Z Z.heap "com/example/evenfall/evenfall/TransactionType" "PAYMENT" "Lcom/example/evenfall/evenfall/TransactionType;" (.ref s_PAYMENT)) (E_s_PAYMENT : Exa Z Z.heap s_PAYMENT "com/example/evenfall/evenfall/TransactionType") (S_s_PREPAYMENT : Sta Z Z.heap "com/example/evenfall/evenfall/TransactionType" "PREPAYMENT" "Lcom/example/evenfall/evenfall/TransactionType;" (.ref s_PREPAYMENT)) (E_s_PREPAYMENT : Exa Z Z.heap s_PREPAYMENT "com/example/evenfall/evenfall/TransactionType") (S_s_CHARGE : Sta Z Z.heap "com/example/evenfall/evenfall/TransactionType" "CHARGE" "Lcom/example/evenfall/evenfall/TransactionType;" (.ref s_CHARGE)) (E_s_CHARGE : Exa Z Z.heap s_CHARGE "com/example/evenfall/evenfall/TransactionType") (S_s_PREPAID_FEE : Sta Z Z.heap "com/example/evenfall/evenfall/TransactionType" "PREPAID_FEE" "Lcom/example/evenfall/evenfall/TransactionType;" (.ref s_PREPAID_FEE)) (E_s_PREPAID_FEE : Exa Z Z.heap s_PREPAID_FEE "com/example/evenfall/evenfall/TransactionType") (S_s_ACCRUAL_ENTRY : Sta Z Z.heap "com/example/evenfall/evenfall/TransactionType" "ACCRUAL_ENTRY" "Lcom/example/evenfall/evenfall/TransactionType;" (.ref s_ACCRUAL_ENTRY)) (E_s_ACCRUAL_ENTRY : Exa Z Z.heap s_ACCRUAL_ENTRY "com/example/evenfall/evenfall/TransactionType") (S_s_INTEREST_POSTING : Sta Z Z.heap "com/example/evenfall/evenfall/TransactionType" "INTEREST_POSTING" "Lcom/example/evenfall/evenfall/TransactionType;" (.ref s_INTEREST_POSTING)) (E_s_INTEREST_POSTING : Exa Z Z.heap s_INTEREST_POSTING "com/example/evenfall/evenfall/TransactionType") (S_s_CAPITALISATION : Sta Z Z.heap "com/example/evenfall/evenfall/TransactionType" "CAPITALISATION" "Lcom/example/evenfall/evenfall/TransactionType;" (.ref s_CAPITALISATION)) (E_s_CAPITALISATION : Exa Z Z.heap s_CAPITALISATION "com/example/evenfall/evenfall/TransactionType") (S_s_RESERVE_APPLIED : Sta Z Z.heap "com/example/evenfall/evenfall/TransactionType" "RESERVE_APPLIED" "Lcom/example/evenfall/evenfall/TransactionType;" (.ref s_RESERVE_APPLIED)) (E_s_RESERVE_APPLIED : Exa Z Z.heap s_RESERVE_APPLIED "com/example/evenfall/evenfall/TransactionType") (S_s_FEE_ACCRUAL : Sta Z Z.heap "com/example/evenfall/evenfall/TransactionType" "FEE_ACCRUAL" "Lcom/example/evenfall/evenfall/TransactionType;" (.ref s_FEE_ACCRUAL)) (E_s_FEE_ACCRUAL : Exa Z Z.heap s_FEE_ACCRUAL "com/example/evenfall/evenfall/TransactionType") (S_s_REFUND : Sta Z Z.heap "com/example/evenfall/evenfall/TransactionType" "REFUND" "Lcom/example/evenfall/evenfall/TransactionType;" (.ref s_REFUND)) (E_s_REFUND : Exa Z Z.heap s_REFUND "com/example/evenfall/evenfall/TransactionType") (F23_ordinal : Fld Z Z.heap s_DISBURSEMENT "java/lang/Enum" "ordinal" "I" (.int (0 : Int32))) (F24_ordinal : Fld Z Z.heap s_CHARGE "java/lang/Enum" "ordinal" "I" (.int (3 : Int32))) (F25_ordinal : Fld Z Z.heap s_PREPAID_FEE "java/lang/Enum" "ordinal" "I" (.int (4 : Int32))) (S_s_EVENT : Sta Z Z.heap "com/example/evenfall/evenfall/TransactionType$Source" "EVENT" "Lcom/example/evenfall/evenfall/TransactionType$Source;" (.ref s_EVENT)) (E_s_EVENT : Exa Z Z.heap s_EVENT "com/example/evenfall/evenfall/TransactionType$Source") (F28_source : Fld Z Z.heap s_DISBURSEMENT "com/example/evenfall/evenfall/TransactionType" "source" "Lcom/example/evenfall/evenfall/TransactionType$Source;" (.ref s_EVENT)) (S_s_FEE_EVENT : Sta Z Z.heap "com/example/evenfall/evenfall/TransactionType$Source" "FEE_EVENT" "Lcom/example/evenfall/evenfall/TransactionType$Source;" (.ref s_FEE_EVENT)) (E_s_FEE_EVENT : Exa Z Z.heap s_FEE_EVENT "com/example/evenfall/evenfall/TransactionType$Source") (F31_ordinal : Fld Z Z.heap s_EVENT "java/lang/Enum" "ordinal" "I" (.int (1 : Int32))) (F32_ordinal : Fld Z Z.heap s_FEE_EVENT "java/lang/Enum" "ordinal" "I" (.int (2 : Int32))) (F33_source : Fld Z Z.heap s_CHARGE "com/example/evenfall/evenfall/TransactionType" "source" "Lcom/example/evenfall/evenfall/TransactionType$Source;" (.ref s_FEE_EVENT)) (F34_ordinal : Fld Z Z.heap s_CAPITALISATION "java/lang/Enum" "ordinal" "I" (.int (7 : Int32))) (S_s_RUN : Sta Z Z.heap "com/example/evenfall/evenfall/TransactionType$Source" "RUN" "Lcom/example/evenfall/evenfall/TransactionType$Source;" (.ref s_RUN)) (E_s_RUN : Exa Z Z.heap s_RUN "com/example/evenfall/evenfall/TransactionType$Source") (F37_source : Fld Z Z.heap s_CAPITALISATION "com/example/evenfall/evenfall/TransactionType" "source" "Lcom/example/evenfall/evenfall/TransactionType$Source;" (.ref s_RUN)) (F38_ordinal : Fld Z Z.heap s_RUN "java/lang/Enum" "ordinal" "I" (.int (0 : Int32))) (F39_ordinal : Fld Z Z.heap s_RESERVE_APPLIED "java/lang/Enum" "ordinal" "I" (.int (8 : Int32))) (F40_source : Fld Z Z.heap s_RESERVE_APPLIED "com/example/evenfall/evenfall/TransactionType" "source" "Lcom/example/evenfall/evenfall/TransactionType$Source;" (.ref s_RUN)) (F41_ordinal : Fld Z Z.heap s_PREPAYMENT "java/lang/Enum" "ordinal" "I" (.int (2 : Int32))) (F42_source : Fld Z Z.heap s_PREPAYMENT "com/example/evenfall/evenfall/TransactionType" "source" "Lcom/example/evenfall/evenfall/TransactionType$Source;" (.ref s_EVENT)) (F43_ordinal : Fld Z Z.heap s_REFUND "java/lang/Enum" "ordinal" "I" (.int (10 : Int32))) (F44_source : Fld Z Z.heap s_REFUND "com/example/evenfall/evenfall/TransactionType" "source" "Lcom/example/evenfall/evenfall/TransactionType$Source;" (.ref s_RUN)) (F45_ordinal : Fld Z Z.heap s_PAYMENT "java/lang/Enum" "ordinal" "I" (.int (1 : Int32))) (F46_source : Fld Z Z.heap s_PAYMENT "com/example/evenfall/evenfall/TransactionType" "source" "Lcom/example/evenfall/evenfall/TransactionType$Source;" (.ref s_EVENT)) (F47_ordinal : Fld Z Z.heap s_FEE_ACCRUAL "java/lang/Enum" "ordinal" "I" (.int (9 : Int32))) (F48_source : Fld Z Z.heap s_FEE_ACCRUAL "com/example/evenfall/evenfall/TransactionType" "source" "Lcom/example/evenfall/evenfall/TransactionType$Source;" (.ref s_RUN)) (F49_ordinal : Fld Z Z.heap s_ACCRUAL_ENTRY "java/lang/Enum" "ordinal" "I" (.int (5 : Int32))) (F50_source : Fld Z Z.heap s_ACCRUAL_ENTRY "com/example/evenfall/evenfall/TransactionType" "source" "Lcom/example/evenfall/evenfall/TransactionType$Source;" (.ref s_RUN)) (F51_ordinal : Fld Z Z.heap s_INTEREST_POSTING "java/lang/Enum" "ordinal" "I" (.int (6 : Int32))) (F52_source : Fld Z Z.heap s_INTEREST_POSTING "com/example/evenfall/evenfall/TransactionType" "source" "Lcom/example/evenfall/evenfall/TransactionType$Source;" (.ref s_RUN)) (F53_source : Fld Z Z.heap s_PREPAID_FEE "com/example/evenfall/evenfall/TransactionType" "source" "Lcom/example/evenfall/evenfall/TransactionType$Source;" (.ref s_FEE_EVENT)) :
    MetFree l x (head1 (Jvm.Cond.code x code maxLocals ret :: ws) room_1) (fun a U => a = #[(.int p1)] ∧ Z.Warmed39 U.vm ∧ U.heap = h0) (fun _ _ _ _ _ => True) (fun _ U o U' => ∃ v L, o = .returned v ∧ Q_rm0 Z p1 s_DISBURSEMENT s_PAYMENT s_PREPAYMENT s_CHARGE s_PREPAID_FEE s_ACCRUAL_ENTRY s_INTEREST_POSTING s_CAPITALISATION s_RESERVE_APPLIED s_FEE_ACCRUAL s_REFUND s_EVENT s_FEE_EVENT s_RUN h0 n0 v U'.heap L ∧ FrameEnd U o U' L room_1.cells room_1.slots) := by
  refine MetFree.of_bodySF (plainFor_of_name pn_rm0) hisR ?_
  intro p e s m args_ below meth c s₁ Bd hml0 hP hK
  obtain ⟨hargs, hZ, hh⟩ := hP
  have hx := Bd.exec
  have hby := Bd.bytes
  have hml : c.maxLocals = 5 := hml0
  have hown : s.vm.findClass "com/example/evenfall/evenfall/TransactionTypeNamesFeePinLaw" = some m.cls := findClass_of_methodNamed Bd.named
  have hnm := (name_of_methodNamed Bd.named Bd.method).1
  have X0 : Stand p l e room_1 s m args_ below meth c s₁ [] 0 0 := Stand.of_body Bd
  have e0 : s₁.heap = h0 := by rw [← hh, Bd.state]; rfl
  have N0 := Fr.nil n0
  have hv : ∀ (i : Nat) {d : Jvm.Cond}, tables_1[i]? = some d → d.before a0 Z = true := fun i d q => hw d (List.mem_of_getElem? q)
  have k0 : Go p e below m (s₁.setTop (entryFrame m args_ maxLocals)) s₁ 0 #[.val (.int p1), .unset, .unset, .unset, .unset] [] := by rw [hargs]; exact fun t kt => castTop (ef_rm0 m p1) kt
  obtain ⟨W, hWW⟩ : ∃ W, W = s₁.setTop (entryFrame m args_ maxLocals) := ⟨_, rfl⟩
  rw [← hWW] at k0 ⊢
  show Done p e below s W (Q_rm0 Z p1 s_DISBURSEMENT s_PAYMENT s_PREPAYMENT s_CHARGE s_PREPAID_FEE s_ACCRUAL_ENTRY s_INTEREST_POSTING s_CAPITALISATION s_RESERVE_APPLIED s_FEE_ACCRUAL s_REFUND s_EVENT s_FEE_EVENT s_RUN h0 n0) room_1.cells room_1.slots
  have k1 : Go p e below m W s₁ 2 #[.val (.int p1), .unset, .unset, .unset, .unset] [(.int (11 : Int32))] := k0.bipush X0 hx (hb hby at_0) (v := (11 : Int32)) rfl
  obtain ⟨T2, h2, b2, c2, X2, e2, g2, E2, A2, O2, k2⟩ := k1.newR (cap := 11) (cells' := 1) (slots' := 11) X0 hx hZ hown (hv 0 rfl) (hv 1 rfl) e0 (hb hby at_2) (by decide) (by decide) (by decide) rfl rfl (by decide) (by decide)
  have k2 : Go p e below m W T2 5 #[.val (.int p1), .unset, .unset, .unset, .unset] [(.ref b2)] := k2
  have Z2 : n0 ≤ h2.size := Nat.le_trans Z0 E2.1
  have f3 := O0.ext E2
  have G2 : n0 ≤ b2 := g2 ▸ Z0
  have V2 : Arv Z h2 b2 c2 (.object "com/example/evenfall/evenfall/TransactionType") (11 : Int32) [.null, .null, .null, .null, .null, .null, .null, .null, .null, .null, .null] .null := A2 11
  have k4 : Go p e below m W T2 7 #[.val (.int p1), .unset, .unset, .unset, .unset] [(.int (0 : Int32)), (.ref b2), (.ref b2)] := (k2.dup X2 hx (hb hby at_5) rfl).iconst X2 hx (hb hby at_6) (v := (0 : Int32)) rfl
  obtain ⟨T5, X5, e5, k5⟩ := k4.getS X2 hx hZ hown (host := "") (Or.inl (hv 2 rfl)) Via.refl e2 (S_s_DISBURSEMENT.ext f3.2) (hb hby at_7)
  have k5 : Go p e below m W T5 10 #[.val (.int p1), .unset, .unset, .unset, .unset] [(.ref s_DISBURSEMENT), (.int (0 : Int32)), (.ref b2), (.ref b2)] := k5
  obtain ⟨T6, h6, l6, X6, e6, W6, V6, N6, k6⟩ := k5.aastore (i := 0) X5 hx hZ e5 V2 O2 (Or.inr ⟨_, rfl, (Ins.self (E_s_DISBURSEMENT.ext f3.2))⟩) rfl rfl (by decide) (Nat.le_of_ble_eq_true rfl) N0 G2 (hb hby at_10)
  have k6 : Go p e below m W T6 11 #[.val (.int p1), .unset, .unset, .unset, .unset] [(.ref b2)] := k6
  have Z6 : n0 ≤ h6.size := (Wr.size W6).symm ▸ Z2
  have f7 := f3.wr W6 G2
  have V6 : Arv Z h6 b2 c2 (.object "com/example/evenfall/evenfall/TransactionType") (11 : Int32) [(.ref s_DISBURSEMENT), .null, .null, .null, .null, .null, .null, .null, .null, .null, .null] .null := V6
  have k8 : Go p e below m W T6 13 #[.val (.int p1), .unset, .unset, .unset, .unset] [(.int (1 : Int32)), (.ref b2), (.ref b2)] := (k6.dup X6 hx (hb hby at_11) rfl).iconst X6 hx (hb hby at_12) (v := (1 : Int32)) rfl
  obtain ⟨T9, X9, e9, k9⟩ := k8.getS X6 hx hZ hown (host := "") (Or.inl (hv 6 rfl)) Via.refl e6 (S_s_PAYMENT.ext f7.2) (hb hby at_13)
  have k9 : Go p e below m W T9 16 #[.val (.int p1), .unset, .unset, .unset, .unset] [(.ref s_PAYMENT), (.int (1 : Int32)), (.ref b2), (.ref b2)] := k9
  obtain ⟨T10, h10, l10, X10, e10, W10, V10, N10, k10⟩ := k9.aastore (i := 1) X9 hx hZ e9 V6 O2 (Or.inr ⟨_, rfl, (Ins.self (E_s_PAYMENT.ext f7.2))⟩) rfl rfl (by decide) (Nat.le_of_ble_eq_true rfl) N6 G2 (hb hby at_16)
  have k10 : Go p e below m W T10 17 #[.val (.int p1), .unset, .unset, .unset, .unset] [(.ref b2)] := k10
  have Z10 : n0 ≤ h10.size := (Wr.size W10).symm ▸ Z6
  have f11 := f7.wr W10 G2
  have V10 : Arv Z h10 b2 c2 (.object "com/example/evenfall/evenfall/TransactionType") (11 : Int32) [(.ref s_DISBURSEMENT), (.ref s_PAYMENT), .null, .null, .null, .null, .null, .null, .null, .null, .null] .null := V10
  have k12 : Go p e below m W T10 19 #[.val (.int p1), .unset, .unset, .unset, .unset] [(.int (2 : Int32)), (.ref b2), (.ref b2)] := (k10.dup X10 hx (hb hby at_17) rfl).iconst X10 hx (hb hby at_18) (v := (2 : Int32)) rfl
  obtain ⟨T13, X13, e13, k13⟩ := k12.getS X10 hx hZ hown (host := "") (Or.inl (hv 8 rfl)) Via.refl e10 (S_s_PREPAYMENT.ext f11.2) (hb hby at_19)
  have k13 : Go p e below m W T13 22 #[.val (.int p1), .unset, .unset, .unset, .unset] [(.ref s_PREPAYMENT), (.int (2 : Int32)), (.ref b2), (.ref b2)] := k13
  obtain ⟨T14, h14, l14, X14, e14, W14, V14, N14, k14⟩ := k13.aastore (i := 2) X13 hx hZ e13 V10 O2 (Or.inr ⟨_, rfl, (Ins.self (E_s_PREPAYMENT.ext f11.2))⟩) rfl rfl (by decide) (Nat.le_of_ble_eq_true rfl) N10 G2 (hb hby at_22)
  have k14 : Go p e below m W T14 23 #[.val (.int p1), .unset, .unset, .unset, .unset] [(.ref b2)] := k14
  have Z14 : n0 ≤ h14.size := (Wr.size W14).symm ▸ Z10
  have f15 := f11.wr W14 G2
  have V14 : Arv Z h14 b2 c2 (.object "com/example/evenfall/evenfall/TransactionType") (11 : Int32) [(.ref s_DISBURSEMENT), (.ref s_PAYMENT), (.ref s_PREPAYMENT), .null, .null, .null, .null, .null, .null, .null, .null] .null := V14
  have k16 : Go p e below m W T14 25 #[.val (.int p1), .unset, .unset, .unset, .unset] [(.int (3 : Int32)), (.ref b2), (.ref b2)] := (k14.dup X14 hx (hb hby at_23) rfl).iconst X14 hx (hb hby at_24) (v := (3 : Int32)) rfl
  obtain ⟨T17, X17, e17, k17⟩ := k16.getS X14 hx hZ hown (host := "") (Or.inl (hv 10 rfl)) Via.refl e14 (S_s_CHARGE.ext f15.2) (hb hby at_25)
  have k17 : Go p e below m W T17 28 #[.val (.int p1), .unset, .unset, .unset, .unset] [(.ref s_CHARGE), (.int (3 : Int32)), (.ref b2), (.ref b2)] := k17
  obtain ⟨T18, h18, l18, X18, e18, W18, V18, N18, k18⟩ := k17.aastore (i := 3) X17 hx hZ e17 V14 O2 (Or.inr ⟨_, rfl, (Ins.self (E_s_CHARGE.ext f15.2))⟩) rfl rfl (by decide) (Nat.le_of_ble_eq_true rfl) N14 G2 (hb hby at_28)
  have k18 : Go p e below m W T18 29 #[.val (.int p1), .unset, .unset, .unset, .unset] [(.ref b2)] := k18
  have Z18 : n0 ≤ h18.size := (Wr.size W18).symm ▸ Z14
  have f19 := f15.wr W18 G2
  have V18 : Arv Z h18 b2 c2 (.object "com/example/evenfall/evenfall/TransactionType") (11 : Int32) [(.ref s_DISBURSEMENT), (.ref s_PAYMENT), (.ref s_PREPAYMENT), (.ref s_CHARGE), .null, .null, .null, .null, .null, .null, .null] .null := V18
  have k20 : Go p e below m W T18 31 #[.val (.int p1), .unset, .unset, .unset, .unset] [(.int (4 : Int32)), (.ref b2), (.ref b2)] := (k18.dup X18 hx (hb hby at_29) rfl).iconst X18 hx (hb hby at_30) (v := (4 : Int32)) rfl
  obtain ⟨T21, X21, e21, k21⟩ := k20.getS X18 hx hZ hown (host := "") (Or.inl (hv 12 rfl)) Via.refl e18 (S_s_PREPAID_FEE.ext f19.2) (hb hby at_31)
  have k21 : Go p e below m W T21 34 #[.val (.int p1), .unset, .unset, .unset, .unset] [(.ref s_PREPAID_FEE), (.int (4 : Int32)), (.ref b2), (.ref b2)] := k21
  obtain ⟨T22, h22, l22, X22, e22, W22, V22, N22, k22⟩ := k21.aastore (i := 4) X21 hx hZ e21 V18 O2 (Or.inr ⟨_, rfl, (Ins.self (E_s_PREPAID_FEE.ext f19.2))⟩) rfl rfl (by decide) (Nat.le_of_ble_eq_true rfl) N18 G2 (hb hby at_34)
  have k22 : Go p e below m W T22 35 #[.val (.int p1), .unset, .unset, .unset, .unset] [(.ref b2)] := k22
  have Z22 : n0 ≤ h22.size := (Wr.size W22).symm ▸ Z18
  have f23 := f19.wr W22 G2
  have V22 : Arv Z h22 b2 c2 (.object "com/example/evenfall/evenfall/TransactionType") (11 : Int32) [(.ref s_DISBURSEMENT), (.ref s_PAYMENT), (.ref s_PREPAYMENT), (.ref s_CHARGE), (.ref s_PREPAID_FEE), .null, .null, .null, .null, .null, .null] .null := V22
  have k24 : Go p e below m W T22 37 #[.val (.int p1), .unset, .unset, .unset, .unset] [(.int (5 : Int32)), (.ref b2), (.ref b2)] := (k22.dup X22 hx (hb hby at_35) rfl).iconst X22 hx (hb hby at_36) (v := (5 : Int32)) rfl
  obtain ⟨T25, X25, e25, k25⟩ := k24.getS X22 hx hZ hown (host := "") (Or.inl (hv 14 rfl)) Via.refl e22 (S_s_ACCRUAL_ENTRY.ext f23.2) (hb hby at_37)
  have k25 : Go p e below m W T25 40 #[.val (.int p1), .unset, .unset, .unset, .unset] [(.ref s_ACCRUAL_ENTRY), (.int (5 : Int32)), (.ref b2), (.ref b2)] := k25
  obtain ⟨T26, h26, l26, X26, e26, W26, V26, N26, k26⟩ := k25.aastore (i := 5) X25 hx hZ e25 V22 O2 (Or.inr ⟨_, rfl, (Ins.self (E_s_ACCRUAL_ENTRY.ext f23.2))⟩) rfl rfl (by decide) (Nat.le_of_ble_eq_true rfl) N22 G2 (hb hby at_40)
  have k26 : Go p e below m W T26 41 #[.val (.int p1), .unset, .unset, .unset, .unset] [(.ref b2)] := k26
  have Z26 : n0 ≤ h26.size := (Wr.size W26).symm ▸ Z22
  have f27 := f23.wr W26 G2
  have V26 : Arv Z h26 b2 c2 (.object "com/example/evenfall/evenfall/TransactionType") (11 : Int32) [(.ref s_DISBURSEMENT), (.ref s_PAYMENT), (.ref s_PREPAYMENT), (.ref s_CHARGE), (.ref s_PREPAID_FEE), (.ref s_ACCRUAL_ENTRY), .null, .null, .null, .null, .null] .null := V26
  have k28 : Go p e below m W T26 44 #[.val (.int p1), .unset, .unset, .unset, .unset] [(.int (6 : Int32)), (.ref b2), (.ref b2)] := (k26.dup X26 hx (hb hby at_41) rfl).bipush X26 hx (hb hby at_42) (v := (6 : Int32)) rfl
  obtain ⟨T29, X29, e29, k29⟩ := k28.getS X26 hx hZ hown (host := "") (Or.inl (hv 16 rfl)) Via.refl e26 (S_s_INTEREST_POSTING.ext f27.2) (hb hby at_44)
  have k29 : Go p e below m W T29 47 #[.val (.int p1), .unset, .unset, .unset, .unset] [(.ref s_INTEREST_POSTING), (.int (6 : Int32)), (.ref b2), (.ref b2)] := k29
  obtain ⟨T30, h30, l30, X30, e30, W30, V30, N30, k30⟩ := k29.aastore (i := 6) X29 hx hZ e29 V26 O2 (Or.inr ⟨_, rfl, (Ins.self (E_s_INTEREST_POSTING.ext f27.2))⟩) rfl rfl (by decide) (Nat.le_of_ble_eq_true rfl) N26 G2 (hb hby at_47)
  have k30 : Go p e below m W T30 48 #[.val (.int p1), .unset, .unset, .unset, .unset] [(.ref b2)] := k30
  have Z30 : n0 ≤ h30.size := (Wr.size W30).symm ▸ Z26
  have f31 := f27.wr W30 G2
  have V30 : Arv Z h30 b2 c2 (.object "com/example/evenfall/evenfall/TransactionType") (11 : Int32) [(.ref s_DISBURSEMENT), (.ref s_PAYMENT), (.ref s_PREPAYMENT), (.ref s_CHARGE), (.ref s_PREPAID_FEE), (.ref s_ACCRUAL_ENTRY), (.ref s_INTEREST_POSTING), .null, .null, .null, .null] .null := V30
  have k32 : Go p e below m W T30 51 #[.val (.int p1), .unset, .unset, .unset, .unset] [(.int (7 : Int32)), (.ref b2), (.ref b2)] := (k30.dup X30 hx (hb hby at_48) rfl).bipush X30 hx (hb hby at_49) (v := (7 : Int32)) rfl
  obtain ⟨T33, X33, e33, k33⟩ := k32.getS X30 hx hZ hown (host := "") (Or.inl (hv 18 rfl)) Via.refl e30 (S_s_CAPITALISATION.ext f31.2) (hb hby at_51)
  have k33 : Go p e below m W T33 54 #[.val (.int p1), .unset, .unset, .unset, .unset] [(.ref s_CAPITALISATION), (.int (7 : Int32)), (.ref b2), (.ref b2)] := k33
  obtain ⟨T34, h34, l34, X34, e34, W34, V34, N34, k34⟩ := k33.aastore (i := 7) X33 hx hZ e33 V30 O2 (Or.inr ⟨_, rfl, (Ins.self (E_s_CAPITALISATION.ext f31.2))⟩) rfl rfl (by decide) (Nat.le_of_ble_eq_true rfl) N30 G2 (hb hby at_54)
  have k34 : Go p e below m W T34 55 #[.val (.int p1), .unset, .unset, .unset, .unset] [(.ref b2)] := k34
  have Z34 : n0 ≤ h34.size := (Wr.size W34).symm ▸ Z30
  have f35 := f31.wr W34 G2
  have V34 : Arv Z h34 b2 c2 (.object "com/example/evenfall/evenfall/TransactionType") (11 : Int32) [(.ref s_DISBURSEMENT), (.ref s_PAYMENT), (.ref s_PREPAYMENT), (.ref s_CHARGE), (.ref s_PREPAID_FEE), (.ref s_ACCRUAL_ENTRY), (.ref s_INTEREST_POSTING), (.ref s_CAPITALISATION), .null, .null, .null] .null := V34
  have k36 : Go p e below m W T34 58 #[.val (.int p1), .unset, .unset, .unset, .unset] [(.int (8 : Int32)), (.ref b2), (.ref b2)] := (k34.dup X34 hx (hb hby at_55) rfl).bipush X34 hx (hb hby at_56) (v := (8 : Int32)) rfl
  obtain ⟨T37, X37, e37, k37⟩ := k36.getS X34 hx hZ hown (host := "") (Or.inl (hv 20 rfl)) Via.refl e34 (S_s_RESERVE_APPLIED.ext f35.2) (hb hby at_58)
  have k37 : Go p e below m W T37 61 #[.val (.int p1), .unset, .unset, .unset, .unset] [(.ref s_RESERVE_APPLIED), (.int (8 : Int32)), (.ref b2), (.ref b2)] := k37
  obtain ⟨T38, h38, l38, X38, e38, W38, V38, N38, k38⟩ := k37.aastore (i := 8) X37 hx hZ e37 V34 O2 (Or.inr ⟨_, rfl, (Ins.self (E_s_RESERVE_APPLIED.ext f35.2))⟩) rfl rfl (by decide) (Nat.le_of_ble_eq_true rfl) N34 G2 (hb hby at_61)
  have k38 : Go p e below m W T38 62 #[.val (.int p1), .unset, .unset, .unset, .unset] [(.ref b2)] := k38
  have Z38 : n0 ≤ h38.size := (Wr.size W38).symm ▸ Z34
  have f39 := f35.wr W38 G2
  have V38 : Arv Z h38 b2 c2 (.object "com/example/evenfall/evenfall/TransactionType") (11 : Int32) [(.ref s_DISBURSEMENT), (.ref s_PAYMENT), (.ref s_PREPAYMENT), (.ref s_CHARGE), (.ref s_PREPAID_FEE), (.ref s_ACCRUAL_ENTRY), (.ref s_INTEREST_POSTING), (.ref s_CAPITALISATION), (.ref s_RESERVE_APPLIED), .null, .null] .null := V38
  have k40 : Go p e below m W T38 65 #[.val (.int p1), .unset, .unset, .unset, .unset] [(.int (9 : Int32)), (.ref b2), (.ref b2)] := (k38.dup X38 hx (hb hby at_62) rfl).bipush X38 hx (hb hby at_63) (v := (9 : Int32)) rfl
  obtain ⟨T41, X41, e41, k41⟩ := k40.getS X38 hx hZ hown (host := "") (Or.inl (hv 22 rfl)) Via.refl e38 (S_s_FEE_ACCRUAL.ext f39.2) (hb hby at_65)
  have k41 : Go p e below m W T41 68 #[.val (.int p1), .unset, .unset, .unset, .unset] [(.ref s_FEE_ACCRUAL), (.int (9 : Int32)), (.ref b2), (.ref b2)] := k41
  obtain ⟨T42, h42, l42, X42, e42, W42, V42, N42, k42⟩ := k41.aastore (i := 9) X41 hx hZ e41 V38 O2 (Or.inr ⟨_, rfl, (Ins.self (E_s_FEE_ACCRUAL.ext f39.2))⟩) rfl rfl (by decide) (Nat.le_of_ble_eq_true rfl) N38 G2 (hb hby at_68)
  have k42 : Go p e below m W T42 69 #[.val (.int p1), .unset, .unset, .unset, .unset] [(.ref b2)] := k42
  have Z42 : n0 ≤ h42.size := (Wr.size W42).symm ▸ Z38
  have f43 := f39.wr W42 G2
  have V42 : Arv Z h42 b2 c2 (.object "com/example/evenfall/evenfall/TransactionType") (11 : Int32) [(.ref s_DISBURSEMENT), (.ref s_PAYMENT), (.ref s_PREPAYMENT), (.ref s_CHARGE), (.ref s_PREPAID_FEE), (.ref s_ACCRUAL_ENTRY), (.ref s_INTEREST_POSTING), (.ref s_CAPITALISATION), (.ref s_RESERVE_APPLIED), (.ref s_FEE_ACCRUAL), .null] .null := V42
  have k44 : Go p e below m W T42 72 #[.val (.int p1), .unset, .unset, .unset, .unset] [(.int (10 : Int32)), (.ref b2), (.ref b2)] := (k42.dup X42 hx (hb hby at_69) rfl).bipush X42 hx (hb hby at_70) (v := (10 : Int32)) rfl
  obtain ⟨T45, X45, e45, k45⟩ := k44.getS X42 hx hZ hown (host := "") (Or.inl (hv 24 rfl)) Via.refl e42 (S_s_REFUND.ext f43.2) (hb hby at_72)
  have k45 : Go p e below m W T45 75 #[.val (.int p1), .unset, .unset, .unset, .unset] [(.ref s_REFUND), (.int (10 : Int32)), (.ref b2), (.ref b2)] := k45
  obtain ⟨T46, h46, l46, X46, e46, W46, V46, N46, k46⟩ := k45.aastore (i := 10) X45 hx hZ e45 V42 O2 (Or.inr ⟨_, rfl, (Ins.self (E_s_REFUND.ext f43.2))⟩) rfl rfl (by decide) (Nat.le_of_ble_eq_true rfl) N42 G2 (hb hby at_75)
  have k46 : Go p e below m W T46 76 #[.val (.int p1), .unset, .unset, .unset, .unset] [(.ref b2)] := k46
  have Z46 : n0 ≤ h46.size := (Wr.size W46).symm ▸ Z42
  have f47 := f43.wr W46 G2
  have V46 : Arv Z h46 b2 c2 (.object "com/example/evenfall/evenfall/TransactionType") (11 : Int32) [(.ref s_DISBURSEMENT), (.ref s_PAYMENT), (.ref s_PREPAYMENT), (.ref s_CHARGE), (.ref s_PREPAID_FEE), (.ref s_ACCRUAL_ENTRY), (.ref s_INTEREST_POSTING), (.ref s_CAPITALISATION), (.ref s_RESERVE_APPLIED), (.ref s_FEE_ACCRUAL), (.ref s_REFUND)] .null := V46
  have k48 : Go p e below m W T46 77 #[.val (.int p1), .val (.ref b2), .unset, .unset, .unset] [] := k46.astoreN X46 hx (hb hby at_76) rfl rfl
  have k49 : Go p e below m W T46 84 #[.val (.int p1), .val (.ref b2), .unset, .unset, .unset] [(.int ((p1 &&& (2147483647 : Int32)) % (11 : Int32)))] := ((((k48.iloadN X46 hx (hb hby at_77) rfl).ldcI X46 hx hZ hown (hv 26 rfl) (hb hby at_78)).iand X46 hx (hb hby at_80)).bipush X46 hx (hb hby at_81) (v := (11 : Int32)) rfl).irem X46 hx (hb hby at_83) (by decide)
  obtain ⟨r50, hr50, hs50⟩ : ∃ r : Int32, r = ((p1 &&& (2147483647 : Int32)) % (11 : Int32)) ∧ (r = (0 : Int32) ∨ r = (1 : Int32) ∨ r = (2 : Int32) ∨ r = (3 : Int32) ∨ r = (4 : Int32) ∨ r = (5 : Int32) ∨ r = (6 : Int32) ∨ r = (7 : Int32) ∨ r = (8 : Int32) ∨ r = (9 : Int32) ∨ r = (10 : Int32)) := ⟨_, rfl, own_11 p1⟩
  have k51 : Go p e below m W T46 84 #[.val (.int p1), .val (.ref b2), .unset, .unset, .unset] [(.int r50)] := hr50 ▸ k49
  clear hr50
  rcases hs50 with q52 | q53 | q54 | q55 | q56 | q57 | q58 | q59 | q60 | q61 | q62
  ·
    subst r50
    have k63 : Go p e below m W T46 85 #[.val (.int p1), .val (.ref b2), .val (.int (0 : Int32)), .unset, .unset] [] := k51.istoreN X46 hx (hb hby at_84) rfl
    have k64 : Go p e below m W T46 87 #[.val (.int p1), .val (.ref b2), .val (.int (0 : Int32)), .unset, .unset] [(.int (0 : Int32)), (.ref b2)] := (k63.aloadN X46 hx (hb hby at_85) rfl rfl).iloadN X46 hx (hb hby at_86) rfl
    have k65 : Go p e below m W T46 89 #[.val (.int p1), .val (.ref b2), .val (.int (0 : Int32)), .val (.ref s_DISBURSEMENT), .unset] [] := (k64.aaload (i := 0) (n := 11) X46 hx hZ e46 V46 rfl rfl (by decide) (by decide) rfl rfl (hb hby at_87)).astoreN X46 hx (hb hby at_88) rfl rfl
    have k66 : Go p e below m W T46 90 #[.val (.int p1), .val (.ref b2), .val (.int (0 : Int32)), .val (.ref s_DISBURSEMENT), .unset] [(.ref s_DISBURSEMENT)] := k65.aloadN X46 hx (hb hby at_89) rfl rfl
    obtain ⟨T67, X67, e67, k67⟩ := k66.getS X46 hx hZ hown (host := "") (Or.inl (hv 10 rfl)) Via.refl e46 (S_s_CHARGE.ext f47.2) (hb hby at_90)
    have k67 : Go p e below m W T67 93 #[.val (.int p1), .val (.ref b2), .val (.int (0 : Int32)), .val (.ref s_DISBURSEMENT), .unset] [(.ref s_CHARGE), (.ref s_DISBURSEMENT)] := k67
    have k68 : Go p e below m W T67 97 #[.val (.int p1), .val (.ref b2), .val (.int (0 : Int32)), .val (.ref s_DISBURSEMENT), .unset] [(.ref s_DISBURSEMENT)] := (k67.acmpNo X67 hx (hb hby at_93) rfl rfl (XT.aa_eq_f (fun q => (own_ne F23_ordinal F24_ordinal (by decide)) (Value.ref.inj q)))).aloadN X67 hx (hb hby at_96) rfl rfl
    obtain ⟨T69, X69, e69, k69⟩ := k68.getS X67 hx hZ hown (host := "") (Or.inl (hv 12 rfl)) Via.refl e67 (S_s_PREPAID_FEE.ext f47.2) (hb hby at_97)
    have k69 : Go p e below m W T69 100 #[.val (.int p1), .val (.ref b2), .val (.int (0 : Int32)), .val (.ref s_DISBURSEMENT), .unset] [(.ref s_PREPAID_FEE), (.ref s_DISBURSEMENT)] := k69
    have k70 : Go p e below m W T69 110 #[.val (.int p1), .val (.ref b2), .val (.int (0 : Int32)), .val (.ref s_DISBURSEMENT), .val (.int (0 : Int32))] [] := ((k69.acmpYes X69 hx (hb hby at_100) rfl rfl (XT.aa_ne_t (fun q => (own_ne F23_ordinal F25_ordinal (by decide)) (Value.ref.inj q))) (by decide) (by decide)).iconst X69 hx (hb hby at_107) (v := (0 : Int32)) rfl).istore X69 hx (hb hby at_108) rfl
    have k71 : Go p e below m W T69 111 #[.val (.int p1), .val (.ref b2), .val (.int (0 : Int32)), .val (.ref s_DISBURSEMENT), .val (.int (0 : Int32))] [(.ref s_DISBURSEMENT)] := k70.aloadN X69 hx (hb hby at_110) rfl rfl
    obtain ⟨T72, v72, L72, X72, Q72, k72⟩ := k71.virt (y := (⟨"com/example/evenfall/evenfall/TransactionType", "namesFee", "()Z"⟩ : MethodName)) (z := (⟨"com/example/evenfall/evenfall/TransactionType", "namesFee", "()Z"⟩ : MethodName)) (Wd := 0) (cells' := 1) (slots' := 11) (argsL := []) (rest := []) X69 hx hZ hown (by rw [hml]; rfl) (hv 27 rfl) (hv 28 rfl) (notFace_of_selects (args := #[]) (mvT hZ (hv 30 rfl))) (hv 30 rfl) (hv 29 rfl) (hv 31 rfl) (hv 3 rfl) (hb hby at_111) (by decide) (rm2 l Z a0 hw [] s_DISBURSEMENT s_FEE_EVENT s_EVENT h46 n0 Z46 (F28_source.ext f47.2) (S_s_FEE_EVENT.ext f47.2) (own_ne F31_ordinal F32_ordinal (by decide))) e69 (E_s_DISBURSEMENT.ext f47.2) rfl rfl pd_rm0_0 rfl (Nat.le_of_eq rfl) (by decide) (by decide) rfl rfl (by decide) (by decide)
    obtain ⟨rfl, Nq72, e72q⟩ := Q72
    have N72 := Fr.app N46 Nq72
    have e72 : T72.heap = h46 := e72q
    have k72 : Go p e below m W T72 114 #[.val (.int p1), .val (.ref b2), .val (.int (0 : Int32)), .val (.ref s_DISBURSEMENT), .val (.int (0 : Int32))] [(.int (0 : Int32))] := k72
    have k73 : Go p e below m W T72 124 #[.val (.int p1), .val (.ref b2), .val (.int (0 : Int32)), .val (.ref s_DISBURSEMENT), .val (.int (0 : Int32))] [(.int (1 : Int32))] := (((k72.iload X72 hx (hb hby at_114) rfl).icmpNo X72 hx (hb hby at_116) (XT.ii_ne_f (by decide))).iconst X72 hx (hb hby at_119) (v := (1 : Int32)) rfl).goto X72 hx (hb hby at_120) (by decide) (by decide)
    exact k73.ireturnN X72 hx (t := .boolean) Bd.returns (by simp) rfl (hb hby at_124) (BodyLoose.notSynchronized Bd) (by rw [e72]; exact ⟨rfl, N72⟩) (by decide) (by decide)
  ·
    subst r50
    have k74 : Go p e below m W T46 85 #[.val (.int p1), .val (.ref b2), .val (.int (1 : Int32)), .unset, .unset] [] := k51.istoreN X46 hx (hb hby at_84) rfl
    have k75 : Go p e below m W T46 87 #[.val (.int p1), .val (.ref b2), .val (.int (1 : Int32)), .unset, .unset] [(.int (1 : Int32)), (.ref b2)] := (k74.aloadN X46 hx (hb hby at_85) rfl rfl).iloadN X46 hx (hb hby at_86) rfl
    have k76 : Go p e below m W T46 89 #[.val (.int p1), .val (.ref b2), .val (.int (1 : Int32)), .val (.ref s_PAYMENT), .unset] [] := (k75.aaload (i := 1) (n := 11) X46 hx hZ e46 V46 rfl rfl (by decide) (by decide) rfl rfl (hb hby at_87)).astoreN X46 hx (hb hby at_88) rfl rfl
    have k77 : Go p e below m W T46 90 #[.val (.int p1), .val (.ref b2), .val (.int (1 : Int32)), .val (.ref s_PAYMENT), .unset] [(.ref s_PAYMENT)] := k76.aloadN X46 hx (hb hby at_89) rfl rfl
    obtain ⟨T78, X78, e78, k78⟩ := k77.getS X46 hx hZ hown (host := "") (Or.inl (hv 10 rfl)) Via.refl e46 (S_s_CHARGE.ext f47.2) (hb hby at_90)
    have k78 : Go p e below m W T78 93 #[.val (.int p1), .val (.ref b2), .val (.int (1 : Int32)), .val (.ref s_PAYMENT), .unset] [(.ref s_CHARGE), (.ref s_PAYMENT)] := k78
    have k79 : Go p e below m W T78 97 #[.val (.int p1), .val (.ref b2), .val (.int (1 : Int32)), .val (.ref s_PAYMENT), .unset] [(.ref s_PAYMENT)] := (k78.acmpNo X78 hx (hb hby at_93) rfl rfl (XT.aa_eq_f (fun q => (own_ne F45_ordinal F24_ordinal (by decide)) (Value.ref.inj q)))).aloadN X78 hx (hb hby at_96) rfl rfl
    obtain ⟨T80, X80, e80, k80⟩ := k79.getS X78 hx hZ hown (host := "") (Or.inl (hv 12 rfl)) Via.refl e78 (S_s_PREPAID_FEE.ext f47.2) (hb hby at_97)
    have k80 : Go p e below m W T80 100 #[.val (.int p1), .val (.ref b2), .val (.int (1 : Int32)), .val (.ref s_PAYMENT), .unset] [(.ref s_PREPAID_FEE), (.ref s_PAYMENT)] := k80
    have k81 : Go p e below m W T80 110 #[.val (.int p1), .val (.ref b2), .val (.int (1 : Int32)), .val (.ref s_PAYMENT), .val (.int (0 : Int32))] [] := ((k80.acmpYes X80 hx (hb hby at_100) rfl rfl (XT.aa_ne_t (fun q => (own_ne F45_ordinal F25_ordinal (by decide)) (Value.ref.inj q))) (by decide) (by decide)).iconst X80 hx (hb hby at_107) (v := (0 : Int32)) rfl).istore X80 hx (hb hby at_108) rfl
    have k82 : Go p e below m W T80 111 #[.val (.int p1), .val (.ref b2), .val (.int (1 : Int32)), .val (.ref s_PAYMENT), .val (.int (0 : Int32))] [(.ref s_PAYMENT)] := k81.aloadN X80 hx (hb hby at_110) rfl rfl
    obtain ⟨T83, v83, L83, X83, Q83, k83⟩ := k82.virt (y := (⟨"com/example/evenfall/evenfall/TransactionType", "namesFee", "()Z"⟩ : MethodName)) (z := (⟨"com/example/evenfall/evenfall/TransactionType", "namesFee", "()Z"⟩ : MethodName)) (Wd := 0) (cells' := 1) (slots' := 11) (argsL := []) (rest := []) X80 hx hZ hown (by rw [hml]; rfl) (hv 27 rfl) (hv 28 rfl) (notFace_of_selects (args := #[]) (mvT hZ (hv 30 rfl))) (hv 30 rfl) (hv 29 rfl) (hv 31 rfl) (hv 3 rfl) (hb hby at_111) (by decide) (rm2 l Z a0 hw [] s_PAYMENT s_FEE_EVENT s_EVENT h46 n0 Z46 (F46_source.ext f47.2) (S_s_FEE_EVENT.ext f47.2) (own_ne F31_ordinal F32_ordinal (by decide))) e80 (E_s_PAYMENT.ext f47.2) rfl rfl pd_rm0_0 rfl (Nat.le_of_eq rfl) (by decide) (by decide) rfl rfl (by decide) (by decide)
    obtain ⟨rfl, Nq83, e83q⟩ := Q83
    have N83 := Fr.app N46 Nq83
    have e83 : T83.heap = h46 := e83q
    have k83 : Go p e below m W T83 114 #[.val (.int p1), .val (.ref b2), .val (.int (1 : Int32)), .val (.ref s_PAYMENT), .val (.int (0 : Int32))] [(.int (0 : Int32))] := k83
    have k84 : Go p e below m W T83 124 #[.val (.int p1), .val (.ref b2), .val (.int (1 : Int32)), .val (.ref s_PAYMENT), .val (.int (0 : Int32))] [(.int (1 : Int32))] := (((k83.iload X83 hx (hb hby at_114) rfl).icmpNo X83 hx (hb hby at_116) (XT.ii_ne_f (by decide))).iconst X83 hx (hb hby at_119) (v := (1 : Int32)) rfl).goto X83 hx (hb hby at_120) (by decide) (by decide)
    exact k84.ireturnN X83 hx (t := .boolean) Bd.returns (by simp) rfl (hb hby at_124) (BodyLoose.notSynchronized Bd) (by rw [e83]; exact ⟨rfl, N83⟩) (by decide) (by decide)
  ·
    subst r50
    have k85 : Go p e below m W T46 85 #[.val (.int p1), .val (.ref b2), .val (.int (2 : Int32)), .unset, .unset] [] := k51.istoreN X46 hx (hb hby at_84) rfl
    have k86 : Go p e below m W T46 87 #[.val (.int p1), .val (.ref b2), .val (.int (2 : Int32)), .unset, .unset] [(.int (2 : Int32)), (.ref b2)] := (k85.aloadN X46 hx (hb hby at_85) rfl rfl).iloadN X46 hx (hb hby at_86) rfl
    have k87 : Go p e below m W T46 89 #[.val (.int p1), .val (.ref b2), .val (.int (2 : Int32)), .val (.ref s_PREPAYMENT), .unset] [] := (k86.aaload (i := 2) (n := 11) X46 hx hZ e46 V46 rfl rfl (by decide) (by decide) rfl rfl (hb hby at_87)).astoreN X46 hx (hb hby at_88) rfl rfl
    have k88 : Go p e below m W T46 90 #[.val (.int p1), .val (.ref b2), .val (.int (2 : Int32)), .val (.ref s_PREPAYMENT), .unset] [(.ref s_PREPAYMENT)] := k87.aloadN X46 hx (hb hby at_89) rfl rfl
    obtain ⟨T89, X89, e89, k89⟩ := k88.getS X46 hx hZ hown (host := "") (Or.inl (hv 10 rfl)) Via.refl e46 (S_s_CHARGE.ext f47.2) (hb hby at_90)
    have k89 : Go p e below m W T89 93 #[.val (.int p1), .val (.ref b2), .val (.int (2 : Int32)), .val (.ref s_PREPAYMENT), .unset] [(.ref s_CHARGE), (.ref s_PREPAYMENT)] := k89
    have k90 : Go p e below m W T89 97 #[.val (.int p1), .val (.ref b2), .val (.int (2 : Int32)), .val (.ref s_PREPAYMENT), .unset] [(.ref s_PREPAYMENT)] := (k89.acmpNo X89 hx (hb hby at_93) rfl rfl (XT.aa_eq_f (fun q => (own_ne F41_ordinal F24_ordinal (by decide)) (Value.ref.inj q)))).aloadN X89 hx (hb hby at_96) rfl rfl
    obtain ⟨T91, X91, e91, k91⟩ := k90.getS X89 hx hZ hown (host := "") (Or.inl (hv 12 rfl)) Via.refl e89 (S_s_PREPAID_FEE.ext f47.2) (hb hby at_97)
    have k91 : Go p e below m W T91 100 #[.val (.int p1), .val (.ref b2), .val (.int (2 : Int32)), .val (.ref s_PREPAYMENT), .unset] [(.ref s_PREPAID_FEE), (.ref s_PREPAYMENT)] := k91
    have k92 : Go p e below m W T91 110 #[.val (.int p1), .val (.ref b2), .val (.int (2 : Int32)), .val (.ref s_PREPAYMENT), .val (.int (0 : Int32))] [] := ((k91.acmpYes X91 hx (hb hby at_100) rfl rfl (XT.aa_ne_t (fun q => (own_ne F41_ordinal F25_ordinal (by decide)) (Value.ref.inj q))) (by decide) (by decide)).iconst X91 hx (hb hby at_107) (v := (0 : Int32)) rfl).istore X91 hx (hb hby at_108) rfl
    have k93 : Go p e below m W T91 111 #[.val (.int p1), .val (.ref b2), .val (.int (2 : Int32)), .val (.ref s_PREPAYMENT), .val (.int (0 : Int32))] [(.ref s_PREPAYMENT)] := k92.aloadN X91 hx (hb hby at_110) rfl rfl
    obtain ⟨T94, v94, L94, X94, Q94, k94⟩ := k93.virt (y := (⟨"com/example/evenfall/evenfall/TransactionType", "namesFee", "()Z"⟩ : MethodName)) (z := (⟨"com/example/evenfall/evenfall/TransactionType", "namesFee", "()Z"⟩ : MethodName)) (Wd := 0) (cells' := 1) (slots' := 11) (argsL := []) (rest := []) X91 hx hZ hown (by rw [hml]; rfl) (hv 27 rfl) (hv 28 rfl) (notFace_of_selects (args := #[]) (mvT hZ (hv 30 rfl))) (hv 30 rfl) (hv 29 rfl) (hv 31 rfl) (hv 3 rfl) (hb hby at_111) (by decide) (rm2 l Z a0 hw [] s_PREPAYMENT s_FEE_EVENT s_EVENT h46 n0 Z46 (F42_source.ext f47.2) (S_s_FEE_EVENT.ext f47.2) (own_ne F31_ordinal F32_ordinal (by decide))) e91 (E_s_PREPAYMENT.ext f47.2) rfl rfl pd_rm0_0 rfl (Nat.le_of_eq rfl) (by decide) (by decide) rfl rfl (by decide) (by decide)
    obtain ⟨rfl, Nq94, e94q⟩ := Q94
    have N94 := Fr.app N46 Nq94
    have e94 : T94.heap = h46 := e94q
    have k94 : Go p e below m W T94 114 #[.val (.int p1), .val (.ref b2), .val (.int (2 : Int32)), .val (.ref s_PREPAYMENT), .val (.int (0 : Int32))] [(.int (0 : Int32))] := k94
    have k95 : Go p e below m W T94 124 #[.val (.int p1), .val (.ref b2), .val (.int (2 : Int32)), .val (.ref s_PREPAYMENT), .val (.int (0 : Int32))] [(.int (1 : Int32))] := (((k94.iload X94 hx (hb hby at_114) rfl).icmpNo X94 hx (hb hby at_116) (XT.ii_ne_f (by decide))).iconst X94 hx (hb hby at_119) (v := (1 : Int32)) rfl).goto X94 hx (hb hby at_120) (by decide) (by decide)
    exact k95.ireturnN X94 hx (t := .boolean) Bd.returns (by simp) rfl (hb hby at_124) (BodyLoose.notSynchronized Bd) (by rw [e94]; exact ⟨rfl, N94⟩) (by decide) (by decide)
  ·
    subst r50
    have k96 : Go p e below m W T46 85 #[.val (.int p1), .val (.ref b2), .val (.int (3 : Int32)), .unset, .unset] [] := k51.istoreN X46 hx (hb hby at_84) rfl
    have k97 : Go p e below m W T46 87 #[.val (.int p1), .val (.ref b2), .val (.int (3 : Int32)), .unset, .unset] [(.int (3 : Int32)), (.ref b2)] := (k96.aloadN X46 hx (hb hby at_85) rfl rfl).iloadN X46 hx (hb hby at_86) rfl
    have k98 : Go p e below m W T46 89 #[.val (.int p1), .val (.ref b2), .val (.int (3 : Int32)), .val (.ref s_CHARGE), .unset] [] := (k97.aaload (i := 3) (n := 11) X46 hx hZ e46 V46 rfl rfl (by decide) (by decide) rfl rfl (hb hby at_87)).astoreN X46 hx (hb hby at_88) rfl rfl
    have k99 : Go p e below m W T46 90 #[.val (.int p1), .val (.ref b2), .val (.int (3 : Int32)), .val (.ref s_CHARGE), .unset] [(.ref s_CHARGE)] := k98.aloadN X46 hx (hb hby at_89) rfl rfl
    obtain ⟨T100, X100, e100, k100⟩ := k99.getS X46 hx hZ hown (host := "") (Or.inl (hv 10 rfl)) Via.refl e46 (S_s_CHARGE.ext f47.2) (hb hby at_90)
    have k100 : Go p e below m W T100 93 #[.val (.int p1), .val (.ref b2), .val (.int (3 : Int32)), .val (.ref s_CHARGE), .unset] [(.ref s_CHARGE), (.ref s_CHARGE)] := k100
    have k101 : Go p e below m W T100 110 #[.val (.int p1), .val (.ref b2), .val (.int (3 : Int32)), .val (.ref s_CHARGE), .val (.int (1 : Int32))] [] := (((k100.acmpYes X100 hx (hb hby at_93) rfl rfl (XT.aa_eq_t rfl) (by decide) (by decide)).iconst X100 hx (hb hby at_103) (v := (1 : Int32)) rfl).goto X100 hx (hb hby at_104) (by decide) (by decide)).istore X100 hx (hb hby at_108) rfl
    have k102 : Go p e below m W T100 111 #[.val (.int p1), .val (.ref b2), .val (.int (3 : Int32)), .val (.ref s_CHARGE), .val (.int (1 : Int32))] [(.ref s_CHARGE)] := k101.aloadN X100 hx (hb hby at_110) rfl rfl
    obtain ⟨T103, v103, L103, X103, Q103, k103⟩ := k102.virt (y := (⟨"com/example/evenfall/evenfall/TransactionType", "namesFee", "()Z"⟩ : MethodName)) (z := (⟨"com/example/evenfall/evenfall/TransactionType", "namesFee", "()Z"⟩ : MethodName)) (Wd := 0) (cells' := 1) (slots' := 11) (argsL := []) (rest := []) X100 hx hZ hown (by rw [hml]; rfl) (hv 27 rfl) (hv 28 rfl) (notFace_of_selects (args := #[]) (mvT hZ (hv 30 rfl))) (hv 30 rfl) (hv 29 rfl) (hv 31 rfl) (hv 3 rfl) (hb hby at_111) (by decide) (rm1 l Z a0 hw [] s_CHARGE s_FEE_EVENT h46 n0 Z46 (F33_source.ext f47.2) (S_s_FEE_EVENT.ext f47.2)) e100 (E_s_CHARGE.ext f47.2) rfl rfl pd_rm0_0 rfl (Nat.le_of_eq rfl) (by decide) (by decide) rfl rfl (by decide) (by decide)
    obtain ⟨rfl, Nq103, e103q⟩ := Q103
    have N103 := Fr.app N46 Nq103
    have e103 : T103.heap = h46 := e103q
    have k103 : Go p e below m W T103 114 #[.val (.int p1), .val (.ref b2), .val (.int (3 : Int32)), .val (.ref s_CHARGE), .val (.int (1 : Int32))] [(.int (1 : Int32))] := k103
    have k104 : Go p e below m W T103 124 #[.val (.int p1), .val (.ref b2), .val (.int (3 : Int32)), .val (.ref s_CHARGE), .val (.int (1 : Int32))] [(.int (1 : Int32))] := (((k103.iload X103 hx (hb hby at_114) rfl).icmpNo X103 hx (hb hby at_116) (XT.ii_ne_f (by decide))).iconst X103 hx (hb hby at_119) (v := (1 : Int32)) rfl).goto X103 hx (hb hby at_120) (by decide) (by decide)
    exact k104.ireturnN X103 hx (t := .boolean) Bd.returns (by simp) rfl (hb hby at_124) (BodyLoose.notSynchronized Bd) (by rw [e103]; exact ⟨rfl, N103⟩) (by decide) (by decide)
  ·
    subst r50
    have k105 : Go p e below m W T46 85 #[.val (.int p1), .val (.ref b2), .val (.int (4 : Int32)), .unset, .unset] [] := k51.istoreN X46 hx (hb hby at_84) rfl
    have k106 : Go p e below m W T46 87 #[.val (.int p1), .val (.ref b2), .val (.int (4 : Int32)), .unset, .unset] [(.int (4 : Int32)), (.ref b2)] := (k105.aloadN X46 hx (hb hby at_85) rfl rfl).iloadN X46 hx (hb hby at_86) rfl
    have k107 : Go p e below m W T46 89 #[.val (.int p1), .val (.ref b2), .val (.int (4 : Int32)), .val (.ref s_PREPAID_FEE), .unset] [] := (k106.aaload (i := 4) (n := 11) X46 hx hZ e46 V46 rfl rfl (by decide) (by decide) rfl rfl (hb hby at_87)).astoreN X46 hx (hb hby at_88) rfl rfl
    have k108 : Go p e below m W T46 90 #[.val (.int p1), .val (.ref b2), .val (.int (4 : Int32)), .val (.ref s_PREPAID_FEE), .unset] [(.ref s_PREPAID_FEE)] := k107.aloadN X46 hx (hb hby at_89) rfl rfl
    obtain ⟨T109, X109, e109, k109⟩ := k108.getS X46 hx hZ hown (host := "") (Or.inl (hv 10 rfl)) Via.refl e46 (S_s_CHARGE.ext f47.2) (hb hby at_90)
    have k109 : Go p e below m W T109 93 #[.val (.int p1), .val (.ref b2), .val (.int (4 : Int32)), .val (.ref s_PREPAID_FEE), .unset] [(.ref s_CHARGE), (.ref s_PREPAID_FEE)] := k109
    have k110 : Go p e below m W T109 97 #[.val (.int p1), .val (.ref b2), .val (.int (4 : Int32)), .val (.ref s_PREPAID_FEE), .unset] [(.ref s_PREPAID_FEE)] := (k109.acmpNo X109 hx (hb hby at_93) rfl rfl (XT.aa_eq_f (fun q => (own_ne F25_ordinal F24_ordinal (by decide)) (Value.ref.inj q)))).aloadN X109 hx (hb hby at_96) rfl rfl
    obtain ⟨T111, X111, e111, k111⟩ := k110.getS X109 hx hZ hown (host := "") (Or.inl (hv 12 rfl)) Via.refl e109 (S_s_PREPAID_FEE.ext f47.2) (hb hby at_97)
    have k111 : Go p e below m W T111 100 #[.val (.int p1), .val (.ref b2), .val (.int (4 : Int32)), .val (.ref s_PREPAID_FEE), .unset] [(.ref s_PREPAID_FEE), (.ref s_PREPAID_FEE)] := k111
    have k112 : Go p e below m W T111 110 #[.val (.int p1), .val (.ref b2), .val (.int (4 : Int32)), .val (.ref s_PREPAID_FEE), .val (.int (1 : Int32))] [] := (((k111.acmpNo X111 hx (hb hby at_100) rfl rfl (XT.aa_ne_f rfl)).iconst X111 hx (hb hby at_103) (v := (1 : Int32)) rfl).goto X111 hx (hb hby at_104) (by decide) (by decide)).istore X111 hx (hb hby at_108) rfl
    have k113 : Go p e below m W T111 111 #[.val (.int p1), .val (.ref b2), .val (.int (4 : Int32)), .val (.ref s_PREPAID_FEE), .val (.int (1 : Int32))] [(.ref s_PREPAID_FEE)] := k112.aloadN X111 hx (hb hby at_110) rfl rfl
    obtain ⟨T114, v114, L114, X114, Q114, k114⟩ := k113.virt (y := (⟨"com/example/evenfall/evenfall/TransactionType", "namesFee", "()Z"⟩ : MethodName)) (z := (⟨"com/example/evenfall/evenfall/TransactionType", "namesFee", "()Z"⟩ : MethodName)) (Wd := 0) (cells' := 1) (slots' := 11) (argsL := []) (rest := []) X111 hx hZ hown (by rw [hml]; rfl) (hv 27 rfl) (hv 28 rfl) (notFace_of_selects (args := #[]) (mvT hZ (hv 30 rfl))) (hv 30 rfl) (hv 29 rfl) (hv 31 rfl) (hv 3 rfl) (hb hby at_111) (by decide) (rm1 l Z a0 hw [] s_PREPAID_FEE s_FEE_EVENT h46 n0 Z46 (F53_source.ext f47.2) (S_s_FEE_EVENT.ext f47.2)) e111 (E_s_PREPAID_FEE.ext f47.2) rfl rfl pd_rm0_0 rfl (Nat.le_of_eq rfl) (by decide) (by decide) rfl rfl (by decide) (by decide)
    obtain ⟨rfl, Nq114, e114q⟩ := Q114
    have N114 := Fr.app N46 Nq114
    have e114 : T114.heap = h46 := e114q
    have k114 : Go p e below m W T114 114 #[.val (.int p1), .val (.ref b2), .val (.int (4 : Int32)), .val (.ref s_PREPAID_FEE), .val (.int (1 : Int32))] [(.int (1 : Int32))] := k114
    have k115 : Go p e below m W T114 124 #[.val (.int p1), .val (.ref b2), .val (.int (4 : Int32)), .val (.ref s_PREPAID_FEE), .val (.int (1 : Int32))] [(.int (1 : Int32))] := (((k114.iload X114 hx (hb hby at_114) rfl).icmpNo X114 hx (hb hby at_116) (XT.ii_ne_f (by decide))).iconst X114 hx (hb hby at_119) (v := (1 : Int32)) rfl).goto X114 hx (hb hby at_120) (by decide) (by decide)
    exact k115.ireturnN X114 hx (t := .boolean) Bd.returns (by simp) rfl (hb hby at_124) (BodyLoose.notSynchronized Bd) (by rw [e114]; exact ⟨rfl, N114⟩) (by decide) (by decide)
  ·
    subst r50
    have k116 : Go p e below m W T46 85 #[.val (.int p1), .val (.ref b2), .val (.int (5 : Int32)), .unset, .unset] [] := k51.istoreN X46 hx (hb hby at_84) rfl
    have k117 : Go p e below m W T46 87 #[.val (.int p1), .val (.ref b2), .val (.int (5 : Int32)), .unset, .unset] [(.int (5 : Int32)), (.ref b2)] := (k116.aloadN X46 hx (hb hby at_85) rfl rfl).iloadN X46 hx (hb hby at_86) rfl
    have k118 : Go p e below m W T46 89 #[.val (.int p1), .val (.ref b2), .val (.int (5 : Int32)), .val (.ref s_ACCRUAL_ENTRY), .unset] [] := (k117.aaload (i := 5) (n := 11) X46 hx hZ e46 V46 rfl rfl (by decide) (by decide) rfl rfl (hb hby at_87)).astoreN X46 hx (hb hby at_88) rfl rfl
    have k119 : Go p e below m W T46 90 #[.val (.int p1), .val (.ref b2), .val (.int (5 : Int32)), .val (.ref s_ACCRUAL_ENTRY), .unset] [(.ref s_ACCRUAL_ENTRY)] := k118.aloadN X46 hx (hb hby at_89) rfl rfl
    obtain ⟨T120, X120, e120, k120⟩ := k119.getS X46 hx hZ hown (host := "") (Or.inl (hv 10 rfl)) Via.refl e46 (S_s_CHARGE.ext f47.2) (hb hby at_90)
    have k120 : Go p e below m W T120 93 #[.val (.int p1), .val (.ref b2), .val (.int (5 : Int32)), .val (.ref s_ACCRUAL_ENTRY), .unset] [(.ref s_CHARGE), (.ref s_ACCRUAL_ENTRY)] := k120
    have k121 : Go p e below m W T120 97 #[.val (.int p1), .val (.ref b2), .val (.int (5 : Int32)), .val (.ref s_ACCRUAL_ENTRY), .unset] [(.ref s_ACCRUAL_ENTRY)] := (k120.acmpNo X120 hx (hb hby at_93) rfl rfl (XT.aa_eq_f (fun q => (own_ne F49_ordinal F24_ordinal (by decide)) (Value.ref.inj q)))).aloadN X120 hx (hb hby at_96) rfl rfl
    obtain ⟨T122, X122, e122, k122⟩ := k121.getS X120 hx hZ hown (host := "") (Or.inl (hv 12 rfl)) Via.refl e120 (S_s_PREPAID_FEE.ext f47.2) (hb hby at_97)
    have k122 : Go p e below m W T122 100 #[.val (.int p1), .val (.ref b2), .val (.int (5 : Int32)), .val (.ref s_ACCRUAL_ENTRY), .unset] [(.ref s_PREPAID_FEE), (.ref s_ACCRUAL_ENTRY)] := k122
    have k123 : Go p e below m W T122 110 #[.val (.int p1), .val (.ref b2), .val (.int (5 : Int32)), .val (.ref s_ACCRUAL_ENTRY), .val (.int (0 : Int32))] [] := ((k122.acmpYes X122 hx (hb hby at_100) rfl rfl (XT.aa_ne_t (fun q => (own_ne F49_ordinal F25_ordinal (by decide)) (Value.ref.inj q))) (by decide) (by decide)).iconst X122 hx (hb hby at_107) (v := (0 : Int32)) rfl).istore X122 hx (hb hby at_108) rfl
    have k124 : Go p e below m W T122 111 #[.val (.int p1), .val (.ref b2), .val (.int (5 : Int32)), .val (.ref s_ACCRUAL_ENTRY), .val (.int (0 : Int32))] [(.ref s_ACCRUAL_ENTRY)] := k123.aloadN X122 hx (hb hby at_110) rfl rfl
    obtain ⟨T125, v125, L125, X125, Q125, k125⟩ := k124.virt (y := (⟨"com/example/evenfall/evenfall/TransactionType", "namesFee", "()Z"⟩ : MethodName)) (z := (⟨"com/example/evenfall/evenfall/TransactionType", "namesFee", "()Z"⟩ : MethodName)) (Wd := 0) (cells' := 1) (slots' := 11) (argsL := []) (rest := []) X122 hx hZ hown (by rw [hml]; rfl) (hv 27 rfl) (hv 28 rfl) (notFace_of_selects (args := #[]) (mvT hZ (hv 30 rfl))) (hv 30 rfl) (hv 29 rfl) (hv 31 rfl) (hv 3 rfl) (hb hby at_111) (by decide) (rm2 l Z a0 hw [] s_ACCRUAL_ENTRY s_FEE_EVENT s_RUN h46 n0 Z46 (F50_source.ext f47.2) (S_s_FEE_EVENT.ext f47.2) (own_ne F38_ordinal F32_ordinal (by decide))) e122 (E_s_ACCRUAL_ENTRY.ext f47.2) rfl rfl pd_rm0_0 rfl (Nat.le_of_eq rfl) (by decide) (by decide) rfl rfl (by decide) (by decide)
    obtain ⟨rfl, Nq125, e125q⟩ := Q125
    have N125 := Fr.app N46 Nq125
    have e125 : T125.heap = h46 := e125q
    have k125 : Go p e below m W T125 114 #[.val (.int p1), .val (.ref b2), .val (.int (5 : Int32)), .val (.ref s_ACCRUAL_ENTRY), .val (.int (0 : Int32))] [(.int (0 : Int32))] := k125
    have k126 : Go p e below m W T125 124 #[.val (.int p1), .val (.ref b2), .val (.int (5 : Int32)), .val (.ref s_ACCRUAL_ENTRY), .val (.int (0 : Int32))] [(.int (1 : Int32))] := (((k125.iload X125 hx (hb hby at_114) rfl).icmpNo X125 hx (hb hby at_116) (XT.ii_ne_f (by decide))).iconst X125 hx (hb hby at_119) (v := (1 : Int32)) rfl).goto X125 hx (hb hby at_120) (by decide) (by decide)
    exact k126.ireturnN X125 hx (t := .boolean) Bd.returns (by simp) rfl (hb hby at_124) (BodyLoose.notSynchronized Bd) (by rw [e125]; exact ⟨rfl, N125⟩) (by decide) (by decide)
  ·
    subst r50
    have k127 : Go p e below m W T46 85 #[.val (.int p1), .val (.ref b2), .val (.int (6 : Int32)), .unset, .unset] [] := k51.istoreN X46 hx (hb hby at_84) rfl
    have k128 : Go p e below m W T46 87 #[.val (.int p1), .val (.ref b2), .val (.int (6 : Int32)), .unset, .unset] [(.int (6 : Int32)), (.ref b2)] := (k127.aloadN X46 hx (hb hby at_85) rfl rfl).iloadN X46 hx (hb hby at_86) rfl
    have k129 : Go p e below m W T46 89 #[.val (.int p1), .val (.ref b2), .val (.int (6 : Int32)), .val (.ref s_INTEREST_POSTING), .unset] [] := (k128.aaload (i := 6) (n := 11) X46 hx hZ e46 V46 rfl rfl (by decide) (by decide) rfl rfl (hb hby at_87)).astoreN X46 hx (hb hby at_88) rfl rfl
    have k130 : Go p e below m W T46 90 #[.val (.int p1), .val (.ref b2), .val (.int (6 : Int32)), .val (.ref s_INTEREST_POSTING), .unset] [(.ref s_INTEREST_POSTING)] := k129.aloadN X46 hx (hb hby at_89) rfl rfl
    obtain ⟨T131, X131, e131, k131⟩ := k130.getS X46 hx hZ hown (host := "") (Or.inl (hv 10 rfl)) Via.refl e46 (S_s_CHARGE.ext f47.2) (hb hby at_90)
    have k131 : Go p e below m W T131 93 #[.val (.int p1), .val (.ref b2), .val (.int (6 : Int32)), .val (.ref s_INTEREST_POSTING), .unset] [(.ref s_CHARGE), (.ref s_INTEREST_POSTING)] := k131
    have k132 : Go p e below m W T131 97 #[.val (.int p1), .val (.ref b2), .val (.int (6 : Int32)), .val (.ref s_INTEREST_POSTING), .unset] [(.ref s_INTEREST_POSTING)] := (k131.acmpNo X131 hx (hb hby at_93) rfl rfl (XT.aa_eq_f (fun q => (own_ne F51_ordinal F24_ordinal (by decide)) (Value.ref.inj q)))).aloadN X131 hx (hb hby at_96) rfl rfl
    obtain ⟨T133, X133, e133, k133⟩ := k132.getS X131 hx hZ hown (host := "") (Or.inl (hv 12 rfl)) Via.refl e131 (S_s_PREPAID_FEE.ext f47.2) (hb hby at_97)
    have k133 : Go p e below m W T133 100 #[.val (.int p1), .val (.ref b2), .val (.int (6 : Int32)), .val (.ref s_INTEREST_POSTING), .unset] [(.ref s_PREPAID_FEE), (.ref s_INTEREST_POSTING)] := k133
    have k134 : Go p e below m W T133 110 #[.val (.int p1), .val (.ref b2), .val (.int (6 : Int32)), .val (.ref s_INTEREST_POSTING), .val (.int (0 : Int32))] [] := ((k133.acmpYes X133 hx (hb hby at_100) rfl rfl (XT.aa_ne_t (fun q => (own_ne F51_ordinal F25_ordinal (by decide)) (Value.ref.inj q))) (by decide) (by decide)).iconst X133 hx (hb hby at_107) (v := (0 : Int32)) rfl).istore X133 hx (hb hby at_108) rfl
    have k135 : Go p e below m W T133 111 #[.val (.int p1), .val (.ref b2), .val (.int (6 : Int32)), .val (.ref s_INTEREST_POSTING), .val (.int (0 : Int32))] [(.ref s_INTEREST_POSTING)] := k134.aloadN X133 hx (hb hby at_110) rfl rfl
    obtain ⟨T136, v136, L136, X136, Q136, k136⟩ := k135.virt (y := (⟨"com/example/evenfall/evenfall/TransactionType", "namesFee", "()Z"⟩ : MethodName)) (z := (⟨"com/example/evenfall/evenfall/TransactionType", "namesFee", "()Z"⟩ : MethodName)) (Wd := 0) (cells' := 1) (slots' := 11) (argsL := []) (rest := []) X133 hx hZ hown (by rw [hml]; rfl) (hv 27 rfl) (hv 28 rfl) (notFace_of_selects (args := #[]) (mvT hZ (hv 30 rfl))) (hv 30 rfl) (hv 29 rfl) (hv 31 rfl) (hv 3 rfl) (hb hby at_111) (by decide) (rm2 l Z a0 hw [] s_INTEREST_POSTING s_FEE_EVENT s_RUN h46 n0 Z46 (F52_source.ext f47.2) (S_s_FEE_EVENT.ext f47.2) (own_ne F38_ordinal F32_ordinal (by decide))) e133 (E_s_INTEREST_POSTING.ext f47.2) rfl rfl pd_rm0_0 rfl (Nat.le_of_eq rfl) (by decide) (by decide) rfl rfl (by decide) (by decide)
    obtain ⟨rfl, Nq136, e136q⟩ := Q136
    have N136 := Fr.app N46 Nq136
    have e136 : T136.heap = h46 := e136q
    have k136 : Go p e below m W T136 114 #[.val (.int p1), .val (.ref b2), .val (.int (6 : Int32)), .val (.ref s_INTEREST_POSTING), .val (.int (0 : Int32))] [(.int (0 : Int32))] := k136
    have k137 : Go p e below m W T136 124 #[.val (.int p1), .val (.ref b2), .val (.int (6 : Int32)), .val (.ref s_INTEREST_POSTING), .val (.int (0 : Int32))] [(.int (1 : Int32))] := (((k136.iload X136 hx (hb hby at_114) rfl).icmpNo X136 hx (hb hby at_116) (XT.ii_ne_f (by decide))).iconst X136 hx (hb hby at_119) (v := (1 : Int32)) rfl).goto X136 hx (hb hby at_120) (by decide) (by decide)
    exact k137.ireturnN X136 hx (t := .boolean) Bd.returns (by simp) rfl (hb hby at_124) (BodyLoose.notSynchronized Bd) (by rw [e136]; exact ⟨rfl, N136⟩) (by decide) (by decide)
  ·
    subst r50
    have k138 : Go p e below m W T46 85 #[.val (.int p1), .val (.ref b2), .val (.int (7 : Int32)), .unset, .unset] [] := k51.istoreN X46 hx (hb hby at_84) rfl
    have k139 : Go p e below m W T46 87 #[.val (.int p1), .val (.ref b2), .val (.int (7 : Int32)), .unset, .unset] [(.int (7 : Int32)), (.ref b2)] := (k138.aloadN X46 hx (hb hby at_85) rfl rfl).iloadN X46 hx (hb hby at_86) rfl
    have k140 : Go p e below m W T46 89 #[.val (.int p1), .val (.ref b2), .val (.int (7 : Int32)), .val (.ref s_CAPITALISATION), .unset] [] := (k139.aaload (i := 7) (n := 11) X46 hx hZ e46 V46 rfl rfl (by decide) (by decide) rfl rfl (hb hby at_87)).astoreN X46 hx (hb hby at_88) rfl rfl
    have k141 : Go p e below m W T46 90 #[.val (.int p1), .val (.ref b2), .val (.int (7 : Int32)), .val (.ref s_CAPITALISATION), .unset] [(.ref s_CAPITALISATION)] := k140.aloadN X46 hx (hb hby at_89) rfl rfl
    obtain ⟨T142, X142, e142, k142⟩ := k141.getS X46 hx hZ hown (host := "") (Or.inl (hv 10 rfl)) Via.refl e46 (S_s_CHARGE.ext f47.2) (hb hby at_90)
    have k142 : Go p e below m W T142 93 #[.val (.int p1), .val (.ref b2), .val (.int (7 : Int32)), .val (.ref s_CAPITALISATION), .unset] [(.ref s_CHARGE), (.ref s_CAPITALISATION)] := k142
    have k143 : Go p e below m W T142 97 #[.val (.int p1), .val (.ref b2), .val (.int (7 : Int32)), .val (.ref s_CAPITALISATION), .unset] [(.ref s_CAPITALISATION)] := (k142.acmpNo X142 hx (hb hby at_93) rfl rfl (XT.aa_eq_f (fun q => (own_ne F34_ordinal F24_ordinal (by decide)) (Value.ref.inj q)))).aloadN X142 hx (hb hby at_96) rfl rfl
    obtain ⟨T144, X144, e144, k144⟩ := k143.getS X142 hx hZ hown (host := "") (Or.inl (hv 12 rfl)) Via.refl e142 (S_s_PREPAID_FEE.ext f47.2) (hb hby at_97)
    have k144 : Go p e below m W T144 100 #[.val (.int p1), .val (.ref b2), .val (.int (7 : Int32)), .val (.ref s_CAPITALISATION), .unset] [(.ref s_PREPAID_FEE), (.ref s_CAPITALISATION)] := k144
    have k145 : Go p e below m W T144 110 #[.val (.int p1), .val (.ref b2), .val (.int (7 : Int32)), .val (.ref s_CAPITALISATION), .val (.int (0 : Int32))] [] := ((k144.acmpYes X144 hx (hb hby at_100) rfl rfl (XT.aa_ne_t (fun q => (own_ne F34_ordinal F25_ordinal (by decide)) (Value.ref.inj q))) (by decide) (by decide)).iconst X144 hx (hb hby at_107) (v := (0 : Int32)) rfl).istore X144 hx (hb hby at_108) rfl
    have k146 : Go p e below m W T144 111 #[.val (.int p1), .val (.ref b2), .val (.int (7 : Int32)), .val (.ref s_CAPITALISATION), .val (.int (0 : Int32))] [(.ref s_CAPITALISATION)] := k145.aloadN X144 hx (hb hby at_110) rfl rfl
    obtain ⟨T147, v147, L147, X147, Q147, k147⟩ := k146.virt (y := (⟨"com/example/evenfall/evenfall/TransactionType", "namesFee", "()Z"⟩ : MethodName)) (z := (⟨"com/example/evenfall/evenfall/TransactionType", "namesFee", "()Z"⟩ : MethodName)) (Wd := 0) (cells' := 1) (slots' := 11) (argsL := []) (rest := []) X144 hx hZ hown (by rw [hml]; rfl) (hv 27 rfl) (hv 28 rfl) (notFace_of_selects (args := #[]) (mvT hZ (hv 30 rfl))) (hv 30 rfl) (hv 29 rfl) (hv 31 rfl) (hv 3 rfl) (hb hby at_111) (by decide) (rm2 l Z a0 hw [] s_CAPITALISATION s_FEE_EVENT s_RUN h46 n0 Z46 (F37_source.ext f47.2) (S_s_FEE_EVENT.ext f47.2) (own_ne F38_ordinal F32_ordinal (by decide))) e144 (E_s_CAPITALISATION.ext f47.2) rfl rfl pd_rm0_0 rfl (Nat.le_of_eq rfl) (by decide) (by decide) rfl rfl (by decide) (by decide)
    obtain ⟨rfl, Nq147, e147q⟩ := Q147
    have N147 := Fr.app N46 Nq147
    have e147 : T147.heap = h46 := e147q
    have k147 : Go p e below m W T147 114 #[.val (.int p1), .val (.ref b2), .val (.int (7 : Int32)), .val (.ref s_CAPITALISATION), .val (.int (0 : Int32))] [(.int (0 : Int32))] := k147
    have k148 : Go p e below m W T147 124 #[.val (.int p1), .val (.ref b2), .val (.int (7 : Int32)), .val (.ref s_CAPITALISATION), .val (.int (0 : Int32))] [(.int (1 : Int32))] := (((k147.iload X147 hx (hb hby at_114) rfl).icmpNo X147 hx (hb hby at_116) (XT.ii_ne_f (by decide))).iconst X147 hx (hb hby at_119) (v := (1 : Int32)) rfl).goto X147 hx (hb hby at_120) (by decide) (by decide)
    exact k148.ireturnN X147 hx (t := .boolean) Bd.returns (by simp) rfl (hb hby at_124) (BodyLoose.notSynchronized Bd) (by rw [e147]; exact ⟨rfl, N147⟩) (by decide) (by decide)
  ·
    subst r50
    have k149 : Go p e below m W T46 85 #[.val (.int p1), .val (.ref b2), .val (.int (8 : Int32)), .unset, .unset] [] := k51.istoreN X46 hx (hb hby at_84) rfl
    have k150 : Go p e below m W T46 87 #[.val (.int p1), .val (.ref b2), .val (.int (8 : Int32)), .unset, .unset] [(.int (8 : Int32)), (.ref b2)] := (k149.aloadN X46 hx (hb hby at_85) rfl rfl).iloadN X46 hx (hb hby at_86) rfl
    have k151 : Go p e below m W T46 89 #[.val (.int p1), .val (.ref b2), .val (.int (8 : Int32)), .val (.ref s_RESERVE_APPLIED), .unset] [] := (k150.aaload (i := 8) (n := 11) X46 hx hZ e46 V46 rfl rfl (by decide) (by decide) rfl rfl (hb hby at_87)).astoreN X46 hx (hb hby at_88) rfl rfl
    have k152 : Go p e below m W T46 90 #[.val (.int p1), .val (.ref b2), .val (.int (8 : Int32)), .val (.ref s_RESERVE_APPLIED), .unset] [(.ref s_RESERVE_APPLIED)] := k151.aloadN X46 hx (hb hby at_89) rfl rfl
    obtain ⟨T153, X153, e153, k153⟩ := k152.getS X46 hx hZ hown (host := "") (Or.inl (hv 10 rfl)) Via.refl e46 (S_s_CHARGE.ext f47.2) (hb hby at_90)
    have k153 : Go p e below m W T153 93 #[.val (.int p1), .val (.ref b2), .val (.int (8 : Int32)), .val (.ref s_RESERVE_APPLIED), .unset] [(.ref s_CHARGE), (.ref s_RESERVE_APPLIED)] := k153
    have k154 : Go p e below m W T153 97 #[.val (.int p1), .val (.ref b2), .val (.int (8 : Int32)), .val (.ref s_RESERVE_APPLIED), .unset] [(.ref s_RESERVE_APPLIED)] := (k153.acmpNo X153 hx (hb hby at_93) rfl rfl (XT.aa_eq_f (fun q => (own_ne F39_ordinal F24_ordinal (by decide)) (Value.ref.inj q)))).aloadN X153 hx (hb hby at_96) rfl rfl
    obtain ⟨T155, X155, e155, k155⟩ := k154.getS X153 hx hZ hown (host := "") (Or.inl (hv 12 rfl)) Via.refl e153 (S_s_PREPAID_FEE.ext f47.2) (hb hby at_97)
    have k155 : Go p e below m W T155 100 #[.val (.int p1), .val (.ref b2), .val (.int (8 : Int32)), .val (.ref s_RESERVE_APPLIED), .unset] [(.ref s_PREPAID_FEE), (.ref s_RESERVE_APPLIED)] := k155
    have k156 : Go p e below m W T155 110 #[.val (.int p1), .val (.ref b2), .val (.int (8 : Int32)), .val (.ref s_RESERVE_APPLIED), .val (.int (0 : Int32))] [] := ((k155.acmpYes X155 hx (hb hby at_100) rfl rfl (XT.aa_ne_t (fun q => (own_ne F39_ordinal F25_ordinal (by decide)) (Value.ref.inj q))) (by decide) (by decide)).iconst X155 hx (hb hby at_107) (v := (0 : Int32)) rfl).istore X155 hx (hb hby at_108) rfl
    have k157 : Go p e below m W T155 111 #[.val (.int p1), .val (.ref b2), .val (.int (8 : Int32)), .val (.ref s_RESERVE_APPLIED), .val (.int (0 : Int32))] [(.ref s_RESERVE_APPLIED)] := k156.aloadN X155 hx (hb hby at_110) rfl rfl
    obtain ⟨T158, v158, L158, X158, Q158, k158⟩ := k157.virt (y := (⟨"com/example/evenfall/evenfall/TransactionType", "namesFee", "()Z"⟩ : MethodName)) (z := (⟨"com/example/evenfall/evenfall/TransactionType", "namesFee", "()Z"⟩ : MethodName)) (Wd := 0) (cells' := 1) (slots' := 11) (argsL := []) (rest := []) X155 hx hZ hown (by rw [hml]; rfl) (hv 27 rfl) (hv 28 rfl) (notFace_of_selects (args := #[]) (mvT hZ (hv 30 rfl))) (hv 30 rfl) (hv 29 rfl) (hv 31 rfl) (hv 3 rfl) (hb hby at_111) (by decide) (rm2 l Z a0 hw [] s_RESERVE_APPLIED s_FEE_EVENT s_RUN h46 n0 Z46 (F40_source.ext f47.2) (S_s_FEE_EVENT.ext f47.2) (own_ne F38_ordinal F32_ordinal (by decide))) e155 (E_s_RESERVE_APPLIED.ext f47.2) rfl rfl pd_rm0_0 rfl (Nat.le_of_eq rfl) (by decide) (by decide) rfl rfl (by decide) (by decide)
    obtain ⟨rfl, Nq158, e158q⟩ := Q158
    have N158 := Fr.app N46 Nq158
    have e158 : T158.heap = h46 := e158q
    have k158 : Go p e below m W T158 114 #[.val (.int p1), .val (.ref b2), .val (.int (8 : Int32)), .val (.ref s_RESERVE_APPLIED), .val (.int (0 : Int32))] [(.int (0 : Int32))] := k158
    have k159 : Go p e below m W T158 124 #[.val (.int p1), .val (.ref b2), .val (.int (8 : Int32)), .val (.ref s_RESERVE_APPLIED), .val (.int (0 : Int32))] [(.int (1 : Int32))] := (((k158.iload X158 hx (hb hby at_114) rfl).icmpNo X158 hx (hb hby at_116) (XT.ii_ne_f (by decide))).iconst X158 hx (hb hby at_119) (v := (1 : Int32)) rfl).goto X158 hx (hb hby at_120) (by decide) (by decide)
    exact k159.ireturnN X158 hx (t := .boolean) Bd.returns (by simp) rfl (hb hby at_124) (BodyLoose.notSynchronized Bd) (by rw [e158]; exact ⟨rfl, N158⟩) (by decide) (by decide)
  ·
    subst r50
    have k160 : Go p e below m W T46 85 #[.val (.int p1), .val (.ref b2), .val (.int (9 : Int32)), .unset, .unset] [] := k51.istoreN X46 hx (hb hby at_84) rfl
    have k161 : Go p e below m W T46 87 #[.val (.int p1), .val (.ref b2), .val (.int (9 : Int32)), .unset, .unset] [(.int (9 : Int32)), (.ref b2)] := (k160.aloadN X46 hx (hb hby at_85) rfl rfl).iloadN X46 hx (hb hby at_86) rfl
    have k162 : Go p e below m W T46 89 #[.val (.int p1), .val (.ref b2), .val (.int (9 : Int32)), .val (.ref s_FEE_ACCRUAL), .unset] [] := (k161.aaload (i := 9) (n := 11) X46 hx hZ e46 V46 rfl rfl (by decide) (by decide) rfl rfl (hb hby at_87)).astoreN X46 hx (hb hby at_88) rfl rfl
    have k163 : Go p e below m W T46 90 #[.val (.int p1), .val (.ref b2), .val (.int (9 : Int32)), .val (.ref s_FEE_ACCRUAL), .unset] [(.ref s_FEE_ACCRUAL)] := k162.aloadN X46 hx (hb hby at_89) rfl rfl
    obtain ⟨T164, X164, e164, k164⟩ := k163.getS X46 hx hZ hown (host := "") (Or.inl (hv 10 rfl)) Via.refl e46 (S_s_CHARGE.ext f47.2) (hb hby at_90)
    have k164 : Go p e below m W T164 93 #[.val (.int p1), .val (.ref b2), .val (.int (9 : Int32)), .val (.ref s_FEE_ACCRUAL), .unset] [(.ref s_CHARGE), (.ref s_FEE_ACCRUAL)] := k164
    have k165 : Go p e below m W T164 97 #[.val (.int p1), .val (.ref b2), .val (.int (9 : Int32)), .val (.ref s_FEE_ACCRUAL), .unset] [(.ref s_FEE_ACCRUAL)] := (k164.acmpNo X164 hx (hb hby at_93) rfl rfl (XT.aa_eq_f (fun q => (own_ne F47_ordinal F24_ordinal (by decide)) (Value.ref.inj q)))).aloadN X164 hx (hb hby at_96) rfl rfl
    obtain ⟨T166, X166, e166, k166⟩ := k165.getS X164 hx hZ hown (host := "") (Or.inl (hv 12 rfl)) Via.refl e164 (S_s_PREPAID_FEE.ext f47.2) (hb hby at_97)
    have k166 : Go p e below m W T166 100 #[.val (.int p1), .val (.ref b2), .val (.int (9 : Int32)), .val (.ref s_FEE_ACCRUAL), .unset] [(.ref s_PREPAID_FEE), (.ref s_FEE_ACCRUAL)] := k166
    have k167 : Go p e below m W T166 110 #[.val (.int p1), .val (.ref b2), .val (.int (9 : Int32)), .val (.ref s_FEE_ACCRUAL), .val (.int (0 : Int32))] [] := ((k166.acmpYes X166 hx (hb hby at_100) rfl rfl (XT.aa_ne_t (fun q => (own_ne F47_ordinal F25_ordinal (by decide)) (Value.ref.inj q))) (by decide) (by decide)).iconst X166 hx (hb hby at_107) (v := (0 : Int32)) rfl).istore X166 hx (hb hby at_108) rfl
    have k168 : Go p e below m W T166 111 #[.val (.int p1), .val (.ref b2), .val (.int (9 : Int32)), .val (.ref s_FEE_ACCRUAL), .val (.int (0 : Int32))] [(.ref s_FEE_ACCRUAL)] := k167.aloadN X166 hx (hb hby at_110) rfl rfl
    obtain ⟨T169, v169, L169, X169, Q169, k169⟩ := k168.virt (y := (⟨"com/example/evenfall/evenfall/TransactionType", "namesFee", "()Z"⟩ : MethodName)) (z := (⟨"com/example/evenfall/evenfall/TransactionType", "namesFee", "()Z"⟩ : MethodName)) (Wd := 0) (cells' := 1) (slots' := 11) (argsL := []) (rest := []) X166 hx hZ hown (by rw [hml]; rfl) (hv 27 rfl) (hv 28 rfl) (notFace_of_selects (args := #[]) (mvT hZ (hv 30 rfl))) (hv 30 rfl) (hv 29 rfl) (hv 31 rfl) (hv 3 rfl) (hb hby at_111) (by decide) (rm2 l Z a0 hw [] s_FEE_ACCRUAL s_FEE_EVENT s_RUN h46 n0 Z46 (F48_source.ext f47.2) (S_s_FEE_EVENT.ext f47.2) (own_ne F38_ordinal F32_ordinal (by decide))) e166 (E_s_FEE_ACCRUAL.ext f47.2) rfl rfl pd_rm0_0 rfl (Nat.le_of_eq rfl) (by decide) (by decide) rfl rfl (by decide) (by decide)
    obtain ⟨rfl, Nq169, e169q⟩ := Q169
    have N169 := Fr.app N46 Nq169
    have e169 : T169.heap = h46 := e169q
    have k169 : Go p e below m W T169 114 #[.val (.int p1), .val (.ref b2), .val (.int (9 : Int32)), .val (.ref s_FEE_ACCRUAL), .val (.int (0 : Int32))] [(.int (0 : Int32))] := k169
    have k170 : Go p e below m W T169 124 #[.val (.int p1), .val (.ref b2), .val (.int (9 : Int32)), .val (.ref s_FEE_ACCRUAL), .val (.int (0 : Int32))] [(.int (1 : Int32))] := (((k169.iload X169 hx (hb hby at_114) rfl).icmpNo X169 hx (hb hby at_116) (XT.ii_ne_f (by decide))).iconst X169 hx (hb hby at_119) (v := (1 : Int32)) rfl).goto X169 hx (hb hby at_120) (by decide) (by decide)
    exact k170.ireturnN X169 hx (t := .boolean) Bd.returns (by simp) rfl (hb hby at_124) (BodyLoose.notSynchronized Bd) (by rw [e169]; exact ⟨rfl, N169⟩) (by decide) (by decide)
  ·
    subst r50
    have k171 : Go p e below m W T46 85 #[.val (.int p1), .val (.ref b2), .val (.int (10 : Int32)), .unset, .unset] [] := k51.istoreN X46 hx (hb hby at_84) rfl
    have k172 : Go p e below m W T46 87 #[.val (.int p1), .val (.ref b2), .val (.int (10 : Int32)), .unset, .unset] [(.int (10 : Int32)), (.ref b2)] := (k171.aloadN X46 hx (hb hby at_85) rfl rfl).iloadN X46 hx (hb hby at_86) rfl
    have k173 : Go p e below m W T46 89 #[.val (.int p1), .val (.ref b2), .val (.int (10 : Int32)), .val (.ref s_REFUND), .unset] [] := (k172.aaload (i := 10) (n := 11) X46 hx hZ e46 V46 rfl rfl (by decide) (by decide) rfl rfl (hb hby at_87)).astoreN X46 hx (hb hby at_88) rfl rfl
    have k174 : Go p e below m W T46 90 #[.val (.int p1), .val (.ref b2), .val (.int (10 : Int32)), .val (.ref s_REFUND), .unset] [(.ref s_REFUND)] := k173.aloadN X46 hx (hb hby at_89) rfl rfl
    obtain ⟨T175, X175, e175, k175⟩ := k174.getS X46 hx hZ hown (host := "") (Or.inl (hv 10 rfl)) Via.refl e46 (S_s_CHARGE.ext f47.2) (hb hby at_90)
    have k175 : Go p e below m W T175 93 #[.val (.int p1), .val (.ref b2), .val (.int (10 : Int32)), .val (.ref s_REFUND), .unset] [(.ref s_CHARGE), (.ref s_REFUND)] := k175
    have k176 : Go p e below m W T175 97 #[.val (.int p1), .val (.ref b2), .val (.int (10 : Int32)), .val (.ref s_REFUND), .unset] [(.ref s_REFUND)] := (k175.acmpNo X175 hx (hb hby at_93) rfl rfl (XT.aa_eq_f (fun q => (own_ne F43_ordinal F24_ordinal (by decide)) (Value.ref.inj q)))).aloadN X175 hx (hb hby at_96) rfl rfl
    obtain ⟨T177, X177, e177, k177⟩ := k176.getS X175 hx hZ hown (host := "") (Or.inl (hv 12 rfl)) Via.refl e175 (S_s_PREPAID_FEE.ext f47.2) (hb hby at_97)
    have k177 : Go p e below m W T177 100 #[.val (.int p1), .val (.ref b2), .val (.int (10 : Int32)), .val (.ref s_REFUND), .unset] [(.ref s_PREPAID_FEE), (.ref s_REFUND)] := k177
    have k178 : Go p e below m W T177 110 #[.val (.int p1), .val (.ref b2), .val (.int (10 : Int32)), .val (.ref s_REFUND), .val (.int (0 : Int32))] [] := ((k177.acmpYes X177 hx (hb hby at_100) rfl rfl (XT.aa_ne_t (fun q => (own_ne F43_ordinal F25_ordinal (by decide)) (Value.ref.inj q))) (by decide) (by decide)).iconst X177 hx (hb hby at_107) (v := (0 : Int32)) rfl).istore X177 hx (hb hby at_108) rfl
    have k179 : Go p e below m W T177 111 #[.val (.int p1), .val (.ref b2), .val (.int (10 : Int32)), .val (.ref s_REFUND), .val (.int (0 : Int32))] [(.ref s_REFUND)] := k178.aloadN X177 hx (hb hby at_110) rfl rfl
    obtain ⟨T180, v180, L180, X180, Q180, k180⟩ := k179.virt (y := (⟨"com/example/evenfall/evenfall/TransactionType", "namesFee", "()Z"⟩ : MethodName)) (z := (⟨"com/example/evenfall/evenfall/TransactionType", "namesFee", "()Z"⟩ : MethodName)) (Wd := 0) (cells' := 1) (slots' := 11) (argsL := []) (rest := []) X177 hx hZ hown (by rw [hml]; rfl) (hv 27 rfl) (hv 28 rfl) (notFace_of_selects (args := #[]) (mvT hZ (hv 30 rfl))) (hv 30 rfl) (hv 29 rfl) (hv 31 rfl) (hv 3 rfl) (hb hby at_111) (by decide) (rm2 l Z a0 hw [] s_REFUND s_FEE_EVENT s_RUN h46 n0 Z46 (F44_source.ext f47.2) (S_s_FEE_EVENT.ext f47.2) (own_ne F38_ordinal F32_ordinal (by decide))) e177 (E_s_REFUND.ext f47.2) rfl rfl pd_rm0_0 rfl (Nat.le_of_eq rfl) (by decide) (by decide) rfl rfl (by decide) (by decide)
    obtain ⟨rfl, Nq180, e180q⟩ := Q180
    have N180 := Fr.app N46 Nq180
    have e180 : T180.heap = h46 := e180q
    have k180 : Go p e below m W T180 114 #[.val (.int p1), .val (.ref b2), .val (.int (10 : Int32)), .val (.ref s_REFUND), .val (.int (0 : Int32))] [(.int (0 : Int32))] := k180
    have k181 : Go p e below m W T180 124 #[.val (.int p1), .val (.ref b2), .val (.int (10 : Int32)), .val (.ref s_REFUND), .val (.int (0 : Int32))] [(.int (1 : Int32))] := (((k180.iload X180 hx (hb hby at_114) rfl).icmpNo X180 hx (hb hby at_116) (XT.ii_ne_f (by decide))).iconst X180 hx (hb hby at_119) (v := (1 : Int32)) rfl).goto X180 hx (hb hby at_120) (by decide) (by decide)
    exact k181.ireturnN X180 hx (t := .boolean) Bd.returns (by simp) rfl (hb hby at_124) (BodyLoose.notSynchronized Bd) (by rw [e180]; exact ⟨rfl, N180⟩) (by decide) (by decide)

set_option maxRecDepth 65536 in
set_option maxHeartbeats 40000000 in
theorem comes_1 {Post : Tables → Env → Array Value → State → Outcome → State → Prop} (hpost : ∀ tb e args s v u, (limb_1_1.after args s (.returned v) u = true ∧ limb_1_2.after args s (.returned v) u = true ∧ True) → FrameEnd s (.returned v) u (Jvm.fieldLocs frame_1_writes args s ++ Jvm.arrayLocs frame_1_arrays args s ++ Jvm.staticLocs frame_1_statics s) 16 128 → Post tb e args s (.returned v) u) :
    ArmFor flags0 classFile x code maxLocals ret World_1 tables_1 room_1 Calls_1 rest_1 Pre_1 Post := by
  intro l hfl _ _ p e ha hc hk s m args below hf hA hF happ hP
  obtain ⟨hcalls, hrest, hpre⟩ := hP
  obtain ⟨-, -, -, hnamed, -, -, -, hat⟩ := (Spec.applies_iff hf).mp happ
  obtain ⟨hg, hn⟩ := and_e (Cond.before_iff.mp (show (Jvm.Cond.and given_1 narrow_1).before args s = true from hpre))
  obtain ⟨ga, gb⟩ := and_e hg
  obtain ⟨w0, rfl⟩ : ∃ w0 : Value, args = #[w0] := by
    have hs : args.size = 1 := by simpa [Cond.value, given_1] using ga
    obtain ⟨L⟩ := args
    match L, hs with
    | [w0], _ => exact ⟨w0, rfl⟩
  have hw := fun d (hd : d ∈ tables_1) => atoms_spec (ws := Jvm.Cond.code x code maxLocals ret :: tables_1) hat d (List.mem_cons_of_mem _ hd)
  have hv : ∀ (i : Nat) {d : Jvm.Cond}, tables_1[i]? = some d → d.before _ s = true := fun i d q => hw d (List.mem_of_getElem? q)
  have hfit : Fit s := fun {y c} hc i hi => by
    obtain ⟨ha, rfl⟩ := Array.getElem?_eq_some_iff.mp hc
    have q := List.all_eq_true.mp ((Array.all_eq_true_iff_forall_mem.mp hF) _ (Array.getElem_mem ha)) i (List.mem_range.mpr hi)
    simpa [Array.getElem?_eq_getElem hi] using q
  obtain ⟨i0, ei0⟩ := is_v gb
  obtain rfl : w0 = (.int i0) := Option.some.inj ei0
  have O0 : Old s s.heap.size s.heap := Old.start s
  obtain ⟨nc0, nr0⟩ := and_e hn
  obtain ⟨s_DISBURSEMENT, ev_s_DISBURSEMENT⟩ := exa_v nc0
  have S_s_DISBURSEMENT : Sta s s.heap "com/example/evenfall/evenfall/TransactionType" "DISBURSEMENT" "Lcom/example/evenfall/evenfall/TransactionType;" (.ref s_DISBURSEMENT) := Sta.start ev_s_DISBURSEMENT (Or.inr ⟨(hv 3 rfl), (hv 4 rfl)⟩)
  have E_s_DISBURSEMENT : Exa s s.heap s_DISBURSEMENT "com/example/evenfall/evenfall/TransactionType" := Exa.start ev_s_DISBURSEMENT nc0
  obtain ⟨nc1, nr1⟩ := and_e nr0
  obtain ⟨s_PAYMENT, ev_s_PAYMENT⟩ := exa_v nc1
  have S_s_PAYMENT : Sta s s.heap "com/example/evenfall/evenfall/TransactionType" "PAYMENT" "Lcom/example/evenfall/evenfall/TransactionType;" (.ref s_PAYMENT) := Sta.start ev_s_PAYMENT (Or.inr ⟨(hv 3 rfl), (hv 7 rfl)⟩)
  have E_s_PAYMENT : Exa s s.heap s_PAYMENT "com/example/evenfall/evenfall/TransactionType" := Exa.start ev_s_PAYMENT nc1
  obtain ⟨nc2, nr2⟩ := and_e nr1
  obtain ⟨s_PREPAYMENT, ev_s_PREPAYMENT⟩ := exa_v nc2
  have S_s_PREPAYMENT : Sta s s.heap "com/example/evenfall/evenfall/TransactionType" "PREPAYMENT" "Lcom/example/evenfall/evenfall/TransactionType;" (.ref s_PREPAYMENT) := Sta.start ev_s_PREPAYMENT (Or.inr ⟨(hv 3 rfl), (hv 9 rfl)⟩)
  have E_s_PREPAYMENT : Exa s s.heap s_PREPAYMENT "com/example/evenfall/evenfall/TransactionType" := Exa.start ev_s_PREPAYMENT nc2
  obtain ⟨nc3, nr3⟩ := and_e nr2
  obtain ⟨s_CHARGE, ev_s_CHARGE⟩ := exa_v nc3
  have S_s_CHARGE : Sta s s.heap "com/example/evenfall/evenfall/TransactionType" "CHARGE" "Lcom/example/evenfall/evenfall/TransactionType;" (.ref s_CHARGE) := Sta.start ev_s_CHARGE (Or.inr ⟨(hv 3 rfl), (hv 11 rfl)⟩)
  have E_s_CHARGE : Exa s s.heap s_CHARGE "com/example/evenfall/evenfall/TransactionType" := Exa.start ev_s_CHARGE nc3
  obtain ⟨nc4, nr4⟩ := and_e nr3
  obtain ⟨s_PREPAID_FEE, ev_s_PREPAID_FEE⟩ := exa_v nc4
  have S_s_PREPAID_FEE : Sta s s.heap "com/example/evenfall/evenfall/TransactionType" "PREPAID_FEE" "Lcom/example/evenfall/evenfall/TransactionType;" (.ref s_PREPAID_FEE) := Sta.start ev_s_PREPAID_FEE (Or.inr ⟨(hv 3 rfl), (hv 13 rfl)⟩)
  have E_s_PREPAID_FEE : Exa s s.heap s_PREPAID_FEE "com/example/evenfall/evenfall/TransactionType" := Exa.start ev_s_PREPAID_FEE nc4
  obtain ⟨nc5, nr5⟩ := and_e nr4
  obtain ⟨s_ACCRUAL_ENTRY, ev_s_ACCRUAL_ENTRY⟩ := exa_v nc5
  have S_s_ACCRUAL_ENTRY : Sta s s.heap "com/example/evenfall/evenfall/TransactionType" "ACCRUAL_ENTRY" "Lcom/example/evenfall/evenfall/TransactionType;" (.ref s_ACCRUAL_ENTRY) := Sta.start ev_s_ACCRUAL_ENTRY (Or.inr ⟨(hv 3 rfl), (hv 15 rfl)⟩)
  have E_s_ACCRUAL_ENTRY : Exa s s.heap s_ACCRUAL_ENTRY "com/example/evenfall/evenfall/TransactionType" := Exa.start ev_s_ACCRUAL_ENTRY nc5
  obtain ⟨nc6, nr6⟩ := and_e nr5
  obtain ⟨s_INTEREST_POSTING, ev_s_INTEREST_POSTING⟩ := exa_v nc6
  have S_s_INTEREST_POSTING : Sta s s.heap "com/example/evenfall/evenfall/TransactionType" "INTEREST_POSTING" "Lcom/example/evenfall/evenfall/TransactionType;" (.ref s_INTEREST_POSTING) := Sta.start ev_s_INTEREST_POSTING (Or.inr ⟨(hv 3 rfl), (hv 17 rfl)⟩)
  have E_s_INTEREST_POSTING : Exa s s.heap s_INTEREST_POSTING "com/example/evenfall/evenfall/TransactionType" := Exa.start ev_s_INTEREST_POSTING nc6
  obtain ⟨nc7, nr7⟩ := and_e nr6
  obtain ⟨s_CAPITALISATION, ev_s_CAPITALISATION⟩ := exa_v nc7
  have S_s_CAPITALISATION : Sta s s.heap "com/example/evenfall/evenfall/TransactionType" "CAPITALISATION" "Lcom/example/evenfall/evenfall/TransactionType;" (.ref s_CAPITALISATION) := Sta.start ev_s_CAPITALISATION (Or.inr ⟨(hv 3 rfl), (hv 19 rfl)⟩)
  have E_s_CAPITALISATION : Exa s s.heap s_CAPITALISATION "com/example/evenfall/evenfall/TransactionType" := Exa.start ev_s_CAPITALISATION nc7
  obtain ⟨nc8, nr8⟩ := and_e nr7
  obtain ⟨s_RESERVE_APPLIED, ev_s_RESERVE_APPLIED⟩ := exa_v nc8
  have S_s_RESERVE_APPLIED : Sta s s.heap "com/example/evenfall/evenfall/TransactionType" "RESERVE_APPLIED" "Lcom/example/evenfall/evenfall/TransactionType;" (.ref s_RESERVE_APPLIED) := Sta.start ev_s_RESERVE_APPLIED (Or.inr ⟨(hv 3 rfl), (hv 21 rfl)⟩)
  have E_s_RESERVE_APPLIED : Exa s s.heap s_RESERVE_APPLIED "com/example/evenfall/evenfall/TransactionType" := Exa.start ev_s_RESERVE_APPLIED nc8
  obtain ⟨nc9, nr9⟩ := and_e nr8
  obtain ⟨s_FEE_ACCRUAL, ev_s_FEE_ACCRUAL⟩ := exa_v nc9
  have S_s_FEE_ACCRUAL : Sta s s.heap "com/example/evenfall/evenfall/TransactionType" "FEE_ACCRUAL" "Lcom/example/evenfall/evenfall/TransactionType;" (.ref s_FEE_ACCRUAL) := Sta.start ev_s_FEE_ACCRUAL (Or.inr ⟨(hv 3 rfl), (hv 23 rfl)⟩)
  have E_s_FEE_ACCRUAL : Exa s s.heap s_FEE_ACCRUAL "com/example/evenfall/evenfall/TransactionType" := Exa.start ev_s_FEE_ACCRUAL nc9
  obtain ⟨nc10, nr10⟩ := and_e nr9
  obtain ⟨s_REFUND, ev_s_REFUND⟩ := exa_v nc10
  have S_s_REFUND : Sta s s.heap "com/example/evenfall/evenfall/TransactionType" "REFUND" "Lcom/example/evenfall/evenfall/TransactionType;" (.ref s_REFUND) := Sta.start ev_s_REFUND (Or.inr ⟨(hv 3 rfl), (hv 25 rfl)⟩)
  have E_s_REFUND : Exa s s.heap s_REFUND "com/example/evenfall/evenfall/TransactionType" := Exa.start ev_s_REFUND nc10
  obtain ⟨nc11, nr11⟩ := and_e nr10
  have F23_ordinal : Fld s s.heap s_DISBURSEMENT "java/lang/Enum" "ordinal" "I" (.int (0 : Int32)) := Fld.start ((fld_at ev_s_DISBURSEMENT).symm.trans (own_eqi nc11))
  obtain ⟨nc12, nr12⟩ := and_e nr11
  have F24_ordinal : Fld s s.heap s_CHARGE "java/lang/Enum" "ordinal" "I" (.int (3 : Int32)) := Fld.start ((fld_at ev_s_CHARGE).symm.trans (own_eqi nc12))
  obtain ⟨nc13, nr13⟩ := and_e nr12
  have F25_ordinal : Fld s s.heap s_PREPAID_FEE "java/lang/Enum" "ordinal" "I" (.int (4 : Int32)) := Fld.start ((fld_at ev_s_PREPAID_FEE).symm.trans (own_eqi nc13))
  obtain ⟨nc14, nr14⟩ := and_e nr13
  obtain ⟨s_EVENT, ev_s_EVENT⟩ := exa_v nc14
  have S_s_EVENT : Sta s s.heap "com/example/evenfall/evenfall/TransactionType$Source" "EVENT" "Lcom/example/evenfall/evenfall/TransactionType$Source;" (.ref s_EVENT) := Sta.start ev_s_EVENT (Or.inr ⟨(hv 34 rfl), (hv 35 rfl)⟩)
  have E_s_EVENT : Exa s s.heap s_EVENT "com/example/evenfall/evenfall/TransactionType$Source" := Exa.start ev_s_EVENT nc14
  obtain ⟨nc15, nr15⟩ := and_e nr14
  have F28_source : Fld s s.heap s_DISBURSEMENT "com/example/evenfall/evenfall/TransactionType" "source" "Lcom/example/evenfall/evenfall/TransactionType$Source;" (.ref s_EVENT) := Fld.start ((fld_at ev_s_DISBURSEMENT).symm.trans (own_eqr nc15 ev_s_EVENT))
  obtain ⟨nc16, nr16⟩ := and_e nr15
  obtain ⟨s_FEE_EVENT, ev_s_FEE_EVENT⟩ := exa_v nc16
  have S_s_FEE_EVENT : Sta s s.heap "com/example/evenfall/evenfall/TransactionType$Source" "FEE_EVENT" "Lcom/example/evenfall/evenfall/TransactionType$Source;" (.ref s_FEE_EVENT) := Sta.start ev_s_FEE_EVENT (Or.inr ⟨(hv 34 rfl), (hv 37 rfl)⟩)
  have E_s_FEE_EVENT : Exa s s.heap s_FEE_EVENT "com/example/evenfall/evenfall/TransactionType$Source" := Exa.start ev_s_FEE_EVENT nc16
  obtain ⟨nc17, nr17⟩ := and_e nr16
  have F31_ordinal : Fld s s.heap s_EVENT "java/lang/Enum" "ordinal" "I" (.int (1 : Int32)) := Fld.start ((fld_at ev_s_EVENT).symm.trans (own_eqi nc17))
  obtain ⟨nc18, nr18⟩ := and_e nr17
  have F32_ordinal : Fld s s.heap s_FEE_EVENT "java/lang/Enum" "ordinal" "I" (.int (2 : Int32)) := Fld.start ((fld_at ev_s_FEE_EVENT).symm.trans (own_eqi nc18))
  obtain ⟨nc19, nr19⟩ := and_e nr18
  have F33_source : Fld s s.heap s_CHARGE "com/example/evenfall/evenfall/TransactionType" "source" "Lcom/example/evenfall/evenfall/TransactionType$Source;" (.ref s_FEE_EVENT) := Fld.start ((fld_at ev_s_CHARGE).symm.trans (own_eqr nc19 ev_s_FEE_EVENT))
  obtain ⟨nc20, nr20⟩ := and_e nr19
  have F34_ordinal : Fld s s.heap s_CAPITALISATION "java/lang/Enum" "ordinal" "I" (.int (7 : Int32)) := Fld.start ((fld_at ev_s_CAPITALISATION).symm.trans (own_eqi nc20))
  obtain ⟨nc21, nr21⟩ := and_e nr20
  obtain ⟨s_RUN, ev_s_RUN⟩ := exa_v nc21
  have S_s_RUN : Sta s s.heap "com/example/evenfall/evenfall/TransactionType$Source" "RUN" "Lcom/example/evenfall/evenfall/TransactionType$Source;" (.ref s_RUN) := Sta.start ev_s_RUN (Or.inr ⟨(hv 34 rfl), (hv 38 rfl)⟩)
  have E_s_RUN : Exa s s.heap s_RUN "com/example/evenfall/evenfall/TransactionType$Source" := Exa.start ev_s_RUN nc21
  obtain ⟨nc22, nr22⟩ := and_e nr21
  have F37_source : Fld s s.heap s_CAPITALISATION "com/example/evenfall/evenfall/TransactionType" "source" "Lcom/example/evenfall/evenfall/TransactionType$Source;" (.ref s_RUN) := Fld.start ((fld_at ev_s_CAPITALISATION).symm.trans (own_eqr nc22 ev_s_RUN))
  obtain ⟨nc23, nr23⟩ := and_e nr22
  have F38_ordinal : Fld s s.heap s_RUN "java/lang/Enum" "ordinal" "I" (.int (0 : Int32)) := Fld.start ((fld_at ev_s_RUN).symm.trans (own_eqi nc23))
  obtain ⟨nc24, nr24⟩ := and_e nr23
  have F39_ordinal : Fld s s.heap s_RESERVE_APPLIED "java/lang/Enum" "ordinal" "I" (.int (8 : Int32)) := Fld.start ((fld_at ev_s_RESERVE_APPLIED).symm.trans (own_eqi nc24))
  obtain ⟨nc25, nr25⟩ := and_e nr24
  have F40_source : Fld s s.heap s_RESERVE_APPLIED "com/example/evenfall/evenfall/TransactionType" "source" "Lcom/example/evenfall/evenfall/TransactionType$Source;" (.ref s_RUN) := Fld.start ((fld_at ev_s_RESERVE_APPLIED).symm.trans (own_eqr nc25 ev_s_RUN))
  obtain ⟨nc26, nr26⟩ := and_e nr25
  have F41_ordinal : Fld s s.heap s_PREPAYMENT "java/lang/Enum" "ordinal" "I" (.int (2 : Int32)) := Fld.start ((fld_at ev_s_PREPAYMENT).symm.trans (own_eqi nc26))
  obtain ⟨nc27, nr27⟩ := and_e nr26
  have F42_source : Fld s s.heap s_PREPAYMENT "com/example/evenfall/evenfall/TransactionType" "source" "Lcom/example/evenfall/evenfall/TransactionType$Source;" (.ref s_EVENT) := Fld.start ((fld_at ev_s_PREPAYMENT).symm.trans (own_eqr nc27 ev_s_EVENT))
  obtain ⟨nc28, nr28⟩ := and_e nr27
  have F43_ordinal : Fld s s.heap s_REFUND "java/lang/Enum" "ordinal" "I" (.int (10 : Int32)) := Fld.start ((fld_at ev_s_REFUND).symm.trans (own_eqi nc28))
  obtain ⟨nc29, nr29⟩ := and_e nr28
  have F44_source : Fld s s.heap s_REFUND "com/example/evenfall/evenfall/TransactionType" "source" "Lcom/example/evenfall/evenfall/TransactionType$Source;" (.ref s_RUN) := Fld.start ((fld_at ev_s_REFUND).symm.trans (own_eqr nc29 ev_s_RUN))
  obtain ⟨nc30, nr30⟩ := and_e nr29
  have F45_ordinal : Fld s s.heap s_PAYMENT "java/lang/Enum" "ordinal" "I" (.int (1 : Int32)) := Fld.start ((fld_at ev_s_PAYMENT).symm.trans (own_eqi nc30))
  obtain ⟨nc31, nr31⟩ := and_e nr30
  have F46_source : Fld s s.heap s_PAYMENT "com/example/evenfall/evenfall/TransactionType" "source" "Lcom/example/evenfall/evenfall/TransactionType$Source;" (.ref s_EVENT) := Fld.start ((fld_at ev_s_PAYMENT).symm.trans (own_eqr nc31 ev_s_EVENT))
  obtain ⟨nc32, nr32⟩ := and_e nr31
  have F47_ordinal : Fld s s.heap s_FEE_ACCRUAL "java/lang/Enum" "ordinal" "I" (.int (9 : Int32)) := Fld.start ((fld_at ev_s_FEE_ACCRUAL).symm.trans (own_eqi nc32))
  obtain ⟨nc33, nr33⟩ := and_e nr32
  have F48_source : Fld s s.heap s_FEE_ACCRUAL "com/example/evenfall/evenfall/TransactionType" "source" "Lcom/example/evenfall/evenfall/TransactionType$Source;" (.ref s_RUN) := Fld.start ((fld_at ev_s_FEE_ACCRUAL).symm.trans (own_eqr nc33 ev_s_RUN))
  obtain ⟨nc34, nr34⟩ := and_e nr33
  have F49_ordinal : Fld s s.heap s_ACCRUAL_ENTRY "java/lang/Enum" "ordinal" "I" (.int (5 : Int32)) := Fld.start ((fld_at ev_s_ACCRUAL_ENTRY).symm.trans (own_eqi nc34))
  obtain ⟨nc35, nr35⟩ := and_e nr34
  have F50_source : Fld s s.heap s_ACCRUAL_ENTRY "com/example/evenfall/evenfall/TransactionType" "source" "Lcom/example/evenfall/evenfall/TransactionType$Source;" (.ref s_RUN) := Fld.start ((fld_at ev_s_ACCRUAL_ENTRY).symm.trans (own_eqr nc35 ev_s_RUN))
  obtain ⟨nc36, nr36⟩ := and_e nr35
  have F51_ordinal : Fld s s.heap s_INTEREST_POSTING "java/lang/Enum" "ordinal" "I" (.int (6 : Int32)) := Fld.start ((fld_at ev_s_INTEREST_POSTING).symm.trans (own_eqi nc36))
  obtain ⟨nc37, nr37⟩ := and_e nr36
  have F52_source : Fld s s.heap s_INTEREST_POSTING "com/example/evenfall/evenfall/TransactionType" "source" "Lcom/example/evenfall/evenfall/TransactionType$Source;" (.ref s_RUN) := Fld.start ((fld_at ev_s_INTEREST_POSTING).symm.trans (own_eqr nc37 ev_s_RUN))
  have F53_source : Fld s s.heap s_PREPAID_FEE "com/example/evenfall/evenfall/TransactionType" "source" "Lcom/example/evenfall/evenfall/TransactionType$Source;" (.ref s_FEE_EVENT) := Fld.start ((fld_at ev_s_PREPAID_FEE).symm.trans (own_eqr nr37 ev_s_FEE_EVENT))
  obtain ⟨n, o, h1, h2, h3, _, L, rfl, ⟨rfl, N⟩, hq⟩ := rm0 l s _ hw tables_1 i0 s_DISBURSEMENT s_PAYMENT s_PREPAYMENT s_CHARGE s_PREPAID_FEE s_ACCRUAL_ENTRY s_INTEREST_POSTING s_CAPITALISATION s_RESERVE_APPLIED s_FEE_ACCRUAL s_REFUND s_EVENT s_FEE_EVENT s_RUN s.heap s.heap.size (Nat.le_refl _) O0 S_s_DISBURSEMENT E_s_DISBURSEMENT S_s_PAYMENT E_s_PAYMENT S_s_PREPAYMENT E_s_PREPAYMENT S_s_CHARGE E_s_CHARGE S_s_PREPAID_FEE E_s_PREPAID_FEE S_s_ACCRUAL_ENTRY E_s_ACCRUAL_ENTRY S_s_INTEREST_POSTING E_s_INTEREST_POSTING S_s_CAPITALISATION E_s_CAPITALISATION S_s_RESERVE_APPLIED E_s_RESERVE_APPLIED S_s_FEE_ACCRUAL E_s_FEE_ACCRUAL S_s_REFUND E_s_REFUND F23_ordinal F24_ordinal F25_ordinal S_s_EVENT E_s_EVENT F28_source S_s_FEE_EVENT E_s_FEE_EVENT F31_ordinal F32_ordinal F33_source F34_ordinal S_s_RUN E_s_RUN F37_source F38_ordinal F39_ordinal F40_source F41_ordinal F42_source F43_ordinal F44_source F45_ordinal F46_source F47_ordinal F48_source F49_ordinal F50_source F51_ordinal F52_source F53_source p e ha hc hk s m _ below hf ((Spec.applies_iff_loose hf).mp happ).1 ⟨rfl, State.Warmed39.refl s, rfl⟩ trivial
  refine ⟨n, _, h1, h2, h3, hpost _ _ _ _ _ _ ⟨Cond.after_iff.mpr rfl, Cond.after_iff.mpr (eq_i res_at (Term.int_eval (1)) rfl), trivial⟩ ⟨hq.1, hq.2.1, (hq.2.2.sift fun y hy => Or.inr (N y hy)).mono (by decide) (by decide)⟩⟩
theorem main_1_1 : Claimed_1_1 := comes_1 fun _ _ _ _ _ _ h hF => ⟨h.1, hF⟩
theorem main_1_2 : Claimed_1_2 := comes_1 fun _ _ _ _ _ _ h hF => ⟨h.2.1, hF⟩
end Jvm.Pilot.@@N@@
namespace Jvm.Pilot.@@N@@
open Jvm Jvm.ClassFile Sem Op Lib Jvm.Free Jvm.Stand Jvm.Pilot.@@N@@.Jvm.D
/-! MADE BY PROGRAM (witnessworld.py) out of the Statement's table words and the real class files: 14 classes; the members and pool entries that the words name. The judged class is class 1, her method 1. -/
namespace start1
open Jvm.ClassFile
def u (s : String) : CpInfo := .utf8 (stringToUtf16 s)
/-- a pool by its gaps: so many unusable entries, then the entry; so many at the end -/
def gap : Nat → List CpInfo → List CpInfo
  | 0, r => r
  | n + 1, r => .unusable :: gap n r
def poolList (es : List (Nat × CpInfo)) (last : Nat) : List CpInfo := es.foldr (fun e r => gap e.1 (e.2 :: r)) (gap last [])
def pool (es : List (Nat × CpInfo)) (last : Nat) : Array CpInfo := ⟨poolList es last⟩
def fileOf (pool : Array CpInfo) (this : Nat) (attrs : Array Attribute := #[]) (ms : Array MethodInfo := #[]) (fl : Nat := 33) (sup : Nat := 0) (ifs : Array Nat := #[]) (fds : Array FieldInfo := #[]) : ClassFile where
  minorVersion := 0
  majorVersion := 65
  constantPool := pool
  accessFlags := fl
  thisClass := this
  superClass := sup
  interfaces := ifs
  fields := fds
  methods := ms
  attributes := attrs
def plain (name : String) (sup : Option ClassId) : Class where
  name := name
  kind := .ordinary
  loader := none
  accessFlags := 33
  super := sup
  interfaces := #[]
  cf := none
  fields := #[]
  methods := #[]
  instanceTypes := #[]
  staticTypes := #[]
  resolved := #[]
  callSites := []
  init := .initialized
  statics := none
  mirror := none

def pool0 : Array CpInfo := pool [(5, u "<init>"), (0, u "()V"), (1, .class_ 10), (1, u "java/lang/Object")] 113

def k0m0 : Method := { name := "<init>", desc := "()V", sig := { parameters := [], returnType := none }, accessFlags := 1, code := none }
/-- java/lang/Object -/
def k0 : Class := { plain "java/lang/Object" none with
  accessFlags := 33
  interfaces := #[]
  cf := some (fileOf pool0 8 #[] #[{ accessFlags := 1, nameIndex := 5, descriptorIndex := 6, attributes := #[] }] 33 0 #[] #[])
  fields := #[]
  methods := #[k0m0]
  instanceTypes := #[]
  staticTypes := #[]
  resolved := Array.replicate 124 none
  statics := none }

def pool1 : Array CpInfo := pool [(2, .class_ 4), (1, u "java/lang/Object"), (0, u "<init>"), (0, u "()V"), (0, .class_ 8), (0, u "com/example/evenfall/evenfall/TransactionType"), (0, .fieldref 7 10), (0, .nameAndType 11 12), (0, u "DISBURSEMENT"), (0, u "Lcom/example/evenfall/evenfall/TransactionType;"), (0, .fieldref 7 14), (0, .nameAndType 15 12), (0, u "PAYMENT"), (0, .fieldref 7 17), (0, .nameAndType 18 12), (0, u "PREPAYMENT"), (0, .fieldref 7 20), (0, .nameAndType 21 12), (0, u "CHARGE"), (0, .fieldref 7 23), (0, .nameAndType 24 12), (0, u "PREPAID_FEE"), (0, .fieldref 7 26), (0, .nameAndType 27 12), (0, u "ACCRUAL_ENTRY"), (0, .fieldref 7 29), (0, .nameAndType 30 12), (0, u "INTEREST_POSTING"), (0, .fieldref 7 32), (0, .nameAndType 33 12), (0, u "CAPITALISATION"), (0, .fieldref 7 35), (0, .nameAndType 36 12), (0, u "RESERVE_APPLIED"), (0, .fieldref 7 38), (0, .nameAndType 39 12), (0, u "FEE_ACCRUAL"), (0, .fieldref 7 41), (0, .nameAndType 42 12), (0, u "REFUND"), (0, .integer 2147483647), (0, .methodref 7 45), (0, .nameAndType 46 47), (0, u "namesFee"), (0, u "()Z"), (0, .class_ 49), (0, u "com/example/evenfall/evenfall/TransactionTypeNamesFeePinLaw"), (2, u "law"), (0, u "(I)Z")] 5

def k1m0 : Method := { name := "<init>", desc := "()V", sig := { parameters := [], returnType := none }, accessFlags := 1, code := none }
def k1c1 : Code := { maxStack := 4, maxLocals := 5, code := code, exceptionTable := #[], attributes := #[] }
def k1m1 : Method := { name := "law", desc := "(I)Z", sig := { parameters := [.int], returnType := some .boolean }, accessFlags := 9, code := some k1c1 }
/-- com/example/evenfall/evenfall/TransactionTypeNamesFeePinLaw -/
def k1 : Class := { plain "com/example/evenfall/evenfall/TransactionTypeNamesFeePinLaw" (some 0) with
  accessFlags := 49
  interfaces := #[]
  cf := some (fileOf pool1 48 #[] #[{ accessFlags := 1, nameIndex := 5, descriptorIndex := 6, attributes := #[] }, { accessFlags := 9, nameIndex := 52, descriptorIndex := 53, attributes := #[] }] 49 2 #[] #[])
  fields := #[]
  methods := #[k1m0, k1m1]
  instanceTypes := #[]
  staticTypes := #[]
  resolved := Array.replicate 59 none
  statics := none }

def pool2 : Array CpInfo := pool [(1, .class_ 2), (0, u "java/lang/constant/Constable"), (0, .class_ 4), (0, u "java/lang/Object")] 6

/-- java/lang/constant/Constable -/
def k2 : Class := { plain "java/lang/constant/Constable" (some 0) with
  accessFlags := 1537
  interfaces := #[]
  cf := some (fileOf pool2 1 #[] #[] 1537 3 #[] #[])
  fields := #[]
  methods := #[]
  instanceTypes := #[]
  staticTypes := #[]
  resolved := Array.replicate 11 none
  statics := none }

def pool3 : Array CpInfo := pool [(1, .class_ 2), (0, u "java/lang/Comparable"), (0, .class_ 4), (0, u "java/lang/Object")] 7

/-- java/lang/Comparable -/
def k3 : Class := { plain "java/lang/Comparable" (some 0) with
  accessFlags := 1537
  interfaces := #[]
  cf := some (fileOf pool3 1 #[] #[] 1537 3 #[] #[])
  fields := #[]
  methods := #[]
  instanceTypes := #[]
  staticTypes := #[]
  resolved := Array.replicate 12 none
  statics := none }

def pool4 : Array CpInfo := pool [(1, .class_ 2), (0, u "java/io/Serializable"), (0, .class_ 4), (0, u "java/lang/Object")] 2

/-- java/io/Serializable -/
def k4 : Class := { plain "java/io/Serializable" (some 0) with
  accessFlags := 1537
  interfaces := #[]
  cf := some (fileOf pool4 1 #[] #[] 1537 3 #[] #[])
  fields := #[]
  methods := #[]
  instanceTypes := #[]
  staticTypes := #[]
  resolved := Array.replicate 7 none
  statics := none }

def pool5 : Array CpInfo := pool [(2, .class_ 4), (1, u "java/lang/Enum"), (0, u "name"), (0, u "Ljava/lang/String;"), (2, u "ordinal"), (0, u "I"), (1, .class_ 14), (1, u "java/lang/Object"), (4, u "hash"), (86, .class_ 108), (1, u "java/lang/Enum$EnumDesc"), (2, .class_ 112), (0, u "java/lang/constant/Constable"), (0, .class_ 114), (0, u "java/lang/Comparable"), (0, .class_ 116), (0, u "java/io/Serializable")] 87

/-- java/lang/Enum -/
def k5 : Class := { plain "java/lang/Enum" (some 0) with
  accessFlags := 1057
  interfaces := #[2, 3, 4]
  cf := some (fileOf pool5 2 #[.nestMembers #[106]] #[] 1057 12 #[111, 113, 115] #[{ accessFlags := 18, nameIndex := 5, descriptorIndex := 6, attributes := #[] }, { accessFlags := 18, nameIndex := 9, descriptorIndex := 10, attributes := #[] }, { accessFlags := 2, nameIndex := 19, descriptorIndex := 10, attributes := #[] }])
  fields := #[{ name := "name", type := (.object "java/lang/String"), accessFlags := 18, slot := 0, constantValue := 0 }, { name := "ordinal", type := .int, accessFlags := 18, slot := 1, constantValue := 0 }, { name := "hash", type := .int, accessFlags := 2, slot := 2, constantValue := 0 }]
  methods := #[]
  instanceTypes := #[(.object "java/lang/String"), .int, .int]
  staticTypes := #[]
  resolved := Array.replicate 204 none
  statics := none }

def pool6 : Array CpInfo := pool [(1, .class_ 2), (0, u "com/example/evenfall/evenfall/TransactionType"), (2, u "DISBURSEMENT"), (0, u "Lcom/example/evenfall/evenfall/TransactionType;"), (2, u "PAYMENT"), (2, u "PREPAYMENT"), (2, u "CHARGE"), (2, u "PREPAID_FEE"), (2, u "ACCRUAL_ENTRY"), (2, u "INTEREST_POSTING"), (2, u "CAPITALISATION"), (2, u "RESERVE_APPLIED"), (2, u "FEE_ACCRUAL"), (2, u "REFUND"), (2, u "$VALUES"), (0, u "[Lcom/example/evenfall/evenfall/TransactionType;"), (6, .class_ 49), (1, u "java/lang/Enum"), (8, u "label"), (0, u "Ljava/lang/String;"), (0, .fieldref 1 61), (0, .nameAndType 62 63), (0, u "source"), (0, u "Lcom/example/evenfall/evenfall/TransactionType$Source;"), (39, .fieldref 104 105), (0, .class_ 106), (0, .nameAndType 107 63), (0, u "com/example/evenfall/evenfall/TransactionType$Source"), (0, u "FEE_EVENT"), (6, u "()Z"), (60, u "namesFee")] 39

def k6c0 : Code := { maxStack := 2, maxLocals := 1, code := prog_58_method_7_code, exceptionTable := #[], attributes := #[] }
def k6m0 : Method := { name := "namesFee", desc := "()Z", sig := { parameters := [], returnType := some .boolean }, accessFlags := 0, code := some k6c0 }
/-- com/example/evenfall/evenfall/TransactionType -/
def k6 : Class := { plain "com/example/evenfall/evenfall/TransactionType" (some 5) with
  accessFlags := 16432
  interfaces := #[]
  cf := some (fileOf pool6 1 #[.nestMembers #[104]] #[{ accessFlags := 0, nameIndex := 175, descriptorIndex := 114, attributes := #[] }] 16432 47 #[] #[{ accessFlags := 16409, nameIndex := 5, descriptorIndex := 6, attributes := #[] }, { accessFlags := 16409, nameIndex := 9, descriptorIndex := 6, attributes := #[] }, { accessFlags := 16409, nameIndex := 12, descriptorIndex := 6, attributes := #[] }, { accessFlags := 16409, nameIndex := 15, descriptorIndex := 6, attributes := #[] }, { accessFlags := 16409, nameIndex := 18, descriptorIndex := 6, attributes := #[] }, { accessFlags := 16409, nameIndex := 21, descriptorIndex := 6, attributes := #[] }, { accessFlags := 16409, nameIndex := 24, descriptorIndex := 6, attributes := #[] }, { accessFlags := 16409, nameIndex := 27, descriptorIndex := 6, attributes := #[] }, { accessFlags := 16409, nameIndex := 30, descriptorIndex := 6, attributes := #[] }, { accessFlags := 16409, nameIndex := 33, descriptorIndex := 6, attributes := #[] }, { accessFlags := 16409, nameIndex := 36, descriptorIndex := 6, attributes := #[] }, { accessFlags := 18, nameIndex := 58, descriptorIndex := 59, attributes := #[] }, { accessFlags := 18, nameIndex := 62, descriptorIndex := 63, attributes := #[] }, { accessFlags := 4122, nameIndex := 39, descriptorIndex := 40, attributes := #[] }])
  fields := #[{ name := "DISBURSEMENT", type := (.object "com/example/evenfall/evenfall/TransactionType"), accessFlags := 16409, slot := 0, constantValue := 0 }, { name := "PAYMENT", type := (.object "com/example/evenfall/evenfall/TransactionType"), accessFlags := 16409, slot := 1, constantValue := 0 }, { name := "PREPAYMENT", type := (.object "com/example/evenfall/evenfall/TransactionType"), accessFlags := 16409, slot := 2, constantValue := 0 }, { name := "CHARGE", type := (.object "com/example/evenfall/evenfall/TransactionType"), accessFlags := 16409, slot := 3, constantValue := 0 }, { name := "PREPAID_FEE", type := (.object "com/example/evenfall/evenfall/TransactionType"), accessFlags := 16409, slot := 4, constantValue := 0 }, { name := "ACCRUAL_ENTRY", type := (.object "com/example/evenfall/evenfall/TransactionType"), accessFlags := 16409, slot := 5, constantValue := 0 }, { name := "INTEREST_POSTING", type := (.object "com/example/evenfall/evenfall/TransactionType"), accessFlags := 16409, slot := 6, constantValue := 0 }, { name := "CAPITALISATION", type := (.object "com/example/evenfall/evenfall/TransactionType"), accessFlags := 16409, slot := 7, constantValue := 0 }, { name := "RESERVE_APPLIED", type := (.object "com/example/evenfall/evenfall/TransactionType"), accessFlags := 16409, slot := 8, constantValue := 0 }, { name := "FEE_ACCRUAL", type := (.object "com/example/evenfall/evenfall/TransactionType"), accessFlags := 16409, slot := 9, constantValue := 0 }, { name := "REFUND", type := (.object "com/example/evenfall/evenfall/TransactionType"), accessFlags := 16409, slot := 10, constantValue := 0 }, { name := "label", type := (.object "java/lang/String"), accessFlags := 18, slot := 3, constantValue := 0 }, { name := "source", type := (.object "com/example/evenfall/evenfall/TransactionType$Source"), accessFlags := 18, slot := 4, constantValue := 0 }, { name := "$VALUES", type := (.array (.object "com/example/evenfall/evenfall/TransactionType")), accessFlags := 4122, slot := 11, constantValue := 0 }]
  methods := #[k6m0]
  instanceTypes := #[(.object "java/lang/String"), .int, .int, (.object "java/lang/String"), (.object "com/example/evenfall/evenfall/TransactionType$Source")]
  staticTypes := #[(.object "com/example/evenfall/evenfall/TransactionType"), (.object "com/example/evenfall/evenfall/TransactionType"), (.object "com/example/evenfall/evenfall/TransactionType"), (.object "com/example/evenfall/evenfall/TransactionType"), (.object "com/example/evenfall/evenfall/TransactionType"), (.object "com/example/evenfall/evenfall/TransactionType"), (.object "com/example/evenfall/evenfall/TransactionType"), (.object "com/example/evenfall/evenfall/TransactionType"), (.object "com/example/evenfall/evenfall/TransactionType"), (.object "com/example/evenfall/evenfall/TransactionType"), (.object "com/example/evenfall/evenfall/TransactionType"), (.array (.object "com/example/evenfall/evenfall/TransactionType"))]
  resolved := Array.replicate 215 none
  statics := some 0 }

def pool7 : Array CpInfo := pool [(1, .class_ 2), (0, u "com/example/evenfall/evenfall/TransactionType$Source"), (2, u "RUN"), (0, u "Lcom/example/evenfall/evenfall/TransactionType$Source;"), (2, u "EVENT"), (2, u "FEE_EVENT"), (2, u "$VALUES"), (0, u "[Lcom/example/evenfall/evenfall/TransactionType$Source;"), (6, .class_ 25), (1, u "java/lang/Enum"), (26, .class_ 53), (0, u "com/example/evenfall/evenfall/TransactionType")] 2

/-- com/example/evenfall/evenfall/TransactionType$Source -/
def k7 : Class := { plain "com/example/evenfall/evenfall/TransactionType$Source" (some 5) with
  accessFlags := 16432
  interfaces := #[]
  cf := some (fileOf pool7 1 #[.nestHost 52] #[] 16432 23 #[] #[{ accessFlags := 16409, nameIndex := 5, descriptorIndex := 6, attributes := #[] }, { accessFlags := 16409, nameIndex := 9, descriptorIndex := 6, attributes := #[] }, { accessFlags := 16409, nameIndex := 12, descriptorIndex := 6, attributes := #[] }, { accessFlags := 4122, nameIndex := 15, descriptorIndex := 16, attributes := #[] }])
  fields := #[{ name := "RUN", type := (.object "com/example/evenfall/evenfall/TransactionType$Source"), accessFlags := 16409, slot := 0, constantValue := 0 }, { name := "EVENT", type := (.object "com/example/evenfall/evenfall/TransactionType$Source"), accessFlags := 16409, slot := 1, constantValue := 0 }, { name := "FEE_EVENT", type := (.object "com/example/evenfall/evenfall/TransactionType$Source"), accessFlags := 16409, slot := 2, constantValue := 0 }, { name := "$VALUES", type := (.array (.object "com/example/evenfall/evenfall/TransactionType$Source")), accessFlags := 4122, slot := 3, constantValue := 0 }]
  methods := #[]
  instanceTypes := #[(.object "java/lang/String"), .int, .int]
  staticTypes := #[(.object "com/example/evenfall/evenfall/TransactionType$Source"), (.object "com/example/evenfall/evenfall/TransactionType$Source"), (.object "com/example/evenfall/evenfall/TransactionType$Source"), (.array (.object "com/example/evenfall/evenfall/TransactionType$Source"))]
  resolved := Array.replicate 56 none
  statics := some 1 }

def pool8 : Array CpInfo := pool [(1, u "java/lang/Cloneable"), (0, .class_ 1), (0, u "java/lang/Object"), (0, .class_ 3)] 3

/-- java/lang/Cloneable -/
def k8 : Class := { plain "java/lang/Cloneable" (some 0) with
  accessFlags := 1537
  interfaces := #[]
  cf := some (fileOf pool8 2 #[] #[] 1537 4 #[] #[])
  fields := #[]
  methods := #[]
  instanceTypes := #[]
  staticTypes := #[]
  resolved := Array.replicate 8 none
  statics := none }

/-- the primitive byte -/
def k9 : Class := { plain "byte" none with kind := .primitive 'B', accessFlags := 0x411 }
/-- [B -/
def k10 : Class := { plain "[B" (some 0) with kind := .array 9 .byte, interfaces := #[8, 4], accessFlags := 1041 }

/-- the primitive int -/
def k11 : Class := { plain "int" none with kind := .primitive 'I', accessFlags := 0x411 }
/-- [I -/
def k12 : Class := { plain "[I" (some 0) with kind := .array 11 .int, interfaces := #[8, 4], accessFlags := 1041 }

/-- [Lcom/example/evenfall/evenfall/TransactionType; -/
def k13 : Class := { plain "[Lcom/example/evenfall/evenfall/TransactionType;" (some 0) with kind := .array 6 (.object "com/example/evenfall/evenfall/TransactionType"), interfaces := #[8, 4], accessFlags := 1041 }

def heap : Heap := #[{ cls := 6, slots := #[.ref 2, .ref 3, .ref 4, .ref 5, .ref 6, .ref 7, .ref 8, .ref 9, .ref 10, .ref 11, .ref 12, .null], vm := .statics 6 },
  { cls := 7, slots := #[.ref 15, .ref 13, .ref 14, .null], vm := .statics 7 },
  { cls := 6, slots := #[.null, .int 0, .int 0, .null, .ref 13], vm := .none },
  { cls := 6, slots := #[.null, .int 1, .int 0, .null, .ref 13], vm := .none },
  { cls := 6, slots := #[.null, .int 2, .int 0, .null, .ref 13], vm := .none },
  { cls := 6, slots := #[.null, .int 3, .int 0, .null, .ref 14], vm := .none },
  { cls := 6, slots := #[.null, .int 4, .int 0, .null, .ref 14], vm := .none },
  { cls := 6, slots := #[.null, .int 5, .int 0, .null, .ref 15], vm := .none },
  { cls := 6, slots := #[.null, .int 6, .int 0, .null, .ref 15], vm := .none },
  { cls := 6, slots := #[.null, .int 7, .int 0, .null, .ref 15], vm := .none },
  { cls := 6, slots := #[.null, .int 8, .int 0, .null, .ref 15], vm := .none },
  { cls := 6, slots := #[.null, .int 9, .int 0, .null, .ref 15], vm := .none },
  { cls := 6, slots := #[.null, .int 10, .int 0, .null, .ref 15], vm := .none },
  { cls := 7, slots := #[.null, .int 1, .int 0], vm := .none },
  { cls := 7, slots := #[.null, .int 2, .int 0], vm := .none },
  { cls := 7, slots := #[.null, .int 0, .int 0], vm := .none }]
def classes : Array Class := #[k0, k1, k2, k3, k4, k5, k6, k7, k8, k9, k10, k11, k12, k13]
def interned : List (Array UInt16 × Addr) := []
def slotsUsed : Nat := 80
def theMethod : MethodId := ⟨1, 1⟩
def args0 : Array Value := #[.int 5]
def aboutOver (below : List Frame) : State where
  vm := { classes := classes, interned := interned.toArray }
  heap := heap
  slotsUsed := slotsUsed
  threads := #[{ frames := .invoking theMethod args0 :: below }]
def below0 : List Frame := [.native { method := ⟨0, 0⟩, args := #[] }]
def about1 : State := aboutOver below0
def p0 : Program := .bare "" "" ""
def e0 : Env := launch0.env 0 0 0
theorem w_frames : about1.frames = Frame.invoking theMethod args0 :: below0 := rfl
set_option maxRecDepth 65536 in
theorem w_args : argsFit about1.vm theMethod args0 = true := by decide +kernel
set_option maxRecDepth 65536 in
theorem w_heap : heapFits about1 = true := by decide +kernel
set_option maxRecDepth 65536 in
theorem w_runnable : about1.curStatus? = some .runnable := by decide +kernel
set_option maxRecDepth 65536 in
theorem w_alone : about1.alone = true := by decide +kernel
set_option maxRecDepth 65536 in
theorem w_named : about1.methodNamed? x = some theMethod := by decide +kernel
set_option maxRecDepth 65536 in
theorem w_hears : about1.hears theMethod below0 = true := by decide +kernel
set_option maxRecDepth 65536 in
theorem w_ripe : about1.ripe theMethod args0 below0 = true := by decide +kernel
theorem w_running : about1.status = .running := rfl
set_option maxRecDepth 65536 in
theorem w_room : about1.hasRoom e0.platform room_1 = true :=
  launch0.hasRoom_least _ room_1 (by decide +kernel) (by decide +kernel) (by decide +kernel) (by decide +kernel) (by decide +kernel) (by decide +kernel)
theorem allAtoms_all (ts : List Jvm.Cond) (a : Array Jvm.Value) (st : Jvm.State) : (allAtoms ts).before a st = ts.all (fun c => c.before a st) := by
  induction ts with
  | nil => rfl
  | cons c t ih =>
    show (Jvm.Cond.and c (allAtoms t)).before a st = _
    rw [Jvm.Cond.before_and, ih, List.all_cons]
def words1 : List Jvm.Cond := Jvm.Cond.code x code maxLocals ret :: tables_1
/-- a 'code' word, met by the world's own term for the bytes: nothing is compared byte by byte -/
theorem code_word {y : MethodName} {bytes : ByteArray} {mx : Nat} {rt : Option FieldType} {a : Array Value} {s : State} {m : MethodId} {meth : Method} {c : Code} (h1 : s.methodNamed? y = some m) (h2 : s.vm.method? m = some meth) (h3 : meth.code = some c) (h4 : c.code = bytes)
    (h5 : (c.maxLocals == mx && c.exceptionTable.isEmpty && decide (c.maxStack ≤ mostOperands) && decide (meth.sig.returnType = rt) && !meth.locks && decide (parseMethodDescriptor y.desc = some meth.sig)) = true) : (Jvm.Cond.code y bytes mx rt).before a s = true := by
  simp only [Bool.and_eq_true, beq_iff_eq, Bool.not_eq_true', decide_eq_true_eq] at h5
  obtain ⟨⟨⟨⟨⟨g1, g2⟩, g3⟩, g4⟩, g5⟩, g6⟩ := h5
  simp [Cond.before, Cond.holds, Cond.value, h1, h2, h3, h4, g1, g2, g3, g4, g5, g6]
def isCode : Jvm.Cond → Bool
  | .code _ _ _ _ => true
  | _ => false
theorem all_split {L : List Jvm.Cond} {P : Jvm.Cond → Bool} (h1 : L.all (fun c => isCode c || P c) = true) (h2 : ∀ c ∈ L.filter isCode, P c = true) : L.all P = true := by
  refine List.all_eq_true.mpr fun c hc => ?_
  have h := List.all_eq_true.mp h1 c hc
  rcases Bool.eq_false_or_eq_true (isCode c) with hi | hi
  · exact h2 c (List.mem_filter.mpr ⟨hc, hi⟩)
  · simpa [hi] using h
set_option maxRecDepth 65536 in
theorem w_c0 : (Jvm.Cond.code x code maxLocals ret).before args0 about1 = true := code_word (m := ⟨1, 1⟩) (meth := k1m1) (c := k1c1) (by decide +kernel) rfl rfl rfl (by decide +kernel)
set_option maxRecDepth 65536 in
theorem w_c1 : (Jvm.Cond.code ({ cls := "com/example/evenfall/evenfall/TransactionType", name := "namesFee", desc := "()Z" } : Jvm.MethodName) prog_58_method_7_code (1 : Nat) (Option.some Jvm.ClassFile.FieldType.boolean)).before args0 about1 = true := code_word (m := ⟨6, 0⟩) (meth := k6m0) (c := k6c0) (by decide +kernel) rfl rfl rfl (by decide +kernel)
def codes1 : List Jvm.Cond := [Jvm.Cond.code x code maxLocals ret, Jvm.Cond.code ({ cls := "com/example/evenfall/evenfall/TransactionType", name := "namesFee", desc := "()Z" } : Jvm.MethodName) prog_58_method_7_code (1 : Nat) (Option.some Jvm.ClassFile.FieldType.boolean)]
set_option maxRecDepth 65536 in
theorem codes_eq : words1.filter isCode = codes1 := rfl
theorem w_codes : ∀ c ∈ words1.filter isCode, c.before args0 about1 = true := by
  rw [codes_eq]
  intro c hc
  simp only [codes1, List.mem_cons, List.not_mem_nil, or_false] at hc
  rcases hc with rfl | rfl
  · exact w_c0
  · exact w_c1
set_option maxRecDepth 65536 in
theorem w_t1 : (words1.take 24).all (fun c => isCode c || c.before args0 about1) = true := by decide +kernel
set_option maxRecDepth 65536 in
theorem w_t2 : (words1.drop 24).all (fun c => isCode c || c.before args0 about1) = true := by decide +kernel
theorem w_tables : (allAtoms (Jvm.Cond.code x code maxLocals ret :: tables_1)).before args0 about1 = true := by
  rw [allAtoms_all]
  show words1.all (fun c => c.before args0 about1) = true
  refine all_split ?_ w_codes
  rw [← List.take_append_drop 24 words1, List.all_append, w_t1, w_t2]
  rfl
set_option maxRecDepth 65536 in
theorem w_case : (Jvm.Cond.and given_1 narrow_1).before args0 about1 = true := by decide +kernel
theorem w_applies : (headSpec (Jvm.Cond.code x code maxLocals ret :: tables_1) room_1).applies x e0.platform about1 = true :=
  (Spec.applies_iff w_frames).mpr ⟨w_running, w_runnable, w_alone, w_named, w_hears, w_ripe, w_room, w_tables⟩
theorem atStart : AtStart classFile x code maxLocals ret World_1 tables_1 room_1 Calls_1 rest_1 Pre_1 launch0 p0 e0 about1 theMethod args0 below0 :=
  ⟨lists_1, trivial, launch0.admits_env _ _ _, launch0.least_env, fairChoices_fair.cas, fairChoices_fair.clock, w_frames, w_args, w_heap, w_applies, trivial, trivial, w_case⟩
end start1
theorem witness_1 : WitnessClaimed_1 := ⟨start1.p0, start1.e0, start1.about1, start1.theMethod, start1.args0, start1.below0, start1.atStart⟩
end Jvm.Pilot.@@N@@
