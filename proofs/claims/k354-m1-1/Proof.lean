import JvmDerived
import JvmDerived.Pilot.@@N@@Statement
import JvmDerived.Pilot.@@N@@Code
set_option linter.unusedVariables false
set_option linter.unusedSimpArgs false
namespace Jvm.RoadKit
open Sem ClassFile Op Lib Jvm.Stand Jvm.Free Jvm.LawKit
section New
variable {p : Program} {l : Launch} {e : Env} {R : Room} {s : State} {m : MethodId} {args : Array Value} {below : List Frame} {meth : Method} {c : Code} {T : State} {locs : List Loc} {cells slots : Nat}
theorem retI (X : Stand p l e R s m args below meth c T locs cells slots) (hx : p.tables.exec = Jvm.exec) {pc : Nat} {Ls : Array Slot} {z : Int32} {rest : List Value} (hret : meth.sig.returnType = some .int) (hd : decode c.code pc = .ok (.ireturn, 1)) {fs : List Frame}
    (hl : ∀ (f : JFrame) (acts : List Action), f.method = m → f.locked = none → f.entered = [] → (doReturn e (T.setTop f) acts (some (.int z))).1 = T.setFrames fs) : Steps p.tables e below (T.setTop (mkF m pc Ls (.int z :: rest))) (T.setFrames fs) := by
  have hm' : T.vm.method? m = some meth := X.method'
  have hn : narrow .int (.int z) = .int z := rfl
  show Steps p.tables e below (T.setTop { method := m, pc := pc, locals := Ls, stack := _ :: rest, locked := none }) _
  jvm_step X.here [X.here.top, hx, hd, hm', hret, hn]
  first | (intro acts; rw [hl _ acts rfl rfl rfl]) | rw [hl _ _ rfl rfl rfl]
  exact Steps.refl _
end New
end Jvm.RoadKit
namespace Jvm.Pilot.@@N@@
open Jvm Jvm.ClassFile Sem Op Lib Jvm.Free Jvm.Stand Jvm.LawKit Jvm.RoadKit Bundle Jvm.Pilot.@@N@@.Jvm.D
section OwnKit
variable {p : Program} {l : Launch} {e : Env} {R : Room} {s : State} {m : MethodId} {args : Array Value} {below : List Frame} {meth : Method} {c : Code} {T W : State} {locs : List Loc} {cells slots : Nat} {Z : State} {a0 : Array Value} {h : Heap} {pc : Nat} {L : Array Slot} {S : List Value}
def Go (p : Program) (e : Env) (below : List Frame) (m : MethodId) (W T : State) (pc : Nat) (L : Array Slot) (S : List Value) : Prop := ∀ t, Steps p.tables e below (T.setTop (mkF m pc L S)) t → Steps p.tables e below W t
theorem Go.iloadN {n : Fin 4} {v : Int32} (k : Go p e below m W T pc L S) (X : Stand p l e R s m args below meth c T locs cells slots) (hx : p.tables.exec = Jvm.exec) (hd : decode c.code pc = .ok (.iload_n n, 1)) (hl : L[n.val]? = some (.val (.int v))) : Go p e below m W T (pc + 1) L (.int v :: S) := fun t kt => k t (Jvm.Free.XS.iloadN X.here hx rfl hd hl kt)
theorem Go.iload {n : Nat} {v : Int32} (k : Go p e below m W T pc L S) (X : Stand p l e R s m args below meth c T locs cells slots) (hx : p.tables.exec = Jvm.exec) (hd : decode c.code pc = .ok (.iload n, 2)) (hl : L[n]? = some (.val (.int v))) : Go p e below m W T (pc + 2) L (.int v :: S) := fun t kt => k t (Jvm.Free.XS.iload X.here hx rfl hd hl kt)
theorem Go.lloadN {n : Fin 4} {v : Int64} (k : Go p e below m W T pc L S) (X : Stand p l e R s m args below meth c T locs cells slots) (hx : p.tables.exec = Jvm.exec) (hd : decode c.code pc = .ok (.lload_n n, 1)) (hl : L[n.val]? = some (.val (.long v))) : Go p e below m W T (pc + 1) L (.long v :: S) := fun t kt => k t (Jvm.Free.XT.lloadN X.here hx rfl hd hl kt)
theorem Go.lload {n : Nat} {v : Int64} (k : Go p e below m W T pc L S) (X : Stand p l e R s m args below meth c T locs cells slots) (hx : p.tables.exec = Jvm.exec) (hd : decode c.code pc = .ok (.lload n, 2)) (hl : L[n]? = some (.val (.long v))) : Go p e below m W T (pc + 2) L (.long v :: S) := fun t kt => k t (Jvm.Free.XT.lload X.here hx rfl hd hl kt)
theorem Go.aloadN {n : Fin 4} {v : Value} (k : Go p e below m W T pc L S) (X : Stand p l e R s m args below meth c T locs cells slots) (hx : p.tables.exec = Jvm.exec) (hd : decode c.code pc = .ok (.aload_n n, 1)) (hl : L[n.val]? = some (.val v)) (hv : v.isRef = true) : Go p e below m W T (pc + 1) L (v :: S) := fun t kt => k t (Jvm.Free.XS.aloadN X.here hx rfl hd hl hv kt)
theorem Go.aload {n : Nat} {v : Value} (k : Go p e below m W T pc L S) (X : Stand p l e R s m args below meth c T locs cells slots) (hx : p.tables.exec = Jvm.exec) (hd : decode c.code pc = .ok (.aload n, 2)) (hl : L[n]? = some (.val v)) (hv : v.isRef = true) : Go p e below m W T (pc + 2) L (v :: S) := fun t kt => k t (Jvm.Free.XS.aload X.here hx rfl hd hl hv kt)
theorem Go.iconst {i : Int} {v : Int32} (k : Go p e below m W T pc L S) (X : Stand p l e R s m args below meth c T locs cells slots) (hx : p.tables.exec = Jvm.exec) (hd : decode c.code pc = .ok (.iconst i, 1)) (hv : Int32.ofInt i = v) : Go p e below m W T (pc + 1) L (.int v :: S) := fun t kt => k t (Jvm.Free.XT.iconstV X.here hx rfl v hd hv kt)
theorem Go.bipush {i : Int} {v : Int32} (k : Go p e below m W T pc L S) (X : Stand p l e R s m args below meth c T locs cells slots) (hx : p.tables.exec = Jvm.exec) (hd : decode c.code pc = .ok (.bipush i, 2)) (hv : (Int8.ofInt i).toInt32 = v) : Go p e below m W T (pc + 2) L (.int v :: S) := fun t kt => k t (Jvm.Free.XT.bipushV X.here hx rfl v hd hv kt)
theorem Go.sipush {i : Int} {v : Int32} (k : Go p e below m W T pc L S) (X : Stand p l e R s m args below meth c T locs cells slots) (hx : p.tables.exec = Jvm.exec) (hd : decode c.code pc = .ok (.sipush i, 3)) (hv : (Int16.ofInt i).toInt32 = v) : Go p e below m W T (pc + 3) L (.int v :: S) := fun t kt => k t (Jvm.Free.XT.sipushV X.here hx rfl v hd hv kt)
theorem Go.lconst {i : Fin 2} {v : Int64} (k : Go p e below m W T pc L S) (X : Stand p l e R s m args below meth c T locs cells slots) (hx : p.tables.exec = Jvm.exec) (hd : decode c.code pc = .ok (.lconst i, 1)) (hv : Int64.ofNat i = v) : Go p e below m W T (pc + 1) L (.long v :: S) := fun t kt => k t (Jvm.Free.XT.lconstV X.here hx rfl v hd hv kt)
theorem Go.aconstNull  (k : Go p e below m W T pc L S) (X : Stand p l e R s m args below meth c T locs cells slots) (hx : p.tables.exec = Jvm.exec) (hd : decode c.code pc = .ok (.aconst_null, 1)) : Go p e below m W T (pc + 1) L (.null :: S) := fun t kt => k t (Jvm.Free.XS.aconstNull X.here hx rfl hd kt)
theorem Go.istoreN {n : Fin 4} {x : Int32} {L' : Array Slot} (k : Go p e below m W T pc L (.int x :: S)) (X : Stand p l e R s m args below meth c T locs cells slots) (hx : p.tables.exec = Jvm.exec) (hd : decode c.code pc = .ok (.istore_n n, 1)) (hl : storeLocals L n.val (.int x) = some L') : Go p e below m W T (pc + 1) L' S := fun t kt => k t (Jvm.Free.XS.istoreN X.here hx rfl hd rfl hl kt)
theorem Go.istore {n : Nat} {x : Int32} {L' : Array Slot} (k : Go p e below m W T pc L (.int x :: S)) (X : Stand p l e R s m args below meth c T locs cells slots) (hx : p.tables.exec = Jvm.exec) (hd : decode c.code pc = .ok (.istore n, 2)) (hl : storeLocals L n (.int x) = some L') : Go p e below m W T (pc + 2) L' S := fun t kt => k t (Jvm.Free.XS.istore X.here hx rfl hd rfl hl kt)
theorem Go.lstoreN {n : Fin 4} {x : Int64} {L' : Array Slot} (k : Go p e below m W T pc L (.long x :: S)) (X : Stand p l e R s m args below meth c T locs cells slots) (hx : p.tables.exec = Jvm.exec) (hd : decode c.code pc = .ok (.lstore_n n, 1)) (hl : storeLocals L n.val (.long x) = some L') : Go p e below m W T (pc + 1) L' S := fun t kt => k t (Jvm.Free.XT.lstoreN X.here hx rfl hd rfl hl kt)
theorem Go.lstore {n : Nat} {x : Int64} {L' : Array Slot} (k : Go p e below m W T pc L (.long x :: S)) (X : Stand p l e R s m args below meth c T locs cells slots) (hx : p.tables.exec = Jvm.exec) (hd : decode c.code pc = .ok (.lstore n, 2)) (hl : storeLocals L n (.long x) = some L') : Go p e below m W T (pc + 2) L' S := fun t kt => k t (Jvm.Free.XT.lstore X.here hx rfl hd rfl hl kt)
theorem Go.astoreN {n : Fin 4} {x : Value} {L' : Array Slot} (k : Go p e below m W T pc L (x :: S)) (X : Stand p l e R s m args below meth c T locs cells slots) (hx : p.tables.exec = Jvm.exec) (hd : decode c.code pc = .ok (.astore_n n, 1)) (hv : x.isRef = true) (hl : storeLocals L n.val x = some L') : Go p e below m W T (pc + 1) L' S := fun t kt => k t (Jvm.Free.XS.astoreN X.here hx rfl hd rfl hv hl kt)
theorem Go.astore {n : Nat} {x : Value} {L' : Array Slot} (k : Go p e below m W T pc L (x :: S)) (X : Stand p l e R s m args below meth c T locs cells slots) (hx : p.tables.exec = Jvm.exec) (hd : decode c.code pc = .ok (.astore n, 2)) (hv : x.isRef = true) (hl : storeLocals L n x = some L') : Go p e below m W T (pc + 2) L' S := fun t kt => k t (Jvm.Free.XS.astore X.here hx rfl hd rfl hv hl kt)
theorem Go.iinc {n : Nat} {i : Int} {x v : Int32} {L' : Array Slot} (k : Go p e below m W T pc L S) (X : Stand p l e R s m args below meth c T locs cells slots) (hx : p.tables.exec = Jvm.exec) (hd : decode c.code pc = .ok (.iinc n i, 3)) (hv : Int32.ofInt i = v) (hl : L[n]? = some (.val (.int x))) (hl' : storeLocals L n (.int (x + v)) = some L') : Go p e below m W T (pc + 3) L' S := fun t kt => k t (Jvm.Free.XT.iincV X.here hx rfl v hd hv hl hl' kt)
theorem Go.iadd {x y : Int32} (k : Go p e below m W T pc L (.int y :: .int x :: S)) (X : Stand p l e R s m args below meth c T locs cells slots) (hx : p.tables.exec = Jvm.exec) (hd : decode c.code pc = .ok (.iadd, 1)) : Go p e below m W T (pc + 1) L (.int (x + y) :: S) := fun t kt => k t (Jvm.Free.XS.iadd X.here hx rfl hd rfl kt)
theorem Go.isub {x y : Int32} (k : Go p e below m W T pc L (.int y :: .int x :: S)) (X : Stand p l e R s m args below meth c T locs cells slots) (hx : p.tables.exec = Jvm.exec) (hd : decode c.code pc = .ok (.isub, 1)) : Go p e below m W T (pc + 1) L (.int (x - y) :: S) := fun t kt => k t (Jvm.Free.XS.isub X.here hx rfl hd rfl kt)
theorem Go.iand {x y : Int32} (k : Go p e below m W T pc L (.int y :: .int x :: S)) (X : Stand p l e R s m args below meth c T locs cells slots) (hx : p.tables.exec = Jvm.exec) (hd : decode c.code pc = .ok (.iand, 1)) : Go p e below m W T (pc + 1) L (.int (x &&& y) :: S) := fun t kt => k t (Jvm.Free.XS.iand X.here hx rfl hd rfl kt)
theorem Go.imul {x y : Int32} (k : Go p e below m W T pc L (.int y :: .int x :: S)) (X : Stand p l e R s m args below meth c T locs cells slots) (hx : p.tables.exec = Jvm.exec) (hd : decode c.code pc = .ok (.imul, 1)) : Go p e below m W T (pc + 1) L (.int (x * y) :: S) := fun t kt => k t (Jvm.Free.XS.imul X.here hx rfl hd rfl kt)
theorem Go.ixor {x y : Int32} (k : Go p e below m W T pc L (.int y :: .int x :: S)) (X : Stand p l e R s m args below meth c T locs cells slots) (hx : p.tables.exec = Jvm.exec) (hd : decode c.code pc = .ok (.ixor, 1)) : Go p e below m W T (pc + 1) L (.int (x ^^^ y) :: S) := fun t kt => k t (Jvm.Free.XT.ixor X.here hx rfl hd rfl kt)
theorem Go.ior {x y : Int32} (k : Go p e below m W T pc L (.int y :: .int x :: S)) (X : Stand p l e R s m args below meth c T locs cells slots) (hx : p.tables.exec = Jvm.exec) (hd : decode c.code pc = .ok (.ior, 1)) : Go p e below m W T (pc + 1) L (.int (x ||| y) :: S) := fun t kt => k t (Jvm.Free.XT.ior X.here hx rfl hd rfl kt)
theorem Go.ishl {x y : Int32} (k : Go p e below m W T pc L (.int y :: .int x :: S)) (X : Stand p l e R s m args below meth c T locs cells slots) (hx : p.tables.exec = Jvm.exec) (hd : decode c.code pc = .ok (.ishl, 1)) : Go p e below m W T (pc + 1) L (.int (x <<< (y &&& 31)) :: S) := fun t kt => k t (Jvm.Free.XT.ishl X.here hx rfl hd rfl kt)
theorem Go.ishr {x y : Int32} (k : Go p e below m W T pc L (.int y :: .int x :: S)) (X : Stand p l e R s m args below meth c T locs cells slots) (hx : p.tables.exec = Jvm.exec) (hd : decode c.code pc = .ok (.ishr, 1)) : Go p e below m W T (pc + 1) L (.int (x >>> (y &&& 31)) :: S) := fun t kt => k t (Jvm.Free.XT.ishr X.here hx rfl hd rfl kt)
theorem Go.iushr {x y : Int32} (k : Go p e below m W T pc L (.int y :: .int x :: S)) (X : Stand p l e R s m args below meth c T locs cells slots) (hx : p.tables.exec = Jvm.exec) (hd : decode c.code pc = .ok (.iushr, 1)) : Go p e below m W T (pc + 1) L (.int (XT.ushr x y) :: S) := fun t kt => k t (Jvm.Free.XT.iushr X.here hx rfl hd rfl kt)
theorem Go.idiv {x y : Int32} (k : Go p e below m W T pc L (.int y :: .int x :: S)) (X : Stand p l e R s m args below meth c T locs cells slots) (hx : p.tables.exec = Jvm.exec) (hd : decode c.code pc = .ok (.idiv, 1)) (hy : y ≠ 0) : Go p e below m W T (pc + 1) L (.int (x / y) :: S) := fun t kt => k t (Jvm.Free.XS.idiv X.here hx rfl hd rfl hy kt)
theorem Go.irem {x y : Int32} (k : Go p e below m W T pc L (.int y :: .int x :: S)) (X : Stand p l e R s m args below meth c T locs cells slots) (hx : p.tables.exec = Jvm.exec) (hd : decode c.code pc = .ok (.irem, 1)) (hy : y ≠ 0) : Go p e below m W T (pc + 1) L (.int (x % y) :: S) := fun t kt => k t (Jvm.RoadKit.iremM X hx rfl hd rfl hy kt)
theorem Go.ineg {x : Int32} (k : Go p e below m W T pc L (.int x :: S)) (X : Stand p l e R s m args below meth c T locs cells slots) (hx : p.tables.exec = Jvm.exec) (hd : decode c.code pc = .ok (.ineg, 1)) : Go p e below m W T (pc + 1) L (.int (-x) :: S) := fun t kt => k t (Jvm.Free.XS.ineg X.here hx rfl hd rfl kt)
theorem Go.ladd {x y : Int64} (k : Go p e below m W T pc L (.long y :: .long x :: S)) (X : Stand p l e R s m args below meth c T locs cells slots) (hx : p.tables.exec = Jvm.exec) (hd : decode c.code pc = .ok (.ladd, 1)) : Go p e below m W T (pc + 1) L (.long (x + y) :: S) := fun t kt => k t (Jvm.Free.XT.ladd X.here hx rfl hd rfl kt)
theorem Go.lsub {x y : Int64} (k : Go p e below m W T pc L (.long y :: .long x :: S)) (X : Stand p l e R s m args below meth c T locs cells slots) (hx : p.tables.exec = Jvm.exec) (hd : decode c.code pc = .ok (.lsub, 1)) : Go p e below m W T (pc + 1) L (.long (x - y) :: S) := fun t kt => k t (Jvm.Free.XT.lsub X.here hx rfl hd rfl kt)
theorem Go.lmul {x y : Int64} (k : Go p e below m W T pc L (.long y :: .long x :: S)) (X : Stand p l e R s m args below meth c T locs cells slots) (hx : p.tables.exec = Jvm.exec) (hd : decode c.code pc = .ok (.lmul, 1)) : Go p e below m W T (pc + 1) L (.long (x * y) :: S) := fun t kt => k t (Jvm.Free.XT.lmul X.here hx rfl hd rfl kt)
theorem Go.land {x y : Int64} (k : Go p e below m W T pc L (.long y :: .long x :: S)) (X : Stand p l e R s m args below meth c T locs cells slots) (hx : p.tables.exec = Jvm.exec) (hd : decode c.code pc = .ok (.land, 1)) : Go p e below m W T (pc + 1) L (.long (x &&& y) :: S) := fun t kt => k t (Jvm.Free.XT.land X.here hx rfl hd rfl kt)
theorem Go.lor {x y : Int64} (k : Go p e below m W T pc L (.long y :: .long x :: S)) (X : Stand p l e R s m args below meth c T locs cells slots) (hx : p.tables.exec = Jvm.exec) (hd : decode c.code pc = .ok (.lor, 1)) : Go p e below m W T (pc + 1) L (.long (x ||| y) :: S) := fun t kt => k t (Jvm.Free.XT.lor X.here hx rfl hd rfl kt)
theorem Go.lxor {x y : Int64} (k : Go p e below m W T pc L (.long y :: .long x :: S)) (X : Stand p l e R s m args below meth c T locs cells slots) (hx : p.tables.exec = Jvm.exec) (hd : decode c.code pc = .ok (.lxor, 1)) : Go p e below m W T (pc + 1) L (.long (x ^^^ y) :: S) := fun t kt => k t (Jvm.Free.XT.lxor X.here hx rfl hd rfl kt)
theorem Go.lshl {x : Int64} {y : Int32} (k : Go p e below m W T pc L (.int y :: .long x :: S)) (X : Stand p l e R s m args below meth c T locs cells slots) (hx : p.tables.exec = Jvm.exec) (hd : decode c.code pc = .ok (.lshl, 1)) : Go p e below m W T (pc + 1) L (.long (x <<< (y.toInt64 &&& 63)) :: S) := fun t kt => k t (Jvm.Free.XT.lshl X.here hx rfl hd rfl kt)
theorem Go.lshr {x : Int64} {y : Int32} (k : Go p e below m W T pc L (.int y :: .long x :: S)) (X : Stand p l e R s m args below meth c T locs cells slots) (hx : p.tables.exec = Jvm.exec) (hd : decode c.code pc = .ok (.lshr, 1)) : Go p e below m W T (pc + 1) L (.long (x >>> (y.toInt64 &&& 63)) :: S) := fun t kt => k t (Jvm.Free.XT.lshr X.here hx rfl hd rfl kt)
theorem Go.lushr {x : Int64} {y : Int32} (k : Go p e below m W T pc L (.int y :: .long x :: S)) (X : Stand p l e R s m args below meth c T locs cells slots) (hx : p.tables.exec = Jvm.exec) (hd : decode c.code pc = .ok (.lushr, 1)) : Go p e below m W T (pc + 1) L (.long (XT.ushrL x y) :: S) := fun t kt => k t (Jvm.Free.XT.lushr X.here hx rfl hd rfl kt)
theorem Go.i2l {x : Int32} (k : Go p e below m W T pc L (.int x :: S)) (X : Stand p l e R s m args below meth c T locs cells slots) (hx : p.tables.exec = Jvm.exec) (hd : decode c.code pc = .ok (.i2l, 1)) : Go p e below m W T (pc + 1) L (.long x.toInt64 :: S) := fun t kt => k t (Jvm.Free.XT.i2l X.here hx rfl hd rfl kt)
theorem Go.l2i {x : Int64} (k : Go p e below m W T pc L (.long x :: S)) (X : Stand p l e R s m args below meth c T locs cells slots) (hx : p.tables.exec = Jvm.exec) (hd : decode c.code pc = .ok (.l2i, 1)) : Go p e below m W T (pc + 1) L (.int x.toInt32 :: S) := fun t kt => k t (Jvm.Free.XT.l2i X.here hx rfl hd rfl kt)
theorem Go.i2b {x : Int32} (k : Go p e below m W T pc L (.int x :: S)) (X : Stand p l e R s m args below meth c T locs cells slots) (hx : p.tables.exec = Jvm.exec) (hd : decode c.code pc = .ok (.i2b, 1)) : Go p e below m W T (pc + 1) L (.int x.toInt8.toInt32 :: S) := fun t kt => k t (Jvm.Free.XT.i2b X.here hx rfl hd rfl kt)
theorem Go.i2c {x : Int32} (k : Go p e below m W T pc L (.int x :: S)) (X : Stand p l e R s m args below meth c T locs cells slots) (hx : p.tables.exec = Jvm.exec) (hd : decode c.code pc = .ok (.i2c, 1)) : Go p e below m W T (pc + 1) L (.int x.toUInt32.toUInt16.toUInt32.toInt32 :: S) := fun t kt => k t (Jvm.Free.XT.i2c X.here hx rfl hd rfl kt)
theorem Go.lcmp {x y : Int64} (k : Go p e below m W T pc L (.long y :: .long x :: S)) (X : Stand p l e R s m args below meth c T locs cells slots) (hx : p.tables.exec = Jvm.exec) (hd : decode c.code pc = .ok (.lcmp, 1)) : Go p e below m W T (pc + 1) L (.int (XT.cmpL x y) :: S) := fun t kt => k t (Jvm.Free.XT.lcmp X.here hx rfl hd rfl kt)
theorem Go.dup {x : Value} (k : Go p e below m W T pc L (x :: S)) (X : Stand p l e R s m args below meth c T locs cells slots) (hx : p.tables.exec = Jvm.exec) (hd : decode c.code pc = .ok (.dup, 1)) (h1 : x.category = 1) : Go p e below m W T (pc + 1) L (x :: x :: S) := fun t kt => k t (Jvm.Free.XS.dup X.here hx rfl hd rfl h1 kt)
theorem Go.pop {x : Value} (k : Go p e below m W T pc L (x :: S)) (X : Stand p l e R s m args below meth c T locs cells slots) (hx : p.tables.exec = Jvm.exec) (hd : decode c.code pc = .ok (.pop, 1)) (h1 : x.category = 1) : Go p e below m W T (pc + 1) L S := fun t kt => k t (Jvm.Free.XT.pop X.here hx rfl hd rfl h1 kt)
theorem Go.dupX1 {x y : Value} (k : Go p e below m W T pc L (x :: y :: S)) (X : Stand p l e R s m args below meth c T locs cells slots) (hx : p.tables.exec = Jvm.exec) (hd : decode c.code pc = .ok (.dup_x1, 1)) (h1 : x.category = 1) (h2 : y.category = 1) : Go p e below m W T (pc + 1) L (x :: y :: x :: S) := fun t kt => k t (Jvm.Free.XT.dupX1 X.here hx rfl hd rfl h1 h2 kt)
theorem Go.dup2 {x y : Value} (k : Go p e below m W T pc L (x :: y :: S)) (X : Stand p l e R s m args below meth c T locs cells slots) (hx : p.tables.exec = Jvm.exec) (hd : decode c.code pc = .ok (.dup2, 1)) (h1 : x.category = 1) (h2 : y.category = 1) : Go p e below m W T (pc + 1) L (x :: y :: x :: y :: S) := fun t kt => k t (Jvm.Free.XT.dup2 X.here hx rfl hd rfl h1 h2 kt)
theorem Go.goto {o : Int} {pc' : Nat} (k : Go p e below m W T pc L S) (X : Stand p l e R s m args below meth c T locs cells slots) (hx : p.tables.exec = Jvm.exec) (hd : decode c.code pc = .ok (.goto o, 3)) (ho : 0 ≤ (pc : Int) + o) (hp : ((pc : Int) + o).toNat = pc') : Go p e below m W T pc' L S := fun t kt => k t (Jvm.Free.XS.goto X.here hx rfl rfl hd ho hp kt)
theorem Go.ifYes {cd : ClassFile.Cond} {o : Int} {pc' : Nat} {x : Int32} (k : Go p e below m W T pc L (.int x :: S)) (X : Stand p l e R s m args below meth c T locs cells slots) (hx : p.tables.exec = Jvm.exec) (hd : decode c.code pc = .ok (.ifCond cd o, 3)) (hc : ifCond.holds cd x = true) (ho : 0 ≤ (pc : Int) + o) (hp : ((pc : Int) + o).toNat = pc') : Go p e below m W T pc' L S := fun t kt => k t (Jvm.Free.XS.ifYes X.here hx rfl rfl hd rfl hc ho hp kt)
theorem Go.ifNo {cd : ClassFile.Cond} {o : Int} {x : Int32} (k : Go p e below m W T pc L (.int x :: S)) (X : Stand p l e R s m args below meth c T locs cells slots) (hx : p.tables.exec = Jvm.exec) (hd : decode c.code pc = .ok (.ifCond cd o, 3)) (hc : ifCond.holds cd x = false) : Go p e below m W T (pc + 3) L S := fun t kt => k t (Jvm.Free.XS.ifNo X.here hx rfl hd rfl hc kt)
theorem Go.icmpYes {cd : ClassFile.Cond} {o : Int} {pc' : Nat} {x y : Int32} (k : Go p e below m W T pc L (.int y :: .int x :: S)) (X : Stand p l e R s m args below meth c T locs cells slots) (hx : p.tables.exec = Jvm.exec) (hd : decode c.code pc = .ok (.if_icmp cd o, 3)) (hc : if_icmp.holds cd x y = true) (ho : 0 ≤ (pc : Int) + o) (hp : ((pc : Int) + o).toNat = pc') : Go p e below m W T pc' L S := fun t kt => k t (Jvm.Free.XS.icmpYes X.here hx rfl rfl hd rfl hc ho hp kt)
theorem Go.icmpNo {cd : ClassFile.Cond} {o : Int} {x y : Int32} (k : Go p e below m W T pc L (.int y :: .int x :: S)) (X : Stand p l e R s m args below meth c T locs cells slots) (hx : p.tables.exec = Jvm.exec) (hd : decode c.code pc = .ok (.if_icmp cd o, 3)) (hc : if_icmp.holds cd x y = false) : Go p e below m W T (pc + 3) L S := fun t kt => k t (Jvm.Free.XS.icmpNo X.here hx rfl hd rfl hc kt)
theorem Go.nullYes {o : Int} {pc' : Nat} {v : Value} (k : Go p e below m W T pc L (v :: S)) (X : Stand p l e R s m args below meth c T locs cells slots) (hx : p.tables.exec = Jvm.exec) (hd : decode c.code pc = .ok (.ifnull o, 3)) (hv : v = .null) (ho : 0 ≤ (pc : Int) + o) (hp : ((pc : Int) + o).toNat = pc') : Go p e below m W T pc' L S := fun t kt => k t (Jvm.Free.XT.nullYes X.here hx rfl rfl hd rfl hv ho hp kt)
theorem Go.nullNo {o : Int} {v : Value} (k : Go p e below m W T pc L (v :: S)) (X : Stand p l e R s m args below meth c T locs cells slots) (hx : p.tables.exec = Jvm.exec) (hd : decode c.code pc = .ok (.ifnull o, 3)) (hr : v.isRef = true) (hv : ¬ v = .null) : Go p e below m W T (pc + 3) L S := fun t kt => k t (Jvm.Free.XT.nullNo X.here hx rfl hd rfl hr hv kt)
theorem Go.nonnullYes {o : Int} {pc' : Nat} {v : Value} (k : Go p e below m W T pc L (v :: S)) (X : Stand p l e R s m args below meth c T locs cells slots) (hx : p.tables.exec = Jvm.exec) (hd : decode c.code pc = .ok (.ifnonnull o, 3)) (hr : v.isRef = true) (hv : ¬ v = .null) (ho : 0 ≤ (pc : Int) + o) (hp : ((pc : Int) + o).toNat = pc') : Go p e below m W T pc' L S := fun t kt => k t (Jvm.Free.XT.nonnullYes X.here hx rfl rfl hd rfl hr hv ho hp kt)
theorem Go.nonnullNo {o : Int} {v : Value} (k : Go p e below m W T pc L (v :: S)) (X : Stand p l e R s m args below meth c T locs cells slots) (hx : p.tables.exec = Jvm.exec) (hd : decode c.code pc = .ok (.ifnonnull o, 3)) (hv : v = .null) : Go p e below m W T (pc + 3) L S := fun t kt => k t (Jvm.Free.XT.nonnullNo X.here hx rfl hd rfl hv kt)
theorem Go.acmpYes {cd : ClassFile.ACond} {o : Int} {pc' : Nat} {x y : Value} (k : Go p e below m W T pc L (y :: x :: S)) (X : Stand p l e R s m args below meth c T locs cells slots) (hx : p.tables.exec = Jvm.exec) (hd : decode c.code pc = .ok (.if_acmp cd o, 3)) (h1 : x.isRef = true) (h2 : y.isRef = true) (hc : XT.acmp cd x y = true) (ho : 0 ≤ (pc : Int) + o) (hp : ((pc : Int) + o).toNat = pc') : Go p e below m W T pc' L S := fun t kt => k t (Jvm.Free.XT.acmpYes X.here hx rfl rfl hd rfl h1 h2 hc ho hp kt)
theorem Go.acmpNo {cd : ClassFile.ACond} {o : Int} {x y : Value} (k : Go p e below m W T pc L (y :: x :: S)) (X : Stand p l e R s m args below meth c T locs cells slots) (hx : p.tables.exec = Jvm.exec) (hd : decode c.code pc = .ok (.if_acmp cd o, 3)) (h1 : x.isRef = true) (h2 : y.isRef = true) (hc : XT.acmp cd x y = false) : Go p e below m W T (pc + 3) L S := fun t kt => k t (Jvm.Free.XT.acmpNo X.here hx rfl hd rfl h1 h2 hc kt)
theorem Go.tsw {dflt low high : Int} {offs : Array Int} {len : Nat} {o : Int} {pc' : Nat} {i : Int32} (k : Go p e below m W T pc L (.int i :: S)) (X : Stand p l e R s m args below meth c T locs cells slots) (hx : p.tables.exec = Jvm.exec) (hd : decode c.code pc = .ok (.tableswitch dflt low high offs, len)) (hin : ¬ (i.toInt < low ∨ i.toInt > high)) (hoff : offs[(i.toInt - low).toNat]? = some o) (ho : 0 ≤ (pc : Int) + o) (hp : ((pc : Int) + o).toNat = pc') : Go p e below m W T pc' L S := fun t kt => k t (Jvm.Free.XS.tswIn X.here hx rfl rfl hd rfl hin hoff ho hp kt)
theorem Go.ldcI {own : String} {index : Nat} {v : Int32} (k : Go p e below m W T pc L S) (X : Stand p l e R s m args below meth c T locs cells slots) (hx : p.tables.exec = Jvm.exec) (hZ : Z.Warmed39 s.vm) (hown : s.vm.findClass own = some m.cls) (w : (Cond.constant own index v).before a0 Z = true) (hd : decode c.code pc = .ok (.ldc index, 2)) : Go p e below m W T (pc + 2) L (.int v :: S) := fun t kt => k t (Jvm.Stand.ldcI X hx hown (mvT hZ w) rfl hd kt)
theorem Go.ldc2J {own : String} {index : Nat} {v : Int64} (k : Go p e below m W T pc L S) (X : Stand p l e R s m args below meth c T locs cells slots) (hx : p.tables.exec = Jvm.exec) (hZ : Z.Warmed39 s.vm) (hown : s.vm.findClass own = some m.cls) (w : (Cond.constantLong own index v).before a0 Z = true) (hd : decode c.code pc = .ok (.ldc2_w index, 3)) : Go p e below m W T (pc + 3) L (.long v :: S) := fun t kt => k t (Jvm.Stand.ldc2J X hx hown (mvT hZ w) rfl hd kt)
theorem Go.getF {own R0 O n d host : String} {index : Nat} {a : Addr} {v : Value} (k : Go p e below m W T pc L (.ref a :: S)) (X : Stand p l e R s m args below meth c T locs cells slots) (hx : p.tables.exec = Jvm.exec) (hZ : Z.Warmed39 s.vm) (hown : s.vm.findClass own = some m.cls) (w : (Cond.fieldLink own index R0 n d).before a0 Z = true ∨ (Cond.fieldLinkNest own index R0 n d host).before a0 Z = true) (via : Via Z R0 O n d) (eT : T.heap = h) (F : Fld Z h a O n d v) (hd : decode c.code pc = .ok (.getfield index, 3)) :
    ∃ T', Stand p l e R s m args below meth c T' locs cells slots ∧ T'.heap = h ∧ Go p e below m W T' (pc + 3) L (v :: S) := by
  obtain ⟨T', X', e', st⟩ := Jvm.RoadKit.getF X hx hZ hown w via eT F (g := mkF m pc L (.ref a :: S)) rfl rfl hd
  exact ⟨T', X', e', fun t kt => k t (st t kt)⟩
theorem Go.getS {own R0 O n d host : String} {index : Nat} {v : Value} (k : Go p e below m W T pc L S) (X : Stand p l e R s m args below meth c T locs cells slots) (hx : p.tables.exec = Jvm.exec) (hZ : Z.Warmed39 s.vm) (hown : s.vm.findClass own = some m.cls) (w : (Cond.fieldLink own index R0 n d).before a0 Z = true ∨ (Cond.fieldLinkNest own index R0 n d host).before a0 Z = true) (via : Via Z R0 O n d) (eT : T.heap = h) (F : Sta Z h O n d v) (hd : decode c.code pc = .ok (.getstatic index, 3)) :
    ∃ T', Stand p l e R s m args below meth c T' locs cells slots ∧ T'.heap = h ∧ Go p e below m W T' (pc + 3) L (v :: S) := by
  obtain ⟨T', X', e', st⟩ := Jvm.RoadKit.getS2 X hx hZ hown w via eT F (g := mkF m pc L S) rfl hd
  exact ⟨T', X', e', fun t kt => k t (st t kt)⟩
theorem Go.putF {own R0 O n d host C : String} {index kk : Nat} {ty : FieldType} {a : Addr} {v old : Value} (k : Go p e below m W T pc L (v :: .ref a :: S)) (X : Stand p l e R s m args below meth c T locs cells slots) (hx : p.tables.exec = Jvm.exec) (hZ : Z.Warmed39 s.vm) (hown : s.vm.findClass own = some m.cls) (w : (Cond.fieldLink own index R0 n d).before a0 Z = true ∨ (Cond.fieldLinkNest own index R0 n d host).before a0 Z = true) (via : Via Z R0 O n d) (eT : T.heap = h) (F : Fld Z h a O n d old) (E : Exa Z h a C)
    (Ly : (Cond.lays C O n d).before a0 Z = true ∨ ((Cond.laysFinal C O n d).before a0 Z = true ∧ own = O ∧ meth.name = "<init>")) (wi : (Cond.instantiable C kk).before a0 Z = true) (hty : parseFieldDescriptor d = some ty) (hn : narrow ty v = v) (hf : fits ty v = true) {n0 : Nat} (N : Fr n0 locs) (g0 : n0 ≤ a) (hd : decode c.code pc = .ok (.putfield index, 3)) :
    ∃ T' h' locs', Stand p l e R s m args below meth c T' locs' cells slots ∧ T'.heap = h' ∧ Wr h h' a (Jvm.RoadKit.slotOf Z O n d) v ∧ Fr n0 locs' ∧ Go p e below m W T' (pc + 3) L S := by
  obtain ⟨T', h', X', e', W', st⟩ := Jvm.RoadKit.putF X hx hZ hown w via eT F E Ly wi hty hn hf (g := mkF m pc L (v :: .ref a :: S)) rfl rfl hd
  exact ⟨T', h', _, X', e', W', Fr.snoc X' N g0, fun t kt => k t (st t kt)⟩
theorem Go.newO {own C : String} {index n cells' slots' : Nat} (k : Go p e below m W T pc L S) (X : Stand p l e R s m args below meth c T locs cells slots) (hx : p.tables.exec = Jvm.exec) (hZ : Z.Warmed39 s.vm) (hown : s.vm.findClass own = some m.cls) (w : (Cond.classLink own index C).before a0 Z = true) (wi : (Cond.instantiable C n).before a0 Z = true) (wz : (Cond.initialized C).before a0 Z = true) (eT : T.heap = h) (hd : decode c.code pc = .ok (.new index, 3)) (h1 : cells + 1 = cells') (h2 : slots + n = slots') (h3 : cells' ≤ R.cells) (h4 : slots' ≤ R.slots) :
    ∃ T' h' b, Stand p l e R s m args below meth c T' locs cells' slots' ∧ T'.heap = h' ∧ b = h.size ∧ Ext h h' ∧ Exa Z h' b C ∧ (∀ {O nm d : String} {ty : FieldType}, Laid Z a0 C O nm d → parseFieldDescriptor d = some ty → Fld Z h' b O nm d (defaultValue ty)) ∧ Go p e below m W T' (pc + 3) L (.ref b :: S) := by
  subst h1 h2
  obtain ⟨T', h', X', e', E', A', D', -, st⟩ := Jvm.RoadKit.newO X hx hZ hown w wi wz eT (g := mkF m pc L S) rfl hd h3 h4
  exact ⟨T', h', _, X', e', rfl, E', A', D', fun t kt => k t (st t kt)⟩
theorem Go.initO {own : String} {idx Wd : Nat} {a : Addr} (k : Go p e below m W T pc L (.ref a :: S)) (X : Stand p l e R s m args below meth c T locs cells slots) (hx : p.tables.exec = Jvm.exec) (hZ : Z.Warmed39 s.vm) (hown : s.vm.findClass own = some m.cls) (hsz : L.size = c.maxLocals) (w1 : (Cond.methodLink own idx Lib.objectInit).before a0 Z = true) (w2 : (Cond.instanceMethod Lib.objectInit).before a0 Z = true)
    (w3 : (Cond.code Lib.objectInit ⟨#[0xb1]⟩ 1 none).before a0 Z = true) (eT : T.heap = h) (hd : decode c.code pc = .ok (.invokespecial idx, 3)) (hW : (S.map fun v => v.category).sum ≤ Wd) (hf : 1 ≤ R.frames) (hl : Wd + 12 ≤ R.locals) :
    ∃ T', Stand p l e R s m args below meth c T' locs cells slots ∧ T'.heap = h ∧ Go p e below m W T' (pc + 3) L S := by
  obtain ⟨T', X', e', st⟩ := Jvm.RoadKit.initO X hx hZ hown w1 w2 w3 eT (g := mkF m pc L (.ref a :: S)) rfl hsz rfl hd hf (W := Wd) (by show 2 * 0 + _ ≤ _; rw [Nat.mul_zero, Nat.zero_add]; exact hW) hl
  exact ⟨T', X', e', fun t kt => k t (st t kt)⟩
theorem Go.virtB {own C : String} {index : Nat} {y z : MethodName} {Wd cells' slots' : Nat} {b : Addr} {argsL rest : List Value} {Q : Option Value → Heap → List Loc → Prop} {as' : Array Value} {ps : List FieldType} {r : Option FieldType} {rc rs : Nat}
    (k : Go p e below m W T pc L S) (X : Stand p l e R s m args below meth c T locs cells slots) (hx : p.tables.exec = Jvm.exec) (hZ : Z.Warmed39 s.vm) (hown : s.vm.findClass own = some m.cls) (hsz : L.size = c.maxLocals)
    (w1 : (Cond.methodLink own index y).before a0 Z = true) (w2 : (Cond.declares y).before a0 Z = true) (hnf : NotFace s y) (w3 : (Cond.selects C y z).before a0 Z = true) (w4 : (Cond.instanceMethod z).before a0 Z = true) (hd : decode c.code pc = .ok (.invokevirtual index, 3)) (hy : y.cls ≠ "java/lang/invoke/MethodHandle" ∧ y.cls ≠ "java/lang/invoke/VarHandle")
    (hK : Back l R p e below s args z 3 Wd (fun A a => a = as' ∧ A.U.heap = h ∧ A.cells + rc ≤ R.cells ∧ A.slots + rs ≤ R.slots) (fun A _ v B => ∃ L, Q v B.U.heap L ∧ B.locs = A.locs ++ L ∧ B.cells = A.cells + rc ∧ B.slots = A.slots + rs))
    (eT : T.heap = h) (E : Exa Z h b C) (hs : S = argsL.reverse ++ .ref b :: rest) (ha : (.ref b :: argsL).toArray = as') (hp : parseMethodDescriptor y.desc = some ⟨ps, r⟩) (hlen : argsL.length = ps.length) (hW : (rest.map fun v => v.category).sum ≤ Wd) (h1 : cells + rc = cells') (h2 : slots + rs = slots') (h3 : cells' ≤ R.cells) (h4 : slots' ≤ R.slots) :
    ∃ T' v L', Stand p l e R s m args below meth c T' (locs ++ L') cells' slots' ∧ Q v T'.heap L' ∧ Go p e below m W T' (pc + 3) L (v.toList ++ rest) := by
  subst hs h1 h2
  obtain ⟨cq, kq, qa, qb, qc⟩ := isOf hZ eT E
  obtain ⟨v, _, ⟨T', L', k', n'⟩, -, X', ⟨Lc, hQ, l1, y1, z1⟩, st⟩ := X.virtualBack hx (y := y) (z := z) hown (mvT hZ w1) (mvT hZ w2) hnf (mvT hZ w3) (mvT hZ w4) hy hK qa qc (g := mkF m pc L (argsL.reverse ++ .ref b :: rest)) rfl hsz (Steps.refl _) (argsL := argsL) (rest := rest) (lenOf hp hlen) rfl (by show 2 * 0 + _ ≤ _; rw [Nat.mul_zero, Nat.zero_add]; exact hW) hd (fun _ _ => ⟨ha, eT, h3, h4⟩)
  dsimp only [Pt.U, Pt.locs, Pt.cells, Pt.slots] at X' l1 y1 z1 st hQ
  subst l1 y1 z1
  exact ⟨T', v, Lc, X', hQ, fun t kt => k t (st.trans kt)⟩
theorem Go.virt {own C : String} {index : Nat} {y z : MethodName} {Wd cells' slots' : Nat} {b : Addr} {argsL rest : List Value} {Q : Option Value → Heap → List Loc → Prop} {as' : Array Value} {ps : List FieldType} {r : Option FieldType} {bytes : ByteArray} {maxL : Nat} {ret : Option FieldType} {rm : Room}
    (k : Go p e below m W T pc L S) (X : Stand p l e R s m args below meth c T locs cells slots) (hx : p.tables.exec = Jvm.exec) (hZ : Z.Warmed39 s.vm) (hown : s.vm.findClass own = some m.cls) (hsz : L.size = c.maxLocals)
    (w1 : (Cond.methodLink own index y).before a0 Z = true) (w2 : (Cond.declares y).before a0 Z = true) (hnf : NotFace s y) (w3 : (Cond.selects C y z).before a0 Z = true) (w4 : (Cond.instanceMethod z).before a0 Z = true) (wc : (Cond.code z bytes maxL ret).before a0 Z = true) (wz : (Cond.initialized z.cls).before a0 Z = true) (hd : decode c.code pc = .ok (.invokevirtual index, 3)) (hy : y.cls ≠ "java/lang/invoke/MethodHandle" ∧ y.cls ≠ "java/lang/invoke/VarHandle")
    (hM : MetFree l z (head1 [Cond.code z bytes maxL ret] rm) (fun a U => a = as' ∧ Z.Warmed39 U.vm ∧ U.heap = h) (fun _ _ _ _ _ => True) (fun _ U o U' => ∃ v L, o = .returned v ∧ Q v U'.heap L ∧ FrameEnd U o U' L rm.cells rm.slots))
    (eT : T.heap = h) (E : Exa Z h b C) (hs : S = argsL.reverse ++ .ref b :: rest) (ha : (.ref b :: argsL).toArray = as') (hp : parseMethodDescriptor y.desc = some ⟨ps, r⟩) (hlen : argsL.length = ps.length) (hW : (rest.map fun v => v.category).sum ≤ Wd) (hf : rm.frames + 1 ≤ R.frames) (hl : Wd + (maxL + 11) + rm.locals ≤ R.locals) (h1 : cells + rm.cells = cells') (h2 : slots + rm.slots = slots') (h3 : cells' ≤ R.cells) (h4 : slots' ≤ R.slots) :
    ∃ T' v L', Stand p l e R s m args below meth c T' (locs ++ L') cells' slots' ∧ Q v T'.heap L' ∧ Go p e below m W T' (pc + 3) L (v.toList ++ rest) :=
  Go.virtB (Wd := Wd) k X hx hZ hown hsz w1 w2 hnf w3 w4 hd hy (backOf (W := Wd) hM hZ wc wz hf hl) eT E hs ha hp hlen hW h1 h2 h3 h4
theorem Go.virtUpB {own C owner : String} {index : Nat} {y z : MethodName} {Wd cells' slots' : Nat} {b : Addr} {argsL rest : List Value} {Q : Option Value → Heap → List Loc → Prop} {as' : Array Value} {ps : List FieldType} {r : Option FieldType} {rc rs : Nat}
    (k : Go p e below m W T pc L S) (X : Stand p l e R s m args below meth c T locs cells slots) (hx : p.tables.exec = Jvm.exec) (hZ : Z.Warmed39 s.vm) (hown : s.vm.findClass own = some m.cls) (hsz : L.size = c.maxLocals)
    (w1 : (Cond.methodLink own index y).before a0 Z = true) (w2 : (Cond.sameMethod y.cls owner y.name y.desc).before a0 Z = true) (w5 : (Cond.declares ⟨owner, y.name, y.desc⟩).before a0 Z = true) (w3 : (Cond.selects C y z).before a0 Z = true) (w4 : (Cond.instanceMethod z).before a0 Z = true) (hd : decode c.code pc = .ok (.invokevirtual index, 3)) (hy : owner ≠ "java/lang/invoke/MethodHandle" ∧ owner ≠ "java/lang/invoke/VarHandle")
    (hK : Back l R p e below s args z 3 Wd (fun A a => a = as' ∧ A.U.heap = h ∧ A.cells + rc ≤ R.cells ∧ A.slots + rs ≤ R.slots) (fun A _ v B => ∃ L, Q v B.U.heap L ∧ B.locs = A.locs ++ L ∧ B.cells = A.cells + rc ∧ B.slots = A.slots + rs))
    (eT : T.heap = h) (E : Exa Z h b C) (hs : S = argsL.reverse ++ .ref b :: rest) (ha : (.ref b :: argsL).toArray = as') (hp : parseMethodDescriptor y.desc = some ⟨ps, r⟩) (hlen : argsL.length = ps.length) (hW : (rest.map fun v => v.category).sum ≤ Wd) (h1 : cells + rc = cells') (h2 : slots + rs = slots') (h3 : cells' ≤ R.cells) (h4 : slots' ≤ R.slots) :
    ∃ T' v L', Stand p l e R s m args below meth c T' (locs ++ L') cells' slots' ∧ Q v T'.heap L' ∧ Go p e below m W T' (pc + 3) L (v.toList ++ rest) := by
  subst hs h1 h2
  obtain ⟨cq, kq, qa, qb, qc⟩ := isOf hZ eT E
  obtain ⟨v, _, ⟨T', L', k', n'⟩, -, X', ⟨Lc, hQ, l1, y1, z1⟩, st⟩ := X.virtualBackUp hx (x := y) (y := z) (owner := owner) hown (mvT hZ w1) (mvT hZ w2) (mvT hZ w5) hy (mvT hZ w3) (mvT hZ w4) hK qa qc (g := mkF m pc L (argsL.reverse ++ .ref b :: rest)) rfl hsz (Steps.refl _) (argsL := argsL) (rest := rest) (lenOf hp hlen) rfl (by show 2 * 0 + _ ≤ _; rw [Nat.mul_zero, Nat.zero_add]; exact hW) hd (fun _ _ => ⟨ha, eT, h3, h4⟩)
  dsimp only [Pt.U, Pt.locs, Pt.cells, Pt.slots] at X' l1 y1 z1 st hQ
  subst l1 y1 z1
  exact ⟨T', v, Lc, X', hQ, fun t kt => k t (st.trans kt)⟩
theorem Go.virtUp {own C owner : String} {index : Nat} {y z : MethodName} {Wd cells' slots' : Nat} {b : Addr} {argsL rest : List Value} {Q : Option Value → Heap → List Loc → Prop} {as' : Array Value} {ps : List FieldType} {r : Option FieldType} {bytes : ByteArray} {maxL : Nat} {ret : Option FieldType} {rm : Room}
    (k : Go p e below m W T pc L S) (X : Stand p l e R s m args below meth c T locs cells slots) (hx : p.tables.exec = Jvm.exec) (hZ : Z.Warmed39 s.vm) (hown : s.vm.findClass own = some m.cls) (hsz : L.size = c.maxLocals)
    (w1 : (Cond.methodLink own index y).before a0 Z = true) (w2 : (Cond.sameMethod y.cls owner y.name y.desc).before a0 Z = true) (w5 : (Cond.declares ⟨owner, y.name, y.desc⟩).before a0 Z = true) (w3 : (Cond.selects C y z).before a0 Z = true) (w4 : (Cond.instanceMethod z).before a0 Z = true) (wc : (Cond.code z bytes maxL ret).before a0 Z = true) (wz : (Cond.initialized z.cls).before a0 Z = true) (hd : decode c.code pc = .ok (.invokevirtual index, 3)) (hy : owner ≠ "java/lang/invoke/MethodHandle" ∧ owner ≠ "java/lang/invoke/VarHandle")
    (hM : MetFree l z (head1 [Cond.code z bytes maxL ret] rm) (fun a U => a = as' ∧ Z.Warmed39 U.vm ∧ U.heap = h) (fun _ _ _ _ _ => True) (fun _ U o U' => ∃ v L, o = .returned v ∧ Q v U'.heap L ∧ FrameEnd U o U' L rm.cells rm.slots))
    (eT : T.heap = h) (E : Exa Z h b C) (hs : S = argsL.reverse ++ .ref b :: rest) (ha : (.ref b :: argsL).toArray = as') (hp : parseMethodDescriptor y.desc = some ⟨ps, r⟩) (hlen : argsL.length = ps.length) (hW : (rest.map fun v => v.category).sum ≤ Wd) (hf : rm.frames + 1 ≤ R.frames) (hl : Wd + (maxL + 11) + rm.locals ≤ R.locals) (h1 : cells + rm.cells = cells') (h2 : slots + rm.slots = slots') (h3 : cells' ≤ R.cells) (h4 : slots' ≤ R.slots) :
    ∃ T' v L', Stand p l e R s m args below meth c T' (locs ++ L') cells' slots' ∧ Q v T'.heap L' ∧ Go p e below m W T' (pc + 3) L (v.toList ++ rest) :=
  Go.virtUpB (Wd := Wd) (owner := owner) k X hx hZ hown hsz w1 w2 w5 w3 w4 hd hy (backOf (W := Wd) hM hZ wc wz hf hl) eT E hs ha hp hlen hW h1 h2 h3 h4
theorem Go.ifaceB {own C : String} {index count : Nat} {y z : MethodName} {Wd cells' slots' : Nat} {b : Addr} {argsL rest : List Value} {Q : Option Value → Heap → List Loc → Prop} {as' : Array Value} {ps : List FieldType} {r : Option FieldType} {rc rs : Nat}
    (k : Go p e below m W T pc L S) (X : Stand p l e R s m args below meth c T locs cells slots) (hx : p.tables.exec = Jvm.exec) (hZ : Z.Warmed39 s.vm) (hown : s.vm.findClass own = some m.cls) (hsz : L.size = c.maxLocals)
    (w1 : (Cond.methodLink own index y).before a0 Z = true) (w2 : (Cond.declares y).before a0 Z = true) (w5 : (Cond.interfaceMethod y.cls y.cls y.name y.desc).before args s = true) (w3 : (Cond.selects C y z).before a0 Z = true) (w4 : (Cond.instanceMethod z).before a0 Z = true) (w6 : (Cond.publicMethod z).before a0 Z = true) (w7 : (Cond.unhidden C y.name y.desc).before a0 Z = true) (w8 : (Cond.castable C y.cls).before a0 Z = true) (hd : decode c.code pc = .ok (.invokeinterface index count, 5)) (hy : y.cls ≠ "java/lang/invoke/MethodHandle" ∧ y.cls ≠ "java/lang/invoke/VarHandle")
    (hK : Back l R p e below s args z 5 Wd (fun A a => a = as' ∧ A.U.heap = h ∧ A.cells + rc ≤ R.cells ∧ A.slots + rs ≤ R.slots) (fun A _ v B => ∃ L, Q v B.U.heap L ∧ B.locs = A.locs ++ L ∧ B.cells = A.cells + rc ∧ B.slots = A.slots + rs))
    (eT : T.heap = h) (E : Exa Z h b C) (hs : S = argsL.reverse ++ .ref b :: rest) (ha : (.ref b :: argsL).toArray = as') (hp : parseMethodDescriptor y.desc = some ⟨ps, r⟩) (hlen : argsL.length = ps.length) (hW : (rest.map fun v => v.category).sum ≤ Wd) (h1 : cells + rc = cells') (h2 : slots + rs = slots') (h3 : cells' ≤ R.cells) (h4 : slots' ≤ R.slots) :
    ∃ T' v L', Stand p l e R s m args below meth c T' (locs ++ L') cells' slots' ∧ Q v T'.heap L' ∧ Go p e below m W T' (pc + 5) L (v.toList ++ rest) := by
  subst hs h1 h2
  obtain ⟨cq, kq, qa, qb, qc⟩ := isOf hZ eT E
  obtain ⟨v, _, ⟨T', L', k', n'⟩, -, X', ⟨Lc, hQ, l1, y1, z1⟩, st⟩ := X.interfaceBack hx (xi := y) (y := z) (count := count) hown (mvT hZ w1) (mvT hZ w2) w5 (mvT hZ w3) (mvT hZ w4) (mvT hZ w6) (mvT hZ w7) (mvT hZ w8) hy hK qa qb qc (g := mkF m pc L (argsL.reverse ++ .ref b :: rest)) rfl hsz (Steps.refl _) (argsL := argsL) (rest := rest) (lenOf hp hlen) rfl (by show 2 * 0 + _ ≤ _; rw [Nat.mul_zero, Nat.zero_add]; exact hW) hd (fun _ _ => ⟨ha, eT, h3, h4⟩)
  dsimp only [Pt.U, Pt.locs, Pt.cells, Pt.slots] at X' l1 y1 z1 st hQ
  subst l1 y1 z1
  exact ⟨T', v, Lc, X', hQ, fun t kt => k t (st.trans kt)⟩
theorem Go.iface {own C : String} {index count : Nat} {y z : MethodName} {Wd cells' slots' : Nat} {b : Addr} {argsL rest : List Value} {Q : Option Value → Heap → List Loc → Prop} {as' : Array Value} {ps : List FieldType} {r : Option FieldType} {bytes : ByteArray} {maxL : Nat} {ret : Option FieldType} {rm : Room}
    (k : Go p e below m W T pc L S) (X : Stand p l e R s m args below meth c T locs cells slots) (hx : p.tables.exec = Jvm.exec) (hZ : Z.Warmed39 s.vm) (hown : s.vm.findClass own = some m.cls) (hsz : L.size = c.maxLocals)
    (w1 : (Cond.methodLink own index y).before a0 Z = true) (w2 : (Cond.declares y).before a0 Z = true) (w5 : (Cond.interfaceMethod y.cls y.cls y.name y.desc).before args s = true) (w3 : (Cond.selects C y z).before a0 Z = true) (w4 : (Cond.instanceMethod z).before a0 Z = true) (w6 : (Cond.publicMethod z).before a0 Z = true) (w7 : (Cond.unhidden C y.name y.desc).before a0 Z = true) (w8 : (Cond.castable C y.cls).before a0 Z = true) (wc : (Cond.code z bytes maxL ret).before a0 Z = true) (wz : (Cond.initialized z.cls).before a0 Z = true) (hd : decode c.code pc = .ok (.invokeinterface index count, 5)) (hy : y.cls ≠ "java/lang/invoke/MethodHandle" ∧ y.cls ≠ "java/lang/invoke/VarHandle")
    (hM : MetFree l z (head1 [Cond.code z bytes maxL ret] rm) (fun a U => a = as' ∧ Z.Warmed39 U.vm ∧ U.heap = h) (fun _ _ _ _ _ => True) (fun _ U o U' => ∃ v L, o = .returned v ∧ Q v U'.heap L ∧ FrameEnd U o U' L rm.cells rm.slots))
    (eT : T.heap = h) (E : Exa Z h b C) (hs : S = argsL.reverse ++ .ref b :: rest) (ha : (.ref b :: argsL).toArray = as') (hp : parseMethodDescriptor y.desc = some ⟨ps, r⟩) (hlen : argsL.length = ps.length) (hW : (rest.map fun v => v.category).sum ≤ Wd) (hf : rm.frames + 1 ≤ R.frames) (hl : Wd + (maxL + 11) + rm.locals ≤ R.locals) (h1 : cells + rm.cells = cells') (h2 : slots + rm.slots = slots') (h3 : cells' ≤ R.cells) (h4 : slots' ≤ R.slots) :
    ∃ T' v L', Stand p l e R s m args below meth c T' (locs ++ L') cells' slots' ∧ Q v T'.heap L' ∧ Go p e below m W T' (pc + 5) L (v.toList ++ rest) :=
  Go.ifaceB (Wd := Wd) k X hx hZ hown hsz w1 w2 w5 w3 w4 w6 w7 w8 hd hy (backOf (W := Wd) hM hZ wc wz hf hl) eT E hs ha hp hlen hW h1 h2 h3 h4
theorem Go.specB {own : String} {index : Nat} {y : MethodName} {bytes : ByteArray} {maxL : Nat} {Wd cells' slots' : Nat} {b : Addr} {argsL rest : List Value} {Q : Option Value → Heap → List Loc → Prop} {as' : Array Value} {ps : List FieldType} {r : Option FieldType} {rc rs : Nat}
    (k : Go p e below m W T pc L S) (X : Stand p l e R s m args below meth c T locs cells slots) (hx : p.tables.exec = Jvm.exec) (hZ : Z.Warmed39 s.vm) (hown : s.vm.findClass own = some m.cls) (hsz : L.size = c.maxLocals)
    (hy1 : y.name = "<init>") (w1 : (Cond.methodLink own index y).before a0 Z = true) (w2 : (Cond.instanceMethod y).before a0 Z = true) (wc : (Cond.code y bytes maxL none).before a0 Z = true) (hd : decode c.code pc = .ok (.invokespecial index, 3)) (hy : y.cls ≠ "java/lang/invoke/MethodHandle" ∧ y.cls ≠ "java/lang/invoke/VarHandle")
    (hK : Back l R p e below s args y 3 Wd (fun A a => a = as' ∧ A.U.heap = h ∧ A.cells + rc ≤ R.cells ∧ A.slots + rs ≤ R.slots) (fun A _ v B => ∃ L, Q v B.U.heap L ∧ B.locs = A.locs ++ L ∧ B.cells = A.cells + rc ∧ B.slots = A.slots + rs))
    (eT : T.heap = h) (hs : S = argsL.reverse ++ .ref b :: rest) (ha : (.ref b :: argsL).toArray = as') (hp : parseMethodDescriptor y.desc = some ⟨ps, r⟩) (hlen : argsL.length = ps.length) (hW : (rest.map fun v => v.category).sum ≤ Wd) (h1 : cells + rc = cells') (h2 : slots + rs = slots') (h3 : cells' ≤ R.cells) (h4 : slots' ≤ R.slots) :
    ∃ T' v L', Stand p l e R s m args below meth c T' (locs ++ L') cells' slots' ∧ Q v T'.heap L' ∧ Go p e below m W T' (pc + 3) L (v.toList ++ rest) := by
  subst hs h1 h2
  obtain ⟨v, _, ⟨T', L', k', n'⟩, -, X', ⟨Lc, hQ, l1, y1, z1⟩, st⟩ := X.specialBack hx (y := y) hy1 hown (mvT hZ w1) (mvT hZ w2) (mvT hZ wc) hy hK (g := mkF m pc L (argsL.reverse ++ .ref b :: rest)) rfl hsz (Steps.refl _) (a := b) (argsL := argsL) (rest := rest) (lenOf hp hlen) rfl (by show 2 * 0 + _ ≤ _; rw [Nat.mul_zero, Nat.zero_add]; exact hW) hd (fun _ _ => ⟨ha, eT, h3, h4⟩)
  dsimp only [Pt.U, Pt.locs, Pt.cells, Pt.slots] at X' l1 y1 z1 st hQ
  subst l1 y1 z1
  exact ⟨T', v, Lc, X', hQ, fun t kt => k t (st.trans kt)⟩
theorem Go.spec {own : String} {index : Nat} {y : MethodName} {bytes : ByteArray} {maxL : Nat} {Wd cells' slots' : Nat} {b : Addr} {argsL rest : List Value} {Q : Option Value → Heap → List Loc → Prop} {as' : Array Value} {ps : List FieldType} {r : Option FieldType} {rm : Room}
    (k : Go p e below m W T pc L S) (X : Stand p l e R s m args below meth c T locs cells slots) (hx : p.tables.exec = Jvm.exec) (hZ : Z.Warmed39 s.vm) (hown : s.vm.findClass own = some m.cls) (hsz : L.size = c.maxLocals)
    (hy1 : y.name = "<init>") (w1 : (Cond.methodLink own index y).before a0 Z = true) (w2 : (Cond.instanceMethod y).before a0 Z = true)  (wc : (Cond.code y bytes maxL none).before a0 Z = true) (wz : (Cond.initialized y.cls).before a0 Z = true) (hd : decode c.code pc = .ok (.invokespecial index, 3)) (hy : y.cls ≠ "java/lang/invoke/MethodHandle" ∧ y.cls ≠ "java/lang/invoke/VarHandle")
    (hM : MetFree l y (head1 [Cond.code y bytes maxL none] rm) (fun a U => a = as' ∧ Z.Warmed39 U.vm ∧ U.heap = h) (fun _ _ _ _ _ => True) (fun _ U o U' => ∃ v L, o = .returned v ∧ Q v U'.heap L ∧ FrameEnd U o U' L rm.cells rm.slots))
    (eT : T.heap = h) (hs : S = argsL.reverse ++ .ref b :: rest) (ha : (.ref b :: argsL).toArray = as') (hp : parseMethodDescriptor y.desc = some ⟨ps, r⟩) (hlen : argsL.length = ps.length) (hW : (rest.map fun v => v.category).sum ≤ Wd) (hf : rm.frames + 1 ≤ R.frames) (hl : Wd + (maxL + 11) + rm.locals ≤ R.locals) (h1 : cells + rm.cells = cells') (h2 : slots + rm.slots = slots') (h3 : cells' ≤ R.cells) (h4 : slots' ≤ R.slots) :
    ∃ T' v L', Stand p l e R s m args below meth c T' (locs ++ L') cells' slots' ∧ Q v T'.heap L' ∧ Go p e below m W T' (pc + 3) L (v.toList ++ rest) :=
  Go.specB (Wd := Wd) k X hx hZ hown hsz hy1 w1 w2 wc hd hy (backOf (W := Wd) hM hZ wc wz hf hl) eT hs ha hp hlen hW h1 h2 h3 h4
theorem Go.statB {own : String} {index : Nat} {y : MethodName} {bytes : ByteArray} {maxL : Nat} {ret : Option FieldType} {Wd cells' slots' : Nat} {argsL rest : List Value} {Q : Option Value → Heap → List Loc → Prop} {as' : Array Value} {ps : List FieldType} {r : Option FieldType} {rc rs : Nat}
    (k : Go p e below m W T pc L S) (X : Stand p l e R s m args below meth c T locs cells slots) (hx : p.tables.exec = Jvm.exec) (hZ : Z.Warmed39 s.vm) (hown : s.vm.findClass own = some m.cls) (hsz : L.size = c.maxLocals)
    (w1 : (Cond.methodLink own index y).before a0 Z = true) (w2 : (Cond.static y).before a0 Z = true) (wc : (Cond.code y bytes maxL ret).before a0 Z = true) (wz : (Cond.initialized y.cls).before a0 Z = true) (hd : decode c.code pc = .ok (.invokestatic index, 3)) (hy : y.cls ≠ "java/lang/invoke/MethodHandle" ∧ y.cls ≠ "java/lang/invoke/VarHandle")
    (hK : Back l R p e below s args y 3 Wd (fun A a => a = as' ∧ A.U.heap = h ∧ A.cells + rc ≤ R.cells ∧ A.slots + rs ≤ R.slots) (fun A _ v B => ∃ L, Q v B.U.heap L ∧ B.locs = A.locs ++ L ∧ B.cells = A.cells + rc ∧ B.slots = A.slots + rs))
    (eT : T.heap = h) (hs : S = argsL.reverse ++ rest) (ha : argsL.toArray = as') (hp : parseMethodDescriptor y.desc = some ⟨ps, r⟩) (hlen : argsL.length = ps.length) (hW : (rest.map fun v => v.category).sum ≤ Wd) (h1 : cells + rc = cells') (h2 : slots + rs = slots') (h3 : cells' ≤ R.cells) (h4 : slots' ≤ R.slots) :
    ∃ T' v L', Stand p l e R s m args below meth c T' (locs ++ L') cells' slots' ∧ Q v T'.heap L' ∧ Go p e below m W T' (pc + 3) L (v.toList ++ rest) := by
  subst hs h1 h2
  obtain ⟨v, _, ⟨T', L', k', n'⟩, -, X', ⟨Lc, hQ, l1, y1, z1⟩, st⟩ := Jvm.LawKit.callS X hx (y := y) hown (mvT hZ w1) (mvT hZ w2) (mvT hZ wz) (mvT hZ wc) hy hK (g := mkF m pc L (argsL.reverse ++ rest)) rfl hsz (argsL := argsL) (rest := rest) (lenOf hp hlen) rfl (by show 2 * 0 + _ ≤ _; rw [Nat.mul_zero, Nat.zero_add]; exact hW) hd (fun _ _ => ⟨ha, eT, h3, h4⟩)
  dsimp only [Pt.U, Pt.locs, Pt.cells, Pt.slots] at X' l1 y1 z1 st hQ
  subst l1 y1 z1
  exact ⟨T', v, Lc, X', hQ, fun t kt => k t (st t kt)⟩
theorem Go.stat {own : String} {index : Nat} {y : MethodName} {bytes : ByteArray} {maxL : Nat} {ret : Option FieldType} {Wd cells' slots' : Nat} {argsL rest : List Value} {Q : Option Value → Heap → List Loc → Prop} {as' : Array Value} {ps : List FieldType} {r : Option FieldType} {rm : Room}
    (k : Go p e below m W T pc L S) (X : Stand p l e R s m args below meth c T locs cells slots) (hx : p.tables.exec = Jvm.exec) (hZ : Z.Warmed39 s.vm) (hown : s.vm.findClass own = some m.cls) (hsz : L.size = c.maxLocals)
    (w1 : (Cond.methodLink own index y).before a0 Z = true) (w2 : (Cond.static y).before a0 Z = true)  (wc : (Cond.code y bytes maxL ret).before a0 Z = true) (wz : (Cond.initialized y.cls).before a0 Z = true) (hd : decode c.code pc = .ok (.invokestatic index, 3)) (hy : y.cls ≠ "java/lang/invoke/MethodHandle" ∧ y.cls ≠ "java/lang/invoke/VarHandle")
    (hM : MetFree l y (head1 [Cond.code y bytes maxL ret] rm) (fun a U => a = as' ∧ Z.Warmed39 U.vm ∧ U.heap = h) (fun _ _ _ _ _ => True) (fun _ U o U' => ∃ v L, o = .returned v ∧ Q v U'.heap L ∧ FrameEnd U o U' L rm.cells rm.slots))
    (eT : T.heap = h) (hs : S = argsL.reverse ++ rest) (ha : argsL.toArray = as') (hp : parseMethodDescriptor y.desc = some ⟨ps, r⟩) (hlen : argsL.length = ps.length) (hW : (rest.map fun v => v.category).sum ≤ Wd) (hf : rm.frames + 1 ≤ R.frames) (hl : Wd + (maxL + 11) + rm.locals ≤ R.locals) (h1 : cells + rm.cells = cells') (h2 : slots + rm.slots = slots') (h3 : cells' ≤ R.cells) (h4 : slots' ≤ R.slots) :
    ∃ T' v L', Stand p l e R s m args below meth c T' (locs ++ L') cells' slots' ∧ Q v T'.heap L' ∧ Go p e below m W T' (pc + 3) L (v.toList ++ rest) :=
  Go.statB (Wd := Wd) k X hx hZ hown hsz w1 w2 wc wz hd hy (backOf (W := Wd) hM hZ wc wz hf hl) eT hs ha hp hlen hW h1 h2 h3 h4
theorem Go.privB {own C : String} {index : Nat} {y : MethodName} {bytes : ByteArray} {maxL : Nat} {ret : Option FieldType} {Wd cells' slots' : Nat} {b : Addr} {argsL rest : List Value} {Q : Option Value → Heap → List Loc → Prop} {as' : Array Value} {ps : List FieldType} {r : Option FieldType} {rc rs : Nat}
    (k : Go p e below m W T pc L S) (X : Stand p l e R s m args below meth c T locs cells slots) (hx : p.tables.exec = Jvm.exec) (hZ : Z.Warmed39 s.vm) (hown : s.vm.findClass own = some m.cls) (hsz : L.size = c.maxLocals)
    (w1 : (Cond.methodLink own index y).before a0 Z = true) (w2 : (Cond.instanceMethod y).before a0 Z = true) (w3 : (Cond.selects y.cls y y).before a0 Z = true) (w4 : (Cond.privateMethod y).before a0 Z = true) (wc : (Cond.code y bytes maxL ret).before a0 Z = true)
    (hd : decode c.code pc = .ok (.invokevirtual index, 3)) (hy : y.cls ≠ "java/lang/invoke/MethodHandle" ∧ y.cls ≠ "java/lang/invoke/VarHandle")
    (hK : Back l R p e below s args y 3 Wd (fun A a => a = as' ∧ A.U.heap = h ∧ A.cells + rc ≤ R.cells ∧ A.slots + rs ≤ R.slots) (fun A _ v B => ∃ L, Q v B.U.heap L ∧ B.locs = A.locs ++ L ∧ B.cells = A.cells + rc ∧ B.slots = A.slots + rs))
    (eT : T.heap = h) (E : Exa Z h b C) (hs : S = argsL.reverse ++ .ref b :: rest) (ha : (.ref b :: argsL).toArray = as') (hp : parseMethodDescriptor y.desc = some ⟨ps, r⟩) (hlen : argsL.length = ps.length) (hW : (rest.map fun v => v.category).sum ≤ Wd) (h1 : cells + rc = cells') (h2 : slots + rs = slots') (h3 : cells' ≤ R.cells) (h4 : slots' ≤ R.slots) :
    ∃ T' v L', Stand p l e R s m args below meth c T' (locs ++ L') cells' slots' ∧ Q v T'.heap L' ∧ Go p e below m W T' (pc + 3) L (v.toList ++ rest) := by
  subst hs h1 h2
  obtain ⟨cq, q1, q2⟩ := E.cell
  obtain ⟨v, _, ⟨T', L', k', n'⟩, -, X', ⟨Lc, hQ, l1, y1, z1⟩, st⟩ := X.privateBack hx (y := y) hown (mvT hZ w1) (mvT hZ w2) (mvT hZ w3) (Cond.privateMethod_at (mvP hZ w4 (args := #[]))) (mvT hZ wc) hy hK (g := mkF m pc L (argsL.reverse ++ .ref b :: rest)) rfl hsz (Steps.refl _) (a := b) (by rw [eT]; exact q1) q2 (argsL := argsL) (rest := rest) (lenOf hp hlen) rfl (by show 2 * 0 + _ ≤ _; rw [Nat.mul_zero, Nat.zero_add]; exact hW) hd (fun _ _ => ⟨ha, eT, h3, h4⟩)
  dsimp only [Pt.U, Pt.locs, Pt.cells, Pt.slots] at X' l1 y1 z1 st hQ
  subst l1 y1 z1
  exact ⟨T', v, Lc, X', hQ, fun t kt => k t (st.trans kt)⟩
theorem Go.priv {own C : String} {index : Nat} {y : MethodName} {bytes : ByteArray} {maxL : Nat} {ret : Option FieldType} {Wd cells' slots' : Nat} {b : Addr} {argsL rest : List Value} {Q : Option Value → Heap → List Loc → Prop} {as' : Array Value} {ps : List FieldType} {r : Option FieldType} {rm : Room}
    (k : Go p e below m W T pc L S) (X : Stand p l e R s m args below meth c T locs cells slots) (hx : p.tables.exec = Jvm.exec) (hZ : Z.Warmed39 s.vm) (hown : s.vm.findClass own = some m.cls) (hsz : L.size = c.maxLocals)
    (w1 : (Cond.methodLink own index y).before a0 Z = true) (w2 : (Cond.instanceMethod y).before a0 Z = true) (w3 : (Cond.selects y.cls y y).before a0 Z = true) (w4 : (Cond.privateMethod y).before a0 Z = true) (wc : (Cond.code y bytes maxL ret).before a0 Z = true) (wz : (Cond.initialized y.cls).before a0 Z = true)
    (hd : decode c.code pc = .ok (.invokevirtual index, 3)) (hy : y.cls ≠ "java/lang/invoke/MethodHandle" ∧ y.cls ≠ "java/lang/invoke/VarHandle")
    (hM : MetFree l y (head1 [Cond.code y bytes maxL ret] rm) (fun a U => a = as' ∧ Z.Warmed39 U.vm ∧ U.heap = h) (fun _ _ _ _ _ => True) (fun _ U o U' => ∃ v L, o = .returned v ∧ Q v U'.heap L ∧ FrameEnd U o U' L rm.cells rm.slots))
    (eT : T.heap = h) (E : Exa Z h b C) (hs : S = argsL.reverse ++ .ref b :: rest) (ha : (.ref b :: argsL).toArray = as') (hp : parseMethodDescriptor y.desc = some ⟨ps, r⟩) (hlen : argsL.length = ps.length) (hW : (rest.map fun v => v.category).sum ≤ Wd) (hf : rm.frames + 1 ≤ R.frames) (hl : Wd + (maxL + 11) + rm.locals ≤ R.locals) (h1 : cells + rm.cells = cells') (h2 : slots + rm.slots = slots') (h3 : cells' ≤ R.cells) (h4 : slots' ≤ R.slots) :
    ∃ T' v L', Stand p l e R s m args below meth c T' (locs ++ L') cells' slots' ∧ Q v T'.heap L' ∧ Go p e below m W T' (pc + 3) L (v.toList ++ rest) :=
  Go.privB (Wd := Wd) k X hx hZ hown hsz w1 w2 w3 w4 wc hd hy (backOf (W := Wd) hM hZ wc wz hf hl) eT E hs ha hp hlen hW h1 h2 h3 h4
theorem Go.castY {own K : String} {index : Nat} {a : Addr} (k : Go p e below m W T pc L (.ref a :: S)) (X : Stand p l e R s m args below meth c T locs cells slots) (hx : p.tables.exec = Jvm.exec) (hZ : Z.Warmed39 s.vm) (hown : s.vm.findClass own = some m.cls) (w : (Cond.classLink own index K).before a0 Z = true) (eT : T.heap = h) (F : Ins Z h a K true) (hd : decode c.code pc = .ok (.checkcast index, 3)) :
    ∃ T', Stand p l e R s m args below meth c T' locs cells slots ∧ T'.heap = h ∧ Go p e below m W T' (pc + 3) L (.ref a :: S) := by
  obtain ⟨T', X', e', st⟩ := Jvm.RoadKit.castY X hx hZ hown w eT F (g := mkF m pc L (.ref a :: S)) rfl rfl hd
  exact ⟨T', X', e', fun t kt => k t (st t kt)⟩
theorem Go.instY {own K : String} {index : Nat} {a : Addr} (k : Go p e below m W T pc L (.ref a :: S)) (X : Stand p l e R s m args below meth c T locs cells slots) (hx : p.tables.exec = Jvm.exec) (hZ : Z.Warmed39 s.vm) (hown : s.vm.findClass own = some m.cls) (w : (Cond.classLink own index K).before a0 Z = true) (eT : T.heap = h) (F : Ins Z h a K true) (hd : decode c.code pc = .ok (.instanceof index, 3)) :
    ∃ T', Stand p l e R s m args below meth c T' locs cells slots ∧ T'.heap = h ∧ Go p e below m W T' (pc + 3) L (.int 1 :: S) := by
  obtain ⟨T', X', e', st⟩ := Jvm.RoadKit.instY X hx hZ hown w eT F (g := mkF m pc L (.ref a :: S)) rfl rfl hd
  exact ⟨T', X', e', fun t kt => k t (st t kt)⟩
theorem Go.instNull {index : Nat} (k : Go p e below m W T pc L (.null :: S)) (X : Stand p l e R s m args below meth c T locs cells slots) (hx : p.tables.exec = Jvm.exec) (hd : decode c.code pc = .ok (.instanceof index, 3)) : Go p e below m W T (pc + 3) L (.int 0 :: S) := fun t kt => k t (X.instanceofNull hx (g := mkF m pc L (.null :: S)) rfl rfl hd t kt)
theorem Go.castNull {index : Nat} (k : Go p e below m W T pc L (.null :: S)) (X : Stand p l e R s m args below meth c T locs cells slots) (hx : p.tables.exec = Jvm.exec) (hd : decode c.code pc = .ok (.checkcast index, 3)) : Go p e below m W T (pc + 3) L (.null :: S) := fun t kt => k t (X.checkcastNull hx (g := mkF m pc L (.null :: S)) rfl rfl hd t kt)
theorem Go.cast {x y : Int32} (k : Go p e below m W T pc L (.int x :: S)) (q : x = y) : Go p e below m W T pc L (.int y :: S) := q ▸ k
theorem Go.castJ {x y : Int64} (k : Go p e below m W T pc L (.long x :: S)) (q : x = y) : Go p e below m W T pc L (.long y :: S) := q ▸ k
/-! the ways out of a body -/
abbrev Done (p : Program) (e : Env) (below : List Frame) (s W : State) (Q : Option Value → Heap → List Loc → Prop) (rc rs : Nat) : Prop :=
  ∃ s₂ o, Steps p.tables e below W s₂ ∧ s₂.status = .running ∧ Ended s₂ below o ∧ ∃ v L, o = .returned v ∧ Q v s₂.heap L ∧ FrameEnd s o s₂ L rc rs
theorem Go.ireturnN {t : FieldType} {x : Int32} {Q : Option Value → Heap → List Loc → Prop} {rc rs : Nat} (k : Go p e below m W T pc L (.int x :: S)) (X : Stand p l e R s m args below meth c T locs cells slots) (hx : p.tables.exec = Jvm.exec) (hret : meth.sig.returnType = some t) (ht : t = .boolean ∨ t = .byte ∨ t = .char ∨ t = .short) (hn : nar t x = x) (hd : decode c.code pc = .ok (.ireturn, 1)) (hlk : meth.locks = false) (hq : Q (some (.int x)) T.heap locs) (h1 : cells ≤ rc) (h2 : slots ≤ rs) : Done p e below s W Q rc rs := by
  obtain ⟨fs, hr, hrun, hended, hW, hsame⟩ := X.leave (v := some (.int x)) (fun q => by rw [hret] at q; cases q) hlk
  refine ⟨_, _, k _ (retN X hx hret ht hd (by rw [hn]; exact hr)), hrun, hended, _, _, rfl, hq, ⟨_, rfl⟩, hW, hsame.mono h1 h2⟩
theorem Go.ireturnI {x : Int32} {Q : Option Value → Heap → List Loc → Prop} {rc rs : Nat} (k : Go p e below m W T pc L (.int x :: S)) (X : Stand p l e R s m args below meth c T locs cells slots) (hx : p.tables.exec = Jvm.exec) (hret : meth.sig.returnType = some .int) (hd : decode c.code pc = .ok (.ireturn, 1)) (hlk : meth.locks = false) (hq : Q (some (.int x)) T.heap locs) (h1 : cells ≤ rc) (h2 : slots ≤ rs) : Done p e below s W Q rc rs := by
  obtain ⟨fs, hr, hrun, hended, hW, hsame⟩ := X.leave (v := some (.int x)) (fun q => by rw [hret] at q; cases q) hlk
  refine ⟨_, _, k _ (retI X hx hret hd hr), hrun, hended, _, _, rfl, hq, ⟨_, rfl⟩, hW, hsame.mono h1 h2⟩
theorem Go.return_ {Q : Option Value → Heap → List Loc → Prop} {rc rs : Nat} (k : Go p e below m W T pc L []) (X : Stand p l e R s m args below meth c T locs cells slots) (hx : p.tables.exec = Jvm.exec) (hret : meth.sig.returnType = none) (hd : decode c.code pc = .ok (.return_, 1)) (hlk : meth.locks = false) (hq : Q none T.heap locs) (h1 : cells ≤ rc) (h2 : slots ≤ rs) : Done p e below s W Q rc rs := by
  obtain ⟨fs, hr, hrun, hended, hW, hsame⟩ := X.leave (v := none) (fun _ => rfl) hlk
  refine ⟨_, _, k _ (X.returnOut hx hret hd hr), hrun, hended, _, _, rfl, hq, ⟨_, rfl⟩, hW, hsame.mono h1 h2⟩
theorem Go.areturn {t : FieldType} {v : Value} {Q : Option Value → Heap → List Loc → Prop} {rc rs : Nat} (k : Go p e below m W T pc L (v :: S)) (X : Stand p l e R s m args below meth c T locs cells slots) (hx : p.tables.exec = Jvm.exec) (hret : meth.sig.returnType = some t) (ht : t.isReference = true) (hv : v.isRef = true) (hd : decode c.code pc = .ok (.areturn, 1)) (hlk : meth.locks = false) (hq : Q (some v) T.heap locs) (h1 : cells ≤ rc) (h2 : slots ≤ rs) : Done p e below s W Q rc rs := by
  obtain ⟨fs, hr, hrun, hended, hW, hsame⟩ := X.leave (v := some v) (fun q => by rw [hret] at q; cases q) hlk
  refine ⟨_, _, k _ ?_, hrun, hended, _, _, rfl, hq, ⟨_, rfl⟩, hW, hsame.mono h1 h2⟩
  jvm_step X.here [X.here.top, hx, hd, X.method', hret, hv, ht]
  first | (intro acts; rw [hr _ acts rfl rfl rfl]) | rw [hr _ _ rfl rfl rfl]
  exact Steps.refl _

theorem own_in {cl : Cell} {z j : Int32} {i n : Nat} (S1 : cl.slots.size = z.toNatClampNeg) (hz : z.toNatClampNeg = n) (hj : j.toNatClampNeg = i) (hj0 : ¬ j < 0) (hi : i < n) : ¬ (j < 0 ∨ cl.slots.size ≤ j.toNatClampNeg) := by
  intro q
  rcases q with q | q
  · exact hj0 q
  · rw [S1, hz, hj] at q; omega

theorem Go.iastore {a : Addr} {kc : ClassId} {z j : Int32} {vs : List Value} {d : Value} {i : Nat} {n0 : Nat} {x : Int32} (k : Go p e below m W T pc L (.int x :: .int j :: .ref a :: S)) (X : Stand p l e R s m args below meth c T locs cells slots) (hx : p.tables.exec = Jvm.exec) (hZ : Z.Warmed39 s.vm) (eT : T.heap = h) (Va : Arv Z h a kc .int z vs d) (hz : z.toNatClampNeg = vs.length) (hj : j.toNatClampNeg = i) (hj0 : ¬ j < 0) (hi : i < vs.length) (N : Fr n0 locs) (g0 : n0 ≤ a) (hd : decode c.code pc = .ok (.iastore, 1)) :
    ∃ T' h' locs', Stand p l e R s m args below meth c T' locs' cells slots ∧ T'.heap = h' ∧ Wr h h' a j.toNatClampNeg (.int x) ∧ Arv Z h' a kc .int z (vs.set i (.int x)) d ∧ Fr n0 locs' ∧ Go p e below m W T' (pc + 1) L S := by
  obtain ⟨cl, A, q1, S1, q3, H, G⟩ := Va
  have hin := own_in S1 hz hj hj0 hi
  obtain ⟨T', h', X', e', W', st⟩ := Jvm.RoadKit.stI X hx hZ eT A hin (g := mkF m pc L (.int x :: .int j :: .ref a :: S)) rfl rfl hd
  exact ⟨T', h', _, X', e', W', Arv.set A q1 S1 q3 H G rfl W' i hj hi, Fr.snoc X' N g0, fun t kt => k t (st t kt)⟩

theorem Go.lastore {a : Addr} {kc : ClassId} {z j : Int32} {vs : List Value} {d : Value} {i : Nat} {n0 : Nat} {x : Int64} (k : Go p e below m W T pc L (.long x :: .int j :: .ref a :: S)) (X : Stand p l e R s m args below meth c T locs cells slots) (hx : p.tables.exec = Jvm.exec) (hZ : Z.Warmed39 s.vm) (eT : T.heap = h) (Va : Arv Z h a kc .long z vs d) (hz : z.toNatClampNeg = vs.length) (hj : j.toNatClampNeg = i) (hj0 : ¬ j < 0) (hi : i < vs.length) (N : Fr n0 locs) (g0 : n0 ≤ a) (hd : decode c.code pc = .ok (.lastore, 1)) :
    ∃ T' h' locs', Stand p l e R s m args below meth c T' locs' cells slots ∧ T'.heap = h' ∧ Wr h h' a j.toNatClampNeg (.long x) ∧ Arv Z h' a kc .long z (vs.set i (.long x)) d ∧ Fr n0 locs' ∧ Go p e below m W T' (pc + 1) L S := by
  obtain ⟨cl, A, q1, S1, q3, H, G⟩ := Va
  have hin := own_in S1 hz hj hj0 hi
  obtain ⟨T', h', X', e', W', st⟩ := Jvm.RoadKit.stJ X hx hZ eT A hin (g := mkF m pc L (.long x :: .int j :: .ref a :: S)) rfl rfl hd
  exact ⟨T', h', _, X', e', W', Arv.set A q1 S1 q3 H G rfl W' i hj hi, Fr.snoc X' N g0, fun t kt => k t (st t kt)⟩

theorem Go.castore {a : Addr} {kc : ClassId} {z j : Int32} {vs : List Value} {d : Value} {i : Nat} {n0 : Nat} {x : Int32} (k : Go p e below m W T pc L (.int x :: .int j :: .ref a :: S)) (X : Stand p l e R s m args below meth c T locs cells slots) (hx : p.tables.exec = Jvm.exec) (hZ : Z.Warmed39 s.vm) (eT : T.heap = h) (Va : Arv Z h a kc .char z vs d) (hz : z.toNatClampNeg = vs.length) (hj : j.toNatClampNeg = i) (hj0 : ¬ j < 0) (hi : i < vs.length) (N : Fr n0 locs) (g0 : n0 ≤ a) (hd : decode c.code pc = .ok (.castore, 1)) :
    ∃ T' h' locs', Stand p l e R s m args below meth c T' locs' cells slots ∧ T'.heap = h' ∧ Wr h h' a j.toNatClampNeg (.int (nar .char x)) ∧ Arv Z h' a kc .char z (vs.set i (.int (nar .char x))) d ∧ Fr n0 locs' ∧ Go p e below m W T' (pc + 1) L S := by
  obtain ⟨cl, A, q1, S1, q3, H, G⟩ := Va
  have hin := own_in S1 hz hj hj0 hi
  obtain ⟨T', h', X', e', W', st⟩ := Jvm.RoadKit.stC X hx hZ eT A hin (g := mkF m pc L (.int x :: .int j :: .ref a :: S)) rfl rfl hd
  exact ⟨T', h', _, X', e', W', Arv.set A q1 S1 q3 H G (fits_nar_char x) W' i hj hi, Fr.snoc X' N g0, fun t kt => k t (st t kt)⟩

theorem Go.bastore {a : Addr} {kc : ClassId} {z j : Int32} {vs : List Value} {d : Value} {i : Nat} {n0 : Nat} {x : Int32} (k : Go p e below m W T pc L (.int x :: .int j :: .ref a :: S)) (X : Stand p l e R s m args below meth c T locs cells slots) (hx : p.tables.exec = Jvm.exec) (hZ : Z.Warmed39 s.vm) (eT : T.heap = h) (Va : Arv Z h a kc .byte z vs d) (hz : z.toNatClampNeg = vs.length) (hj : j.toNatClampNeg = i) (hj0 : ¬ j < 0) (hi : i < vs.length) (N : Fr n0 locs) (g0 : n0 ≤ a) (hd : decode c.code pc = .ok (.bastore, 1)) :
    ∃ T' h' locs', Stand p l e R s m args below meth c T' locs' cells slots ∧ T'.heap = h' ∧ Wr h h' a j.toNatClampNeg (.int (nar .byte x)) ∧ Arv Z h' a kc .byte z (vs.set i (.int (nar .byte x))) d ∧ Fr n0 locs' ∧ Go p e below m W T' (pc + 1) L S := by
  obtain ⟨cl, A, q1, S1, q3, H, G⟩ := Va
  have hin := own_in S1 hz hj hj0 hi
  obtain ⟨T', h', X', e', W', st⟩ := Jvm.RoadKit.stB X hx hZ eT A hin (g := mkF m pc L (.int x :: .int j :: .ref a :: S)) rfl rfl hd
  exact ⟨T', h', _, X', e', W', Arv.set A q1 S1 q3 H G (fits_nar_byte x) W' i hj hi, Fr.snoc X' N g0, fun t kt => k t (st t kt)⟩

theorem Go.aastore {a : Addr} {kc : ClassId} {C : String} {z j : Int32} {vs : List Value} {d v : Value} {i : Nat} {n0 : Nat} (k : Go p e below m W T pc L (v :: .int j :: .ref a :: S)) (X : Stand p l e R s m args below meth c T locs cells slots) (hx : p.tables.exec = Jvm.exec) (hZ : Z.Warmed39 s.vm) (eT : T.heap = h) (Va : Arv Z h a kc (.object C) z vs d) (O : Ovr Z kc C) (hv : v = .null ∨ ∃ y, v = .ref y ∧ Ins Z h y C true) (hz : z.toNatClampNeg = vs.length) (hj : j.toNatClampNeg = i) (hj0 : ¬ j < 0) (hi : i < vs.length) (N : Fr n0 locs) (g0 : n0 ≤ a) (hd : decode c.code pc = .ok (.aastore, 1)) :
    ∃ T' h' locs', Stand p l e R s m args below meth c T' locs' cells slots ∧ T'.heap = h' ∧ Wr h h' a j.toNatClampNeg v ∧ Arv Z h' a kc (.object C) z (vs.set i v) d ∧ Fr n0 locs' ∧ Go p e below m W T' (pc + 1) L S := by
  obtain ⟨cl, A, q1, S1, q3, H, G⟩ := Va
  have hin := own_in S1 hz hj hj0 hi
  have F : Sto Z h a v := by
    rcases hv with rfl | ⟨y, rfl, I⟩
    · exact Or.inl rfl
    · exact Sto.of A (q1 ▸ O) I
  have hf : fits (.object C) v = true := by rcases hv with rfl | ⟨y, rfl, I⟩ <;> rfl
  obtain ⟨T', h', X', e', W', st⟩ := Jvm.RoadKit.stR X hx hZ eT A hin rfl F (g := mkF m pc L (v :: .int j :: .ref a :: S)) rfl rfl hd
  exact ⟨T', h', _, X', e', W', Arv.set A q1 S1 q3 H G hf W' i hj hi, Fr.snoc X' N g0, fun t kt => k t (st t kt)⟩
theorem Go.newP {aty : ArrayType} {n : Int32} {cap cells' slots' : Nat} (k : Go p e below m W T pc L (.int n :: S)) (X : Stand p l e R s m args below meth c T locs cells slots) (hx : p.tables.exec = Jvm.exec) (hZ : Z.Warmed39 s.vm) (w : (Cond.arrayClass (newarray.typeOf aty)).before a0 Z = true) (eT : T.heap = h) (hd : decode c.code pc = .ok (.newarray aty, 2)) (hn : ¬ n < 0) (hcap : n.toNatClampNeg ≤ cap) (hb : cap * 8 ≤ 536870912) (h1 : cells + 1 = cells') (h2 : slots + cap = slots') (h3 : cells' ≤ R.cells) (h4 : slots' ≤ R.slots) :
    ∃ T' h' b kc, Stand p l e R s m args below meth c T' locs cells' slots' ∧ T'.heap = h' ∧ b = h.size ∧ Ext h h' ∧ (∀ len, Arv Z h' b kc (newarray.typeOf aty) n (List.replicate len (defaultValue (newarray.typeOf aty))) (defaultValue (newarray.typeOf aty))) ∧ Go p e below m W T' (pc + 2) L (.ref b :: S) := by
  subst h1 h2
  obtain ⟨T', h', kc, X', e', E', A', st⟩ := Jvm.RoadKit.newP X hx hZ w eT (g := mkF m pc L (.int n :: S)) rfl hd rfl hn hcap hb h3 h4
  exact ⟨T', h', _, kc, X', e', rfl, E', fun len => (Arv.new A' hn).pad (pad_rep [] _ len), fun t kt => k t (st t kt)⟩
theorem Go.newR {own C : String} {index : Nat} {n : Int32} {cap cells' slots' : Nat} (k : Go p e below m W T pc L (.int n :: S)) (X : Stand p l e R s m args below meth c T locs cells slots) (hx : p.tables.exec = Jvm.exec) (hZ : Z.Warmed39 s.vm) (hown : s.vm.findClass own = some m.cls) (w1 : (Cond.classLink own index C).before a0 Z = true) (w2 : (Cond.arrayOver (.object C)).before a0 Z = true) (eT : T.heap = h) (hd : decode c.code pc = .ok (.anewarray index, 3)) (hn : ¬ n < 0) (hcap : n.toNatClampNeg ≤ cap) (hb : cap * 8 ≤ 536870912) (h1 : cells + 1 = cells') (h2 : slots + cap = slots') (h3 : cells' ≤ R.cells) (h4 : slots' ≤ R.slots) :
    ∃ T' h' b kc, Stand p l e R s m args below meth c T' locs cells' slots' ∧ T'.heap = h' ∧ b = h.size ∧ Ext h h' ∧ (∀ len, Arv Z h' b kc (.object C) n (List.replicate len .null) .null) ∧ Ovr Z kc C ∧ Go p e below m W T' (pc + 3) L (.ref b :: S) := by
  subst h1 h2
  obtain ⟨T', h', kc, X', e', E', A', O', st⟩ := Jvm.RoadKit.newR X hx hZ hown w1 w2 eT (g := mkF m pc L (.int n :: S)) rfl hd rfl hn hcap hb h3 h4
  exact ⟨T', h', _, kc, X', e', rfl, E', fun len => (Arv.new A' hn).pad (pad_rep [] _ len), O', fun t kt => k t (st t kt)⟩
theorem Go.arraylength {a : Addr} {kc : ClassId} {ty : FieldType} {z : Int32} {vs : List Value} {d : Value} (k : Go p e below m W T pc L (.ref a :: S)) (X : Stand p l e R s m args below meth c T locs cells slots) (hx : p.tables.exec = Jvm.exec) (hZ : Z.Warmed39 s.vm) (eT : T.heap = h) (Va : Arv Z h a kc ty z vs d) (hd : decode c.code pc = .ok (.arraylength, 1)) : Go p e below m W T (pc + 1) L (.int z :: S) := by
  obtain ⟨cl, A, q1, S1, q3, H, G⟩ := Va
  intro t kt
  refine k t (X.arraylength hx (cell := cl) (by rw [eT]; exact A.1) (State.isArrayOf_alike hZ.alike A.2.1) (g := mkF m pc L (.ref a :: S)) rfl (rest := S) rfl hd t ?_)
  rw [len_of S1 q3]
  exact kt

theorem Go.iaload {a : Addr} {kc : ClassId} {z j : Int32} {vs : List Value} {d v : Value} {i n : Nat}  (k : Go p e below m W T pc L (.int j :: .ref a :: S)) (X : Stand p l e R s m args below meth c T locs cells slots) (hx : p.tables.exec = Jvm.exec) (hZ : Z.Warmed39 s.vm) (eT : T.heap = h) (Va : Arv Z h a kc .int z vs d) (hz : z.toNatClampNeg = n) (hj : j.toNatClampNeg = i) (hj0 : ¬ j < 0) (hi : i < n) (hv : vs.getD i d = v) (hd : decode c.code pc = .ok (.iaload, 1)) : Go p e below m W T (pc + 1) L (v :: S) := by
  obtain ⟨cl, A, q1, S1, q3, H, G⟩ := Va
  have hin := own_in S1 hz hj hj0 hi
  subst hj
  exact fun t kt => k t (X.iaload hx (j := j) (v := v) (by rw [eT]; exact A.1) (State.isArrayOf_alike hZ.alike A.2.1) A.2.2 hin (Has.at H hin hv) (g := mkF m pc L (.int j :: .ref a :: S)) rfl rfl hd t kt)

theorem Go.laload {a : Addr} {kc : ClassId} {z j : Int32} {vs : List Value} {d v : Value} {i n : Nat}  (k : Go p e below m W T pc L (.int j :: .ref a :: S)) (X : Stand p l e R s m args below meth c T locs cells slots) (hx : p.tables.exec = Jvm.exec) (hZ : Z.Warmed39 s.vm) (eT : T.heap = h) (Va : Arv Z h a kc .long z vs d) (hz : z.toNatClampNeg = n) (hj : j.toNatClampNeg = i) (hj0 : ¬ j < 0) (hi : i < n) (hv : vs.getD i d = v) (hd : decode c.code pc = .ok (.laload, 1)) : Go p e below m W T (pc + 1) L (v :: S) := by
  obtain ⟨cl, A, q1, S1, q3, H, G⟩ := Va
  have hin := own_in S1 hz hj hj0 hi
  subst hj
  exact fun t kt => k t (X.laload hx (j := j) (v := v) (by rw [eT]; exact A.1) (State.isArrayOf_alike hZ.alike A.2.1) A.2.2 hin (Has.at H hin hv) (g := mkF m pc L (.int j :: .ref a :: S)) rfl rfl hd t kt)

theorem Go.caload {a : Addr} {kc : ClassId} {z j : Int32} {vs : List Value} {d v : Value} {i n : Nat}  (k : Go p e below m W T pc L (.int j :: .ref a :: S)) (X : Stand p l e R s m args below meth c T locs cells slots) (hx : p.tables.exec = Jvm.exec) (hZ : Z.Warmed39 s.vm) (eT : T.heap = h) (Va : Arv Z h a kc .char z vs d) (hz : z.toNatClampNeg = n) (hj : j.toNatClampNeg = i) (hj0 : ¬ j < 0) (hi : i < n) (hv : vs.getD i d = v) (hd : decode c.code pc = .ok (.caload, 1)) : Go p e below m W T (pc + 1) L (v :: S) := by
  obtain ⟨cl, A, q1, S1, q3, H, G⟩ := Va
  have hin := own_in S1 hz hj hj0 hi
  subst hj
  exact fun t kt => k t (X.caload hx (j := j) (v := v) (by rw [eT]; exact A.1) (State.isArrayOf_alike hZ.alike A.2.1) A.2.2 hin (Has.at H hin hv) (g := mkF m pc L (.int j :: .ref a :: S)) rfl rfl hd t kt)

theorem Go.aaload {a : Addr} {kc : ClassId} {z j : Int32} {vs : List Value} {d v : Value} {i n : Nat} {ty : FieldType} (k : Go p e below m W T pc L (.int j :: .ref a :: S)) (X : Stand p l e R s m args below meth c T locs cells slots) (hx : p.tables.exec = Jvm.exec) (hZ : Z.Warmed39 s.vm) (eT : T.heap = h) (Va : Arv Z h a kc ty z vs d) (hz : z.toNatClampNeg = n) (hj : j.toNatClampNeg = i) (hj0 : ¬ j < 0) (hi : i < n) (hv : vs.getD i d = v) (hty : ty.isReference = true) (hd : decode c.code pc = .ok (.aaload, 1)) : Go p e below m W T (pc + 1) L (v :: S) := by
  obtain ⟨cl, A, q1, S1, q3, H, G⟩ := Va
  have hin := own_in S1 hz hj hj0 hi
  subst hj
  exact fun t kt => k t (X.aaload hx (j := j) (v := v) (by rw [eT]; exact A.1) (State.isArrayOf_alike hZ.alike A.2.1) hty A.2.2 hin (Has.at H hin hv) (g := mkF m pc L (.int j :: .ref a :: S)) rfl rfl hd t kt)

theorem Go.baload {a : Addr} {kc : ClassId} {z j : Int32} {vs : List Value} {d v : Value} {i n : Nat}  (k : Go p e below m W T pc L (.int j :: .ref a :: S)) (X : Stand p l e R s m args below meth c T locs cells slots) (hx : p.tables.exec = Jvm.exec) (hZ : Z.Warmed39 s.vm) (eT : T.heap = h) (Va : Arv Z h a kc .byte z vs d) (hz : z.toNatClampNeg = n) (hj : j.toNatClampNeg = i) (hj0 : ¬ j < 0) (hi : i < n) (hv : vs.getD i d = v) (hd : decode c.code pc = .ok (.baload, 1)) : Go p e below m W T (pc + 1) L (v :: S) := by
  obtain ⟨cl, A, q1, S1, q3, H, G⟩ := Va
  have hin := own_in S1 hz hj hj0 hi
  subst hj
  exact fun t kt => k t (X.baloadBytes hx (j := j) (v := v) (by rw [eT]; exact A.1) (State.isArrayOf_alike hZ.alike A.2.1) A.2.2 hin (Has.at H hin hv) (g := mkF m pc L (.int j :: .ref a :: S)) rfl rfl hd t kt)

theorem Go.newPE {aty : ArrayType} {n : Int32} {cap cells' slots' : Nat} {ad : String} (k : Go p e below m W T pc L (.int n :: S)) (X : Stand p l e R s m args below meth c T locs cells slots) (hx : p.tables.exec = Jvm.exec) (hZ : Z.Warmed39 s.vm) (w : (Cond.arrayClass (newarray.typeOf aty)).before a0 Z = true) (eT : T.heap = h) (hd : decode c.code pc = .ok (.newarray aty, 2)) (hn : ¬ n < 0) (hcap : n.toNatClampNeg ≤ cap) (hb : cap * 8 ≤ 536870912) (h1 : cells + 1 = cells') (h2 : slots + cap = slots') (h3 : cells' ≤ R.cells) (h4 : slots' ≤ R.slots) (had : "[" ++ (newarray.typeOf aty).toString = ad) :
    ∃ T' h' b kc, Stand p l e R s m args below meth c T' locs cells' slots' ∧ T'.heap = h' ∧ b = h.size ∧ Ext h h' ∧ (∀ len, Arv Z h' b kc (newarray.typeOf aty) n (List.replicate len (defaultValue (newarray.typeOf aty))) (defaultValue (newarray.typeOf aty))) ∧ Exa Z h' b ad ∧ Go p e below m W T' (pc + 2) L (.ref b :: S) := by
  subst h1 h2
  obtain ⟨T', h', kc, X', e', E', A', Ex, st⟩ := Jvm.RoadKit.newPE X hx hZ w eT (g := mkF m pc L (.int n :: S)) rfl hd rfl hn hcap hb h3 h4 had
  exact ⟨T', h', _, kc, X', e', rfl, E', fun len => (Arv.new A' hn).pad (pad_rep [] _ len), Ex, fun t kt => k t (st t kt)⟩
theorem Go.newRE {own C : String} {index : Nat} {n : Int32} {cap cells' slots' : Nat} {ad : String} (k : Go p e below m W T pc L (.int n :: S)) (X : Stand p l e R s m args below meth c T locs cells slots) (hx : p.tables.exec = Jvm.exec) (hZ : Z.Warmed39 s.vm) (hown : s.vm.findClass own = some m.cls) (w1 : (Cond.classLink own index C).before a0 Z = true) (w2 : (Cond.arrayOver (.object C)).before a0 Z = true) (eT : T.heap = h) (hd : decode c.code pc = .ok (.anewarray index, 3)) (hn : ¬ n < 0) (hcap : n.toNatClampNeg ≤ cap) (hb : cap * 8 ≤ 536870912) (h1 : cells + 1 = cells') (h2 : slots + cap = slots') (h3 : cells' ≤ R.cells) (h4 : slots' ≤ R.slots) (had : "[" ++ (FieldType.object C).toString = ad) :
    ∃ T' h' b kc, Stand p l e R s m args below meth c T' locs cells' slots' ∧ T'.heap = h' ∧ b = h.size ∧ Ext h h' ∧ (∀ len, Arv Z h' b kc (.object C) n (List.replicate len .null) .null) ∧ Ovr Z kc C ∧ Exa Z h' b ad ∧ Go p e below m W T' (pc + 3) L (.ref b :: S) := by
  subst h1 h2
  obtain ⟨T', h', kc, X', e', E', A', Ex, O', st⟩ := Jvm.RoadKit.newRE X hx hZ hown w1 w2 eT (g := mkF m pc L (.int n :: S)) rfl hd rfl hn hcap hb h3 h4 had
  exact ⟨T', h', _, kc, X', e', rfl, E', fun len => (Arv.new A' hn).pad (pad_rep [] _ len), O', Ex, fun t kt => k t (st t kt)⟩
theorem Go.newRA {own C : String} {ty : FieldType} {index : Nat} {n : Int32} {cap cells' slots' : Nat} {ad : String} (k : Go p e below m W T pc L (.int n :: S)) (X : Stand p l e R s m args below meth c T locs cells slots) (hx : p.tables.exec = Jvm.exec) (hZ : Z.Warmed39 s.vm) (hown : s.vm.findClass own = some m.cls) (hC : (FieldType.array ty).toString = C) (w1 : (Cond.classLink own index C).before a0 Z = true) (w2 : (Cond.arrayOver (.array ty)).before a0 Z = true) (eT : T.heap = h) (hd : decode c.code pc = .ok (.anewarray index, 3)) (hn : ¬ n < 0) (hcap : n.toNatClampNeg ≤ cap) (hb : cap * 8 ≤ 536870912) (h1 : cells + 1 = cells') (h2 : slots + cap = slots') (h3 : cells' ≤ R.cells) (h4 : slots' ≤ R.slots) (had : "[" ++ C = ad) :
    ∃ T' h' b kc, Stand p l e R s m args below meth c T' locs cells' slots' ∧ T'.heap = h' ∧ b = h.size ∧ Ext h h' ∧ (∀ len, Arv Z h' b kc (.array ty) n (List.replicate len .null) .null) ∧ OvrA Z kc ty C ∧ Exa Z h' b ad ∧ Go p e below m W T' (pc + 3) L (.ref b :: S) := by
  subst h1 h2
  obtain ⟨T', h', kc, X', e', E', A', Ex, O', st⟩ := Jvm.RoadKit.newRA X hx hZ hown hC w1 w2 eT (g := mkF m pc L (.int n :: S)) rfl hd rfl hn hcap hb h3 h4 had
  exact ⟨T', h', _, kc, X', e', rfl, E', fun len => (Arv.new A' hn).pad (pad_rep [] _ len), O', Ex, fun t kt => k t (st t kt)⟩
theorem Go.aastoreA {a : Addr} {kc : ClassId} {C : String} {ty : FieldType} {z j : Int32} {vs : List Value} {d v : Value} {i : Nat} {n0 : Nat} (k : Go p e below m W T pc L (v :: .int j :: .ref a :: S)) (X : Stand p l e R s m args below meth c T locs cells slots) (hx : p.tables.exec = Jvm.exec) (hZ : Z.Warmed39 s.vm) (eT : T.heap = h) (Va : Arv Z h a kc (.array ty) z vs d) (O : OvrA Z kc ty C) (hv : v = .null ∨ ∃ y, v = .ref y ∧ Ins Z h y C true) (hz : z.toNatClampNeg = vs.length) (hj : j.toNatClampNeg = i) (hj0 : ¬ j < 0) (hi : i < vs.length) (N : Fr n0 locs) (g0 : n0 ≤ a) (hd : decode c.code pc = .ok (.aastore, 1)) :
    ∃ T' h' locs', Stand p l e R s m args below meth c T' locs' cells slots ∧ T'.heap = h' ∧ Wr h h' a j.toNatClampNeg v ∧ Arv Z h' a kc (.array ty) z (vs.set i v) d ∧ Fr n0 locs' ∧ Go p e below m W T' (pc + 1) L S := by
  obtain ⟨cl, A, q1, S1, q3, H, G⟩ := Va
  have hin := own_in S1 hz hj hj0 hi
  have F : Sto Z h a v := by
    rcases hv with rfl | ⟨y, rfl, I⟩
    · exact Or.inl rfl
    · exact Sto.ofVA A q1 O I
  have hf : fits (.array ty) v = true := by rcases hv with rfl | ⟨y, rfl, I⟩ <;> rfl
  obtain ⟨T', h', X', e', W', st⟩ := Jvm.RoadKit.stR X hx hZ eT A hin rfl F (g := mkF m pc L (v :: .int j :: .ref a :: S)) rfl rfl hd
  exact ⟨T', h', _, X', e', W', Arv.set A q1 S1 q3 H G hf W' i hj hi, Fr.snoc X' N g0, fun t kt => k t (st t kt)⟩
end OwnKit

theorem own_eqi {args : Array Value} {first s : State} {o : Option Outcome} {idx : List Nat} {a : Term} {n : Int32} (h : (Cond.eq a (Term.int n)).value args first o s idx = some true) : a.eval args first o idx s = some (.int n) := by
  obtain ⟨x, y, h1, h2, -, -⟩ := cmp_v (Or.inl h)
  have e2 : (Term.int n).eval args first o idx s = some (.int n) := Term.int_eval n
  cases h2.symm.trans e2
  cases x <;> simp [Cond.value, h1, e2] at h
  rw [h1, h]
theorem own_eqr {args : Array Value} {first s : State} {o : Option Outcome} {idx : List Nat} {a b : Term} {y : Addr} (h : (Cond.eq a b).value args first o s idx = some true) (hb : b.eval args first o idx s = some (.ref y)) : a.eval args first o idx s = some (.ref y) := by
  obtain ⟨x, z, h1, h2, -, -⟩ := cmp_v (Or.inl h)
  cases h2.symm.trans hb
  cases x <;> simp [Cond.value, h1, hb] at h
  rw [h1, h]
theorem own_ne {Z : State} {h : Heap} {a b : Addr} {C n d : String} {v w : Value} (F : Fld Z h a C n d v) (G : Fld Z h b C n d w) (q : v ≠ w) : a ≠ b := by
  intro e
  subst e
  obtain ⟨c1, cf1, k1, i1, f1, h1, h2, -, -, -, -, h7⟩ := F
  obtain ⟨c2, cf2, k2, i2, f2, g1, g2, -, -, -, -, g7⟩ := G
  cases h1.symm.trans g1
  cases h2.symm.trans g2
  exact q (Option.some.inj (h7.symm.trans g7))
theorem own_nz {x : Int32} (h : x = 0 ∨ x = 1) : narrow .boolean (.int x) = .int x ∧ fits .boolean (.int x) = true ∧ nar .boolean x = x := by rcases h with rfl | rfl <;> exact ⟨rfl, rfl, rfl⟩
theorem own_nref {v : Value} {C : String} (h : v.isRef = true) : narrow (.object C) v = v := by cases v <;> first | rfl | simp [Value.isRef] at h
theorem own_fref {v : Value} {C : String} (h : v.isRef = true) : fits (.object C) v = true := by cases v <;> first | rfl | simp [Value.isRef] at h
theorem own_01 {x : Int32} {P : Prop} (h : (P ∧ x = (0 : Int32)) ∨ (¬ P ∧ x = (1 : Int32))) : x = 0 ∨ x = 1 := h.imp And.right And.right
theorem own_10 {x : Int32} {P : Prop} (h : (P ∧ x = (1 : Int32)) ∨ (¬ P ∧ x = (0 : Int32))) : x = 0 ∨ x = 1 := h.symm.imp And.right And.right

theorem own_mask (x : Int32) : 0 ≤ (x &&& (2147483647 : Int32)).toInt := (c_andS x 2147483647).2.2 (by decide)
theorem own_rem {x y : Int32} (hx : 0 ≤ x.toInt) (hy : 0 < y.toInt) : 0 ≤ (x % y).toInt ∧ (x % y).toInt < y.toInt := ⟨((c_iremV x y).1 hx hy).1, ((c_iremV x y).1 hx hy).2.1⟩
theorem own_i {x : Int32} {n : Int} (y : Int32) (h : x.toInt = n) (hy : y.toInt = n) : x = y := Int32.toInt_inj.mp (h.trans hy.symm)

theorem own_box {Z : State} {ca : Addr} {cc : Cell} (B : Bxs Z ca cc "java/lang/Integer" "I" (256 : Int32) (fun j => .int (j - 128))) {x : Int32} (h1 : ¬ x < (-128 : Int32)) (h2 : ¬ (127 : Int32) < x) : ¬ ((x + (128 : Int32)) < 0 ∨ cc.slots.size ≤ (x + (128 : Int32)).toNatClampNeg) ∧ ∃ r : Addr, cc.slots[(x + (128 : Int32)).toNatClampNeg]? = some (.ref r) ∧ Exa Z Z.heap r "java/lang/Integer" ∧ Fld Z Z.heap r "java/lang/Integer" "value" "I" (.int x) := by
  have b1 : ¬ x.toInt < -128 := fun q => h1 (Int32.lt_iff_toInt_lt.mpr q)
  have b2 : ¬ (127 : Int) < x.toInt := fun q => h2 (Int32.lt_iff_toInt_lt.mpr q)
  have e : (x + (128 : Int32)).toInt = x.toInt + 128 := XT.add32 (by constructor <;> (show _ <;> have : (128 : Int32).toInt = 128 := rfl; omega))
  have hin : ¬ ((x + (128 : Int32)) < 0 ∨ cc.slots.size ≤ (x + (128 : Int32)).toNatClampNeg) := by
    intro q
    rcases q with q | q
    · have := Int32.lt_iff_toInt_lt.mp q
      rw [e] at this
      have z0 : (0 : Int32).toInt = 0 := rfl
      omega
    · rw [B.2.1] at q
      have z1 : (256 : Int32).toNatClampNeg = 256 := rfl
      rw [z1] at q
      simp only [Int32.toNatClampNeg, e] at q
      omega
  obtain ⟨r, q1, q2, q3⟩ := B.2.2.2 _ hin
  refine ⟨hin, r, q1, q2, ?_⟩
  have : x + (128 : Int32) - 128 = x := by simp
  simpa only [this] using q3

theorem d_rmn_0 : decode jdk_18_method_1_code 0 = .ok (.aload_n 0, 1) := by decide +kernel
theorem d_rmn_1 : decode jdk_18_method_1_code 1 = .ok (.invokespecial 1, 3) := by decide +kernel
theorem d_rmn_4 : decode jdk_18_method_1_code 4 = .ok (.return_, 1) := by decide +kernel
theorem pn_rmn : plainName "java/lang/Number" = true := by first | (simp [plainName, overriddenIn]; done) | decide +kernel
theorem ef_rmn (m : MethodId) (a1 : Addr) : entryFrame m #[(.ref a1)] 1 = mkF m 0 #[.val (.ref a1)] [] := by first | (simp [entryFrame, mkF, argsToLocals, Value.category]; done) | rfl
def Q_rmn (Z : State) (a1 : Addr) (h0 : Heap) (n0 : Nat) (v : Option Value) (h : Heap) (L : List Loc) : Prop := v = none ∧ Fr n0 L ∧ h = h0
set_option maxRecDepth 65536 in
set_option maxHeartbeats 40000000 in
theorem rmn (l : Launch) (Z : State) (a0 : Array Value) (hw : ∀ d ∈ tables_1, d.before a0 Z = true) (ws : List Jvm.Cond) (a1 : Addr) (h0 : Heap) (n0 : Nat) (Z0 : n0 ≤ h0.size)  :
    MetFree l (⟨"java/lang/Number", "<init>", "()V"⟩ : MethodName) (head1 (Jvm.Cond.code (⟨"java/lang/Number", "<init>", "()V"⟩ : MethodName) jdk_18_method_1_code 1 none :: ws) ({ frames := 1, cells := 0, slots := 0, locals := 12 } : Room)) (fun a U => a = #[(.ref a1)] ∧ Z.Warmed39 U.vm ∧ U.heap = h0) (fun _ _ _ _ _ => True) (fun _ U o U' => ∃ v L, o = .returned v ∧ Q_rmn Z a1 h0 n0 v U'.heap L ∧ FrameEnd U o U' L ({ frames := 1, cells := 0, slots := 0, locals := 12 } : Room).cells ({ frames := 1, cells := 0, slots := 0, locals := 12 } : Room).slots) := by
  refine MetFree.of_bodySF (plainFor_of_name pn_rmn) hisR ?_
  intro p e s m args_ below meth c s₁ Bd hml0 hP hK
  obtain ⟨hargs, hZ, hh⟩ := hP
  have hx := Bd.exec
  have hby := Bd.bytes
  have hml : c.maxLocals = 1 := hml0
  have hown : s.vm.findClass "java/lang/Number" = some m.cls := findClass_of_methodNamed Bd.named
  have hnm := (name_of_methodNamed Bd.named Bd.method).1
  have X0 : Stand p l e ({ frames := 1, cells := 0, slots := 0, locals := 12 } : Room) s m args_ below meth c s₁ [] 0 0 := Stand.of_body Bd
  have e0 : s₁.heap = h0 := by rw [← hh, Bd.state]; rfl
  have N0 := Fr.nil n0
  have hv : ∀ (i : Nat) {d : Jvm.Cond}, tables_1[i]? = some d → d.before a0 Z = true := fun i d q => hw d (List.mem_of_getElem? q)
  have k0 : Go p e below m (s₁.setTop (entryFrame m args_ 1)) s₁ 0 #[.val (.ref a1)] [] := by rw [hargs]; exact fun t kt => castTop (ef_rmn m a1) kt
  obtain ⟨W, hWW⟩ : ∃ W, W = s₁.setTop (entryFrame m args_ 1) := ⟨_, rfl⟩
  rw [← hWW] at k0 ⊢
  show Done p e below s W (Q_rmn Z a1 h0 n0) ({ frames := 1, cells := 0, slots := 0, locals := 12 } : Room).cells ({ frames := 1, cells := 0, slots := 0, locals := 12 } : Room).slots
  have k20 : Go p e below m W s₁ 1 #[.val (.ref a1)] [(.ref a1)] := k0.aloadN X0 hx (hb hby d_rmn_0) rfl rfl
  obtain ⟨T21, X21, e21, k21⟩ := k20.initO (Wd := 0) X0 hx hZ hown (by rw [hml]; rfl) (hv 91 rfl) (hv 14 rfl) (hv 15 rfl) e0 (hb hby d_rmn_1) (Nat.le_of_eq rfl) (by decide) (by decide)
  have k21 : Go p e below m W T21 4 #[.val (.ref a1)] [] := k21
  exact k21.return_ X21 hx Bd.returns (hb hby d_rmn_4) (BodyLoose.notSynchronized Bd) (by rw [e21]; exact ⟨rfl, N0, rfl⟩) (by decide) (by decide)

theorem d_rmi_0 : decode jdk_33_method_23_code 0 = .ok (.aload_n 0, 1) := by decide +kernel
theorem d_rmi_1 : decode jdk_33_method_23_code 1 = .ok (.invokespecial 202, 3) := by decide +kernel
theorem d_rmi_4 : decode jdk_33_method_23_code 4 = .ok (.aload_n 0, 1) := by decide +kernel
theorem d_rmi_5 : decode jdk_33_method_23_code 5 = .ok (.iload_n 1, 1) := by decide +kernel
theorem d_rmi_6 : decode jdk_33_method_23_code 6 = .ok (.putfield 205, 3) := by decide +kernel
theorem d_rmi_9 : decode jdk_33_method_23_code 9 = .ok (.return_, 1) := by decide +kernel
theorem pn_rmi : plainName "java/lang/Integer" = true := by first | (simp [plainName, overriddenIn]; done) | decide +kernel
theorem pd_rmi_0 : parseMethodDescriptor "()V" = some ⟨[], none⟩ := by decide +kernel
theorem ef_rmi (m : MethodId) (a1 : Addr) (p2 : Int32) : entryFrame m #[(.ref a1), (.int p2)] 2 = mkF m 0 #[.val (.ref a1), .val (.int p2)] [] := by first | (simp [entryFrame, mkF, argsToLocals, Value.category]; done) | rfl
def Q_rmi (Z : State) (a1 : Addr) (p2 : Int32) (u1 : Value) (h0 : Heap) (n0 : Nat) (v : Option Value) (h : Heap) (L : List Loc) : Prop := v = none ∧ Fr n0 L ∧ Keep h0 h [a1] ∧ Exa Z h a1 "java/lang/Integer" ∧ Fld Z h a1 "java/lang/Integer" "value" "I" (.int p2)
set_option maxRecDepth 65536 in
set_option maxHeartbeats 40000000 in
theorem rmi (l : Launch) (Z : State) (a0 : Array Value) (hw : ∀ d ∈ tables_1, d.before a0 Z = true) (ws : List Jvm.Cond) (a1 : Addr) (p2 : Int32) (u1 : Value) (h0 : Heap) (n0 : Nat) (Z0 : n0 ≤ h0.size) (E1 : Exa Z h0 a1 "java/lang/Integer") (G1 : n0 ≤ a1) (F1 : Fld Z h0 a1 "java/lang/Integer" "value" "I" u1) :
    MetFree l (⟨"java/lang/Integer", "<init>", "(I)V"⟩ : MethodName) (head1 (Jvm.Cond.code (⟨"java/lang/Integer", "<init>", "(I)V"⟩ : MethodName) jdk_33_method_23_code 2 none :: ws) ({ frames := 2, cells := 0, slots := 0, locals := 24 } : Room)) (fun a U => a = #[(.ref a1), (.int p2)] ∧ Z.Warmed39 U.vm ∧ U.heap = h0) (fun _ _ _ _ _ => True) (fun _ U o U' => ∃ v L, o = .returned v ∧ Q_rmi Z a1 p2 u1 h0 n0 v U'.heap L ∧ FrameEnd U o U' L ({ frames := 2, cells := 0, slots := 0, locals := 24 } : Room).cells ({ frames := 2, cells := 0, slots := 0, locals := 24 } : Room).slots) := by
  refine MetFree.of_bodySF (plainFor_of_name pn_rmi) hisR ?_
  intro p e s m args_ below meth c s₁ Bd hml0 hP hK
  obtain ⟨hargs, hZ, hh⟩ := hP
  have hx := Bd.exec
  have hby := Bd.bytes
  have hml : c.maxLocals = 2 := hml0
  have hown : s.vm.findClass "java/lang/Integer" = some m.cls := findClass_of_methodNamed Bd.named
  have hnm := (name_of_methodNamed Bd.named Bd.method).1
  have X0 : Stand p l e ({ frames := 2, cells := 0, slots := 0, locals := 24 } : Room) s m args_ below meth c s₁ [] 0 0 := Stand.of_body Bd
  have e0 : s₁.heap = h0 := by rw [← hh, Bd.state]; rfl
  have N0 := Fr.nil n0
  have hv : ∀ (i : Nat) {d : Jvm.Cond}, tables_1[i]? = some d → d.before a0 Z = true := fun i d q => hw d (List.mem_of_getElem? q)
  have K0 : Keep h0 h0 [a1] := Keep.refl _ _
  have k0 : Go p e below m (s₁.setTop (entryFrame m args_ 2)) s₁ 0 #[.val (.ref a1), .val (.int p2)] [] := by rw [hargs]; exact fun t kt => castTop (ef_rmi m a1 p2) kt
  obtain ⟨W, hWW⟩ : ∃ W, W = s₁.setTop (entryFrame m args_ 2) := ⟨_, rfl⟩
  rw [← hWW] at k0 ⊢
  show Done p e below s W (Q_rmi Z a1 p2 u1 h0 n0) ({ frames := 2, cells := 0, slots := 0, locals := 24 } : Room).cells ({ frames := 2, cells := 0, slots := 0, locals := 24 } : Room).slots
  have k20 : Go p e below m W s₁ 1 #[.val (.ref a1), .val (.int p2)] [(.ref a1)] := k0.aloadN X0 hx (hb hby d_rmi_0) rfl rfl
  obtain ⟨T21, v21, L21, X21, Q21, k21⟩ := k20.spec (y := (⟨"java/lang/Number", "<init>", "()V"⟩ : MethodName)) (b := a1) (Wd := 0) (cells' := 0) (slots' := 0) (argsL := []) (rest := []) X0 hx hZ hown (by rw [hml]; rfl) rfl (hv 85 rfl) (hv 86 rfl) (hv 90 rfl) (hv 89 rfl) (hb hby d_rmi_1) (by decide) (rmn l Z a0 hw [] a1 h0 n0 Z0) e0 rfl rfl pd_rmi_0 rfl (Nat.le_of_eq rfl) (by decide) (by decide) rfl rfl (by decide) (by decide)
  obtain ⟨rfl, Nq21, e21q⟩ := Q21
  have N21 := Fr.app N0 Nq21
  have e21 : T21.heap = h0 := e21q
  have k21 : Go p e below m W T21 4 #[.val (.ref a1), .val (.int p2)] [] := k21
  have k22 : Go p e below m W T21 6 #[.val (.ref a1), .val (.int p2)] [(.int p2), (.ref a1)] := (k21.aloadN X21 hx (hb hby d_rmi_4) rfl rfl).iloadN X21 hx (hb hby d_rmi_5) rfl
  obtain ⟨T23, h23, l23, X23, e23, W23, N23, k23⟩ := k22.putF X21 hx hZ hown (host := "") (Or.inl (hv 44 rfl)) Via.refl e21 F1 E1 (Or.inr ⟨(hv 45 rfl), rfl, hnm⟩) (hv 80 rfl) (ty := .int) (by decide) rfl rfl N21 G1 (hb hby d_rmi_6)
  have k23 : Go p e below m W T23 9 #[.val (.ref a1), .val (.int p2)] [] := k23
  have Z23 : n0 ≤ h23.size := (Wr.size W23).symm ▸ Z0
  have f24 := E1.wr W23
  have f25 := F1.same W23
  have K23 : Keep h0 h23 [a1] := K0.wr W23 (Or.inl (List.mem_of_getElem? (i := 0) rfl))
  exact k23.return_ X23 hx Bd.returns (hb hby d_rmi_9) (BodyLoose.notSynchronized Bd) (by rw [e23]; exact ⟨rfl, N23, K23, f24, f25⟩) (by decide) (by decide)

theorem d_rmv_0 : decode jdk_33_method_22_code 0 = .ok (.iload_n 0, 1) := by decide +kernel
theorem d_rmv_1 : decode jdk_33_method_22_code 1 = .ok (.bipush (-128), 2) := by decide +kernel
theorem d_rmv_3 : decode jdk_33_method_22_code 3 = .ok (.if_icmp .lt 20, 3) := by decide +kernel
theorem d_rmv_6 : decode jdk_33_method_22_code 6 = .ok (.iload_n 0, 1) := by decide +kernel
theorem d_rmv_7 : decode jdk_33_method_22_code 7 = .ok (.getstatic 191, 3) := by decide +kernel
theorem d_rmv_10 : decode jdk_33_method_22_code 10 = .ok (.if_icmp .gt 13, 3) := by decide +kernel
theorem d_rmv_13 : decode jdk_33_method_22_code 13 = .ok (.getstatic 195, 3) := by decide +kernel
theorem d_rmv_16 : decode jdk_33_method_22_code 16 = .ok (.iload_n 0, 1) := by decide +kernel
theorem d_rmv_17 : decode jdk_33_method_22_code 17 = .ok (.sipush 128, 3) := by decide +kernel
theorem d_rmv_20 : decode jdk_33_method_22_code 20 = .ok (.iadd, 1) := by decide +kernel
theorem d_rmv_21 : decode jdk_33_method_22_code 21 = .ok (.aaload, 1) := by decide +kernel
theorem d_rmv_22 : decode jdk_33_method_22_code 22 = .ok (.areturn, 1) := by decide +kernel
theorem d_rmv_23 : decode jdk_33_method_22_code 23 = .ok (.new 1, 3) := by decide +kernel
theorem d_rmv_26 : decode jdk_33_method_22_code 26 = .ok (.dup, 1) := by decide +kernel
theorem d_rmv_27 : decode jdk_33_method_22_code 27 = .ok (.iload_n 0, 1) := by decide +kernel
theorem d_rmv_28 : decode jdk_33_method_22_code 28 = .ok (.invokespecial 199, 3) := by decide +kernel
theorem d_rmv_31 : decode jdk_33_method_22_code 31 = .ok (.areturn, 1) := by decide +kernel
theorem pn_rmv : plainName "java/lang/Integer" = true := by first | (simp [plainName, overriddenIn]; done) | decide +kernel
theorem pd_rmv_0 : parseMethodDescriptor "(I)V" = some ⟨[.int], none⟩ := by decide +kernel
theorem ef_rmv (m : MethodId) (p1 : Int32) : entryFrame m #[(.int p1)] 1 = mkF m 0 #[.val (.int p1)] [] := by first | (simp [entryFrame, mkF, argsToLocals, Value.category]; done) | rfl
def Q_rmv (Z : State) (p1 : Int32) (ca : Addr) (cc : Cell) (h0 : Heap) (n0 : Nat) (v : Option Value) (h : Heap) (L : List Loc) : Prop := ∃ (ro : Addr), v = some (.ref ro) ∧ Fr n0 L ∧ Keep h0 h [] ∧ Exa Z h ro "java/lang/Integer" ∧ Fld Z h ro "java/lang/Integer" "value" "I" (.int p1)
set_option maxRecDepth 65536 in
set_option maxHeartbeats 40000000 in
theorem rmv (l : Launch) (Z : State) (a0 : Array Value) (hw : ∀ d ∈ tables_1, d.before a0 Z = true) (ws : List Jvm.Cond) (p1 : Int32) (ca : Addr) (cc : Cell) (h0 : Heap) (n0 : Nat) (Z0 : n0 ≤ h0.size) (O0 : Old Z n0 h0) (SH : Sta Z Z.heap "java/lang/Integer$IntegerCache" "high" "I" (.int (127 : Int32))) (SC : Sta Z Z.heap "java/lang/Integer$IntegerCache" "cache" "[Ljava/lang/Integer;" (.ref ca)) (HB : Bxs Z ca cc "java/lang/Integer" "I" (256 : Int32) (fun j => .int (j - 128))) :
    MetFree l (⟨"java/lang/Integer", "valueOf", "(I)Ljava/lang/Integer;"⟩ : MethodName) (head1 (Jvm.Cond.code (⟨"java/lang/Integer", "valueOf", "(I)Ljava/lang/Integer;"⟩ : MethodName) jdk_33_method_22_code 1 (some (.object "java/lang/Integer")) :: ws) ({ frames := 3, cells := 1, slots := 1, locals := 38 } : Room)) (fun a U => a = #[(.int p1)] ∧ Z.Warmed39 U.vm ∧ U.heap = h0) (fun _ _ _ _ _ => True) (fun _ U o U' => ∃ v L, o = .returned v ∧ Q_rmv Z p1 ca cc h0 n0 v U'.heap L ∧ FrameEnd U o U' L ({ frames := 3, cells := 1, slots := 1, locals := 38 } : Room).cells ({ frames := 3, cells := 1, slots := 1, locals := 38 } : Room).slots) := by
  refine MetFree.of_bodySF (plainFor_of_name pn_rmv) hisR ?_
  intro p e s m args_ below meth c s₁ Bd hml0 hP hK
  obtain ⟨hargs, hZ, hh⟩ := hP
  have hx := Bd.exec
  have hby := Bd.bytes
  have hml : c.maxLocals = 1 := hml0
  have hown : s.vm.findClass "java/lang/Integer" = some m.cls := findClass_of_methodNamed Bd.named
  have hnm := (name_of_methodNamed Bd.named Bd.method).1
  have X0 : Stand p l e ({ frames := 3, cells := 1, slots := 1, locals := 38 } : Room) s m args_ below meth c s₁ [] 0 0 := Stand.of_body Bd
  have e0 : s₁.heap = h0 := by rw [← hh, Bd.state]; rfl
  have N0 := Fr.nil n0
  have hv : ∀ (i : Nat) {d : Jvm.Cond}, tables_1[i]? = some d → d.before a0 Z = true := fun i d q => hw d (List.mem_of_getElem? q)
  have K0 : Keep h0 h0 [] := Keep.refl _ _
  have k0 : Go p e below m (s₁.setTop (entryFrame m args_ 1)) s₁ 0 #[.val (.int p1)] [] := by rw [hargs]; exact fun t kt => castTop (ef_rmv m p1) kt
  obtain ⟨W, hWW⟩ : ∃ W, W = s₁.setTop (entryFrame m args_ 1) := ⟨_, rfl⟩
  rw [← hWW] at k0 ⊢
  show Done p e below s W (Q_rmv Z p1 ca cc h0 n0) ({ frames := 3, cells := 1, slots := 1, locals := 38 } : Room).cells ({ frames := 3, cells := 1, slots := 1, locals := 38 } : Room).slots
  have k20 : Go p e below m W s₁ 3 #[.val (.int p1)] [(.int (-128 : Int32)), (.int p1)] := (k0.iloadN X0 hx (hb hby d_rmv_0) rfl).bipush X0 hx (hb hby d_rmv_1) (v := (-128 : Int32)) rfl
  by_cases hc3_21 : p1 < (-128 : Int32)
  ·
    have k22 : Go p e below m W s₁ 23 #[.val (.int p1)] [] := k20.icmpYes X0 hx (hb hby d_rmv_3) (XT.ii_lt_t hc3_21) (by decide) (by decide)
    obtain ⟨T23, h23, b23, X23, e23, g23, E23, A23, D23, k23⟩ := k22.newO (cells' := 1) (slots' := 1) X0 hx hZ hown (hv 79 rfl) (hv 80 rfl) (hv 2 rfl) e0 (hb hby d_rmv_23) rfl rfl (by decide) (by decide)
    have k23 : Go p e below m W T23 26 #[.val (.int p1)] [(.ref b23)] := k23
    have Z23 : n0 ≤ h23.size := Nat.le_trans Z0 E23.1
    have f24 := O0.ext E23
    have G23 : n0 ≤ b23 := g23 ▸ Z0
    have H23 : h0.size ≤ b23 := g23 ▸ K0.1
    have K23 : Keep h0 h23 [] := K0.ext E23
    have f25 : Fld Z h23 b23 "java/lang/Integer" "value" "I" (.int (0 : Int32)) := D23 (Or.inr (hv 45 rfl)) (ty := .int) (by decide)
    have k26 : Go p e below m W T23 28 #[.val (.int p1)] [(.int p1), (.ref b23), (.ref b23)] := (k23.dup X23 hx (hb hby d_rmv_26) rfl).iloadN X23 hx (hb hby d_rmv_27) rfl
    obtain ⟨T27, v27, L27, X27, Q27, k27⟩ := k26.spec (y := (⟨"java/lang/Integer", "<init>", "(I)V"⟩ : MethodName)) (b := b23) (Wd := 1) (cells' := 1) (slots' := 1) (argsL := [(.int p1)]) (rest := [(.ref b23)]) X23 hx hZ hown (by rw [hml]; rfl) rfl (hv 81 rfl) (hv 82 rfl) (hv 84 rfl) (hv 2 rfl) (hb hby d_rmv_28) (by decide) (rmi l Z a0 hw [] b23 p1 (.int (0 : Int32)) h23 n0 Z23 A23 G23 f25) e23 rfl rfl pd_rmv_0 rfl (Nat.le_of_eq rfl) (by decide) (by decide) rfl rfl (by decide) (by decide)
    obtain ⟨rfl, Nq27, Kq27, q27_0, q27_1⟩ := Q27
    have N27 := Fr.app N0 Nq27
    obtain ⟨h27, e27⟩ : ∃ h, T27.heap = h := ⟨_, rfl⟩
    rw [e27] at Kq27 q27_0 q27_1
    have Z27 : n0 ≤ h27.size := Nat.le_trans Z23 Kq27.1
    have f28 := f24.keep Kq27 (by intro x q; simp only [List.mem_cons, List.not_mem_nil, or_false] at q; rcases q with rfl; exact G23)
    have f29 := A23.keep Kq27
    have K27 : Keep h0 h27 [] := K23.trans Kq27 (by intro x q; simp only [List.mem_cons, List.not_mem_nil, or_false] at q; rcases q with rfl; exact (Or.inr H23))
    have k27 : Go p e below m W T27 31 #[.val (.int p1)] [(.ref b23)] := k27
    exact k27.areturn X27 hx Bd.returns rfl rfl (hb hby d_rmv_31) (BodyLoose.notSynchronized Bd) (by rw [e27]; exact ⟨b23, rfl, N27, K27, q27_0, q27_1⟩) (by decide) (by decide)
  ·
    have k30 : Go p e below m W s₁ 7 #[.val (.int p1)] [(.int p1)] := (k20.icmpNo X0 hx (hb hby d_rmv_3) (XT.ii_lt_f hc3_21)).iloadN X0 hx (hb hby d_rmv_6) rfl
    obtain ⟨T31, X31, e31, k31⟩ := k30.getS X0 hx hZ hown (host := "") (Or.inl (hv 4 rfl)) Via.refl e0 (SH.ext O0.2) (hb hby d_rmv_7)
    have k31 : Go p e below m W T31 10 #[.val (.int p1)] [(.int (127 : Int32)), (.int p1)] := k31
    by_cases hc10_32 : (127 : Int32) < p1
    ·
      have k33 : Go p e below m W T31 23 #[.val (.int p1)] [] := k31.icmpYes X31 hx (hb hby d_rmv_10) (XT.ii_gt_t hc10_32) (by decide) (by decide)
      obtain ⟨T34, h34, b34, X34, e34, g34, E34, A34, D34, k34⟩ := k33.newO (cells' := 1) (slots' := 1) X31 hx hZ hown (hv 79 rfl) (hv 80 rfl) (hv 2 rfl) e31 (hb hby d_rmv_23) rfl rfl (by decide) (by decide)
      have k34 : Go p e below m W T34 26 #[.val (.int p1)] [(.ref b34)] := k34
      have Z34 : n0 ≤ h34.size := Nat.le_trans Z0 E34.1
      have f35 := O0.ext E34
      have G34 : n0 ≤ b34 := g34 ▸ Z0
      have H34 : h0.size ≤ b34 := g34 ▸ K0.1
      have K34 : Keep h0 h34 [] := K0.ext E34
      have f36 : Fld Z h34 b34 "java/lang/Integer" "value" "I" (.int (0 : Int32)) := D34 (Or.inr (hv 45 rfl)) (ty := .int) (by decide)
      have k37 : Go p e below m W T34 28 #[.val (.int p1)] [(.int p1), (.ref b34), (.ref b34)] := (k34.dup X34 hx (hb hby d_rmv_26) rfl).iloadN X34 hx (hb hby d_rmv_27) rfl
      obtain ⟨T38, v38, L38, X38, Q38, k38⟩ := k37.spec (y := (⟨"java/lang/Integer", "<init>", "(I)V"⟩ : MethodName)) (b := b34) (Wd := 1) (cells' := 1) (slots' := 1) (argsL := [(.int p1)]) (rest := [(.ref b34)]) X34 hx hZ hown (by rw [hml]; rfl) rfl (hv 81 rfl) (hv 82 rfl) (hv 84 rfl) (hv 2 rfl) (hb hby d_rmv_28) (by decide) (rmi l Z a0 hw [] b34 p1 (.int (0 : Int32)) h34 n0 Z34 A34 G34 f36) e34 rfl rfl pd_rmv_0 rfl (Nat.le_of_eq rfl) (by decide) (by decide) rfl rfl (by decide) (by decide)
      obtain ⟨rfl, Nq38, Kq38, q38_0, q38_1⟩ := Q38
      have N38 := Fr.app N0 Nq38
      obtain ⟨h38, e38⟩ : ∃ h, T38.heap = h := ⟨_, rfl⟩
      rw [e38] at Kq38 q38_0 q38_1
      have Z38 : n0 ≤ h38.size := Nat.le_trans Z34 Kq38.1
      have f39 := f35.keep Kq38 (by intro x q; simp only [List.mem_cons, List.not_mem_nil, or_false] at q; rcases q with rfl; exact G34)
      have f40 := A34.keep Kq38
      have K38 : Keep h0 h38 [] := K34.trans Kq38 (by intro x q; simp only [List.mem_cons, List.not_mem_nil, or_false] at q; rcases q with rfl; exact (Or.inr H34))
      have k38 : Go p e below m W T38 31 #[.val (.int p1)] [(.ref b34)] := k38
      exact k38.areturn X38 hx Bd.returns rfl rfl (hb hby d_rmv_31) (BodyLoose.notSynchronized Bd) (by rw [e38]; exact ⟨b34, rfl, N38, K38, q38_0, q38_1⟩) (by decide) (by decide)
    ·
      have k41 : Go p e below m W T31 13 #[.val (.int p1)] [] := k31.icmpNo X31 hx (hb hby d_rmv_10) (XT.ii_gt_f hc10_32)
      obtain ⟨T42, X42, e42, k42⟩ := k41.getS X31 hx hZ hown (host := "") (Or.inl (hv 6 rfl)) Via.refl e31 (SC.ext O0.2) (hb hby d_rmv_13)
      have k42 : Go p e below m W T42 16 #[.val (.int p1)] [(.ref ca)] := k42
      have k43 : Go p e below m W T42 21 #[.val (.int p1)] [(.int (p1 + (128 : Int32))), (.ref ca)] := ((k42.iloadN X42 hx (hb hby d_rmv_16) rfl).sipush X42 hx (hb hby d_rmv_17) (v := (128 : Int32)) rfl).iadd X42 hx (hb hby d_rmv_20)
      obtain ⟨hin44, r44, hv44, Er44, Fr44⟩ := own_box HB hc3_21 hc10_32
      have k45 : Go p e below m W T42 22 #[.val (.int p1)] [(.ref r44)] := fun t kt => k43 t (X42.aaload hx (j := (p1 + (128 : Int32))) (v := .ref r44) (by rw [e42]; exact (HB.1.ext O0.2).1) (State.isArrayOf_alike hZ.alike HB.1.2.1) rfl HB.1.2.2 hin44 hv44 (g := mkF m 21 #[.val (.int p1)] [(.int (p1 + (128 : Int32))), (.ref ca)]) rfl rfl (hb hby d_rmv_21) t kt)
      exact k45.areturn X42 hx Bd.returns rfl rfl (hb hby d_rmv_22) (BodyLoose.notSynchronized Bd) (by rw [e42]; exact ⟨r44, rfl, N0, K0, (Er44.ext O0.2), (Fr44.ext O0.2)⟩) (by decide) (by decide)

theorem d_rme_0 : decode prog_5_method_1_code 0 = .ok (.aload_n 0, 1) := by decide +kernel
theorem d_rme_1 : decode prog_5_method_1_code 1 = .ok (.invokespecial 1, 3) := by decide +kernel
theorem d_rme_4 : decode prog_5_method_1_code 4 = .ok (.return_, 1) := by decide +kernel
theorem pn_rme : plainName "com/example/ikat/ikat/core/LinkEdit" = true := by first | (simp [plainName, overriddenIn]; done) | decide +kernel
theorem ef_rme (m : MethodId) (a1 : Addr) : entryFrame m #[(.ref a1)] 1 = mkF m 0 #[.val (.ref a1)] [] := by first | (simp [entryFrame, mkF, argsToLocals, Value.category]; done) | rfl
def Q_rme (Z : State) (a1 : Addr) (h0 : Heap) (n0 : Nat) (v : Option Value) (h : Heap) (L : List Loc) : Prop := v = none ∧ Fr n0 L ∧ h = h0
set_option maxRecDepth 65536 in
set_option maxHeartbeats 40000000 in
theorem rme (l : Launch) (Z : State) (a0 : Array Value) (hw : ∀ d ∈ tables_1, d.before a0 Z = true) (ws : List Jvm.Cond) (a1 : Addr) (h0 : Heap) (n0 : Nat) (Z0 : n0 ≤ h0.size)  :
    MetFree l (⟨"com/example/ikat/ikat/core/LinkEdit", "<init>", "()V"⟩ : MethodName) (head1 (Jvm.Cond.code (⟨"com/example/ikat/ikat/core/LinkEdit", "<init>", "()V"⟩ : MethodName) prog_5_method_1_code 1 none :: ws) ({ frames := 1, cells := 0, slots := 0, locals := 12 } : Room)) (fun a U => a = #[(.ref a1)] ∧ Z.Warmed39 U.vm ∧ U.heap = h0) (fun _ _ _ _ _ => True) (fun _ U o U' => ∃ v L, o = .returned v ∧ Q_rme Z a1 h0 n0 v U'.heap L ∧ FrameEnd U o U' L ({ frames := 1, cells := 0, slots := 0, locals := 12 } : Room).cells ({ frames := 1, cells := 0, slots := 0, locals := 12 } : Room).slots) := by
  refine MetFree.of_bodySF (plainFor_of_name pn_rme) hisR ?_
  intro p e s m args_ below meth c s₁ Bd hml0 hP hK
  obtain ⟨hargs, hZ, hh⟩ := hP
  have hx := Bd.exec
  have hby := Bd.bytes
  have hml : c.maxLocals = 1 := hml0
  have hown : s.vm.findClass "com/example/ikat/ikat/core/LinkEdit" = some m.cls := findClass_of_methodNamed Bd.named
  have hnm := (name_of_methodNamed Bd.named Bd.method).1
  have X0 : Stand p l e ({ frames := 1, cells := 0, slots := 0, locals := 12 } : Room) s m args_ below meth c s₁ [] 0 0 := Stand.of_body Bd
  have e0 : s₁.heap = h0 := by rw [← hh, Bd.state]; rfl
  have N0 := Fr.nil n0
  have hv : ∀ (i : Nat) {d : Jvm.Cond}, tables_1[i]? = some d → d.before a0 Z = true := fun i d q => hw d (List.mem_of_getElem? q)
  have k0 : Go p e below m (s₁.setTop (entryFrame m args_ 1)) s₁ 0 #[.val (.ref a1)] [] := by rw [hargs]; exact fun t kt => castTop (ef_rme m a1) kt
  obtain ⟨W, hWW⟩ : ∃ W, W = s₁.setTop (entryFrame m args_ 1) := ⟨_, rfl⟩
  rw [← hWW] at k0 ⊢
  show Done p e below s W (Q_rme Z a1 h0 n0) ({ frames := 1, cells := 0, slots := 0, locals := 12 } : Room).cells ({ frames := 1, cells := 0, slots := 0, locals := 12 } : Room).slots
  have k20 : Go p e below m W s₁ 1 #[.val (.ref a1)] [(.ref a1)] := k0.aloadN X0 hx (hb hby d_rme_0) rfl rfl
  obtain ⟨T21, X21, e21, k21⟩ := k20.initO (Wd := 0) X0 hx hZ hown (by rw [hml]; rfl) (hv 13 rfl) (hv 14 rfl) (hv 15 rfl) e0 (hb hby d_rme_1) (Nat.le_of_eq rfl) (by decide) (by decide)
  have k21 : Go p e below m W T21 4 #[.val (.ref a1)] [] := k21
  exact k21.return_ X21 hx Bd.returns (hb hby d_rme_4) (BodyLoose.notSynchronized Bd) (by rw [e21]; exact ⟨rfl, N0, rfl⟩) (by decide) (by decide)

theorem d_rms_0 : decode prog_5_method_5_code 0 = .ok (.aload_n 0, 1) := by decide +kernel
theorem d_rms_1 : decode prog_5_method_5_code 1 = .ok (.iconst 1, 1) := by decide +kernel
theorem d_rms_2 : decode prog_5_method_5_code 2 = .ok (.putfield 40, 3) := by decide +kernel
theorem d_rms_5 : decode prog_5_method_5_code 5 = .ok (.aload_n 0, 1) := by decide +kernel
theorem d_rms_6 : decode prog_5_method_5_code 6 = .ok (.aload_n 1, 1) := by decide +kernel
theorem d_rms_7 : decode prog_5_method_5_code 7 = .ok (.putfield 43, 3) := by decide +kernel
theorem d_rms_10 : decode prog_5_method_5_code 10 = .ok (.aload_n 0, 1) := by decide +kernel
theorem d_rms_11 : decode prog_5_method_5_code 11 = .ok (.areturn, 1) := by decide +kernel
theorem pn_rms : plainName "com/example/ikat/ikat/core/LinkEdit" = true := by first | (simp [plainName, overriddenIn]; done) | decide +kernel
theorem ef_rms (m : MethodId) (a1 : Addr) (p2 : Value) (hv_p2 : p2.isRef = true) : entryFrame m #[(.ref a1), p2] 2 = mkF m 0 #[.val (.ref a1), .val p2] [] := by rcases XT.refc hv_p2 with rfl | ⟨_, rfl⟩ <;> first | (simp [entryFrame, mkF, argsToLocals, Value.category]; done) | rfl
def Q_rms (Z : State) (a1 : Addr) (p2 : Value) (u0 : Value) (u1 : Value) (u2 : Value) (u3 : Value) (u4 : Value) (u5 : Value) (h0 : Heap) (n0 : Nat) (v : Option Value) (h : Heap) (L : List Loc) : Prop := v = some (.ref a1) ∧ Fr n0 L ∧ Keep h0 h [a1] ∧ Exa Z h a1 "com/example/ikat/ikat/core/LinkEdit" ∧ Fld Z h a1 "com/example/ikat/ikat/core/LinkEdit" "destination" "Ljava/lang/String;" u0 ∧ Fld Z h a1 "com/example/ikat/ikat/core/LinkEdit" "paused" "Ljava/lang/Boolean;" u1 ∧ Fld Z h a1 "com/example/ikat/ikat/core/LinkEdit" "changesExpiry" "Z" u2 ∧ Fld Z h a1 "com/example/ikat/ikat/core/LinkEdit" "expiresAt" "Ljava/time/Instant;" u3 ∧ Fld Z h a1 "com/example/ikat/ikat/core/LinkEdit" "changesMaxVisits" "Z" (.int (1 : Int32)) ∧ Fld Z h a1 "com/example/ikat/ikat/core/LinkEdit" "maxVisits" "Ljava/lang/Integer;" p2
set_option maxRecDepth 65536 in
set_option maxHeartbeats 40000000 in
theorem rms (l : Launch) (Z : State) (a0 : Array Value) (hw : ∀ d ∈ tables_1, d.before a0 Z = true) (ws : List Jvm.Cond) (a1 : Addr) (p2 : Value) (u0 : Value) (u1 : Value) (u2 : Value) (u3 : Value) (u4 : Value) (u5 : Value) (h0 : Heap) (n0 : Nat) (Z0 : n0 ≤ h0.size) (E1 : Exa Z h0 a1 "com/example/ikat/ikat/core/LinkEdit") (G1 : n0 ≤ a1) (hr2 : p2.isRef = true) (F0 : Fld Z h0 a1 "com/example/ikat/ikat/core/LinkEdit" "destination" "Ljava/lang/String;" u0) (F1 : Fld Z h0 a1 "com/example/ikat/ikat/core/LinkEdit" "paused" "Ljava/lang/Boolean;" u1) (F2 : Fld Z h0 a1 "com/example/ikat/ikat/core/LinkEdit" "changesExpiry" "Z" u2) (F3 : Fld Z h0 a1 "com/example/ikat/ikat/core/LinkEdit" "expiresAt" "Ljava/time/Instant;" u3) (F4 : Fld Z h0 a1 "com/example/ikat/ikat/core/LinkEdit" "changesMaxVisits" "Z" u4) (F5 : Fld Z h0 a1 "com/example/ikat/ikat/core/LinkEdit" "maxVisits" "Ljava/lang/Integer;" u5) :
    MetFree l (⟨"com/example/ikat/ikat/core/LinkEdit", "maxVisits", "(Ljava/lang/Integer;)Lcom/example/ikat/ikat/core/LinkEdit;"⟩ : MethodName) (head1 (Jvm.Cond.code (⟨"com/example/ikat/ikat/core/LinkEdit", "maxVisits", "(Ljava/lang/Integer;)Lcom/example/ikat/ikat/core/LinkEdit;"⟩ : MethodName) prog_5_method_5_code 2 (some (.object "com/example/ikat/ikat/core/LinkEdit")) :: ws) ({ frames := 0, cells := 0, slots := 0, locals := 0 } : Room)) (fun a U => a = #[(.ref a1), p2] ∧ Z.Warmed39 U.vm ∧ U.heap = h0) (fun _ _ _ _ _ => True) (fun _ U o U' => ∃ v L, o = .returned v ∧ Q_rms Z a1 p2 u0 u1 u2 u3 u4 u5 h0 n0 v U'.heap L ∧ FrameEnd U o U' L ({ frames := 0, cells := 0, slots := 0, locals := 0 } : Room).cells ({ frames := 0, cells := 0, slots := 0, locals := 0 } : Room).slots) := by
  refine MetFree.of_bodySF (plainFor_of_name pn_rms) hisR ?_
  intro p e s m args_ below meth c s₁ Bd hml0 hP hK
  obtain ⟨hargs, hZ, hh⟩ := hP
  have hx := Bd.exec
  have hby := Bd.bytes
  have hml : c.maxLocals = 2 := hml0
  have hown : s.vm.findClass "com/example/ikat/ikat/core/LinkEdit" = some m.cls := findClass_of_methodNamed Bd.named
  have hnm := (name_of_methodNamed Bd.named Bd.method).1
  have X0 : Stand p l e ({ frames := 0, cells := 0, slots := 0, locals := 0 } : Room) s m args_ below meth c s₁ [] 0 0 := Stand.of_body Bd
  have e0 : s₁.heap = h0 := by rw [← hh, Bd.state]; rfl
  have N0 := Fr.nil n0
  have hv : ∀ (i : Nat) {d : Jvm.Cond}, tables_1[i]? = some d → d.before a0 Z = true := fun i d q => hw d (List.mem_of_getElem? q)
  have K0 : Keep h0 h0 [a1] := Keep.refl _ _
  have k0 : Go p e below m (s₁.setTop (entryFrame m args_ 2)) s₁ 0 #[.val (.ref a1), .val p2] [] := by rw [hargs]; exact fun t kt => castTop (ef_rms m a1 p2 hr2) kt
  obtain ⟨W, hWW⟩ : ∃ W, W = s₁.setTop (entryFrame m args_ 2) := ⟨_, rfl⟩
  rw [← hWW] at k0 ⊢
  show Done p e below s W (Q_rms Z a1 p2 u0 u1 u2 u3 u4 u5 h0 n0) ({ frames := 0, cells := 0, slots := 0, locals := 0 } : Room).cells ({ frames := 0, cells := 0, slots := 0, locals := 0 } : Room).slots
  have k20 : Go p e below m W s₁ 2 #[.val (.ref a1), .val p2] [(.int (1 : Int32)), (.ref a1)] := (k0.aloadN X0 hx (hb hby d_rms_0) rfl rfl).iconst X0 hx (hb hby d_rms_1) (v := (1 : Int32)) rfl
  obtain ⟨T21, h21, l21, X21, e21, W21, N21, k21⟩ := k20.putF X0 hx hZ hown (host := "") (Or.inl (hv 21 rfl)) Via.refl e0 F4 E1 (Or.inl (hv 22 rfl)) (hv 8 rfl) (ty := .boolean) (by decide) (own_nz (Or.inr rfl)).1 (own_nz (Or.inr rfl)).2.1 N0 G1 (hb hby d_rms_2)
  have k21 : Go p e below m W T21 5 #[.val (.ref a1), .val p2] [] := k21
  have Z21 : n0 ≤ h21.size := (Wr.size W21).symm ▸ Z0
  have f22 := E1.wr W21
  have f23 := F0.other W21 (Or.inr (slot_ne (Or.inl (hv 52 rfl)) (Or.inl (hv 22 rfl)) (by decide) (by decide : parseFieldDescriptor "Ljava/lang/String;" = some (.object "java/lang/String")) (by decide : parseFieldDescriptor "Z" = some .boolean)))
  have f24 := F1.other W21 (Or.inr (slot_ne (Or.inl (hv 59 rfl)) (Or.inl (hv 22 rfl)) (by decide) (by decide : parseFieldDescriptor "Ljava/lang/Boolean;" = some (.object "java/lang/Boolean")) (by decide : parseFieldDescriptor "Z" = some .boolean)))
  have f25 := F2.other W21 (Or.inr (slot_ne (Or.inl (hv 66 rfl)) (Or.inl (hv 22 rfl)) (by decide) (by decide : parseFieldDescriptor "Z" = some .boolean) (by decide : parseFieldDescriptor "Z" = some .boolean)))
  have f26 := F3.other W21 (Or.inr (slot_ne (Or.inl (hv 73 rfl)) (Or.inl (hv 22 rfl)) (by decide) (by decide : parseFieldDescriptor "Ljava/time/Instant;" = some (.object "java/time/Instant")) (by decide : parseFieldDescriptor "Z" = some .boolean)))
  have f27 := F4.same W21
  have f28 := F5.other W21 (Or.inr (slot_ne (Or.inl (hv 24 rfl)) (Or.inl (hv 22 rfl)) (by decide) (by decide : parseFieldDescriptor "Ljava/lang/Integer;" = some (.object "java/lang/Integer")) (by decide : parseFieldDescriptor "Z" = some .boolean)))
  have K21 : Keep h0 h21 [a1] := K0.wr W21 (Or.inl (List.mem_of_getElem? (i := 0) rfl))
  have k29 : Go p e below m W T21 7 #[.val (.ref a1), .val p2] [p2, (.ref a1)] := (k21.aloadN X21 hx (hb hby d_rms_5) rfl rfl).aloadN X21 hx (hb hby d_rms_6) rfl hr2
  obtain ⟨T30, h30, l30, X30, e30, W30, N30, k30⟩ := k29.putF X21 hx hZ hown (host := "") (Or.inl (hv 23 rfl)) Via.refl e21 f28 f22 (Or.inl (hv 24 rfl)) (hv 8 rfl) (ty := (.object "java/lang/Integer")) (by decide) (own_nref hr2) (own_fref hr2) N21 G1 (hb hby d_rms_7)
  have k30 : Go p e below m W T30 10 #[.val (.ref a1), .val p2] [] := k30
  have Z30 : n0 ≤ h30.size := (Wr.size W30).symm ▸ Z21
  have f31 := f22.wr W30
  have f32 := f23.other W30 (Or.inr (slot_ne (Or.inl (hv 52 rfl)) (Or.inl (hv 24 rfl)) (by decide) (by decide : parseFieldDescriptor "Ljava/lang/String;" = some (.object "java/lang/String")) (by decide : parseFieldDescriptor "Ljava/lang/Integer;" = some (.object "java/lang/Integer"))))
  have f33 := f24.other W30 (Or.inr (slot_ne (Or.inl (hv 59 rfl)) (Or.inl (hv 24 rfl)) (by decide) (by decide : parseFieldDescriptor "Ljava/lang/Boolean;" = some (.object "java/lang/Boolean")) (by decide : parseFieldDescriptor "Ljava/lang/Integer;" = some (.object "java/lang/Integer"))))
  have f34 := f25.other W30 (Or.inr (slot_ne (Or.inl (hv 66 rfl)) (Or.inl (hv 24 rfl)) (by decide) (by decide : parseFieldDescriptor "Z" = some .boolean) (by decide : parseFieldDescriptor "Ljava/lang/Integer;" = some (.object "java/lang/Integer"))))
  have f35 := f26.other W30 (Or.inr (slot_ne (Or.inl (hv 73 rfl)) (Or.inl (hv 24 rfl)) (by decide) (by decide : parseFieldDescriptor "Ljava/time/Instant;" = some (.object "java/time/Instant")) (by decide : parseFieldDescriptor "Ljava/lang/Integer;" = some (.object "java/lang/Integer"))))
  have f36 := f27.other W30 (Or.inr (slot_ne (Or.inl (hv 22 rfl)) (Or.inl (hv 24 rfl)) (by decide) (by decide : parseFieldDescriptor "Z" = some .boolean) (by decide : parseFieldDescriptor "Ljava/lang/Integer;" = some (.object "java/lang/Integer"))))
  have f37 := f28.same W30
  have K30 : Keep h0 h30 [a1] := K21.wr W30 (Or.inl (List.mem_of_getElem? (i := 0) rfl))
  have k38 : Go p e below m W T30 11 #[.val (.ref a1), .val p2] [(.ref a1)] := k30.aloadN X30 hx (hb hby d_rms_10) rfl rfl
  exact k38.areturn X30 hx Bd.returns rfl rfl (hb hby d_rms_11) (BodyLoose.notSynchronized Bd) (by rw [e30]; exact ⟨rfl, N30, K30, f31, f32, f33, f34, f35, f36, f37⟩) (by decide) (by decide)

theorem d_rmx_0 : decode prog_5_method_4_code 0 = .ok (.aload_n 0, 1) := by decide +kernel
theorem d_rmx_1 : decode prog_5_method_4_code 1 = .ok (.iconst 1, 1) := by decide +kernel
theorem d_rmx_2 : decode prog_5_method_4_code 2 = .ok (.putfield 32, 3) := by decide +kernel
theorem d_rmx_5 : decode prog_5_method_4_code 5 = .ok (.aload_n 0, 1) := by decide +kernel
theorem d_rmx_6 : decode prog_5_method_4_code 6 = .ok (.aload_n 1, 1) := by decide +kernel
theorem d_rmx_7 : decode prog_5_method_4_code 7 = .ok (.putfield 36, 3) := by decide +kernel
theorem d_rmx_10 : decode prog_5_method_4_code 10 = .ok (.aload_n 0, 1) := by decide +kernel
theorem d_rmx_11 : decode prog_5_method_4_code 11 = .ok (.areturn, 1) := by decide +kernel
theorem pn_rmx : plainName "com/example/ikat/ikat/core/LinkEdit" = true := by first | (simp [plainName, overriddenIn]; done) | decide +kernel
theorem ef_rmx (m : MethodId) (a1 : Addr) (p2 : Value) (hv_p2 : p2.isRef = true) : entryFrame m #[(.ref a1), p2] 2 = mkF m 0 #[.val (.ref a1), .val p2] [] := by rcases XT.refc hv_p2 with rfl | ⟨_, rfl⟩ <;> first | (simp [entryFrame, mkF, argsToLocals, Value.category]; done) | rfl
def Q_rmx (Z : State) (a1 : Addr) (p2 : Value) (u0 : Value) (u1 : Value) (u2 : Value) (u3 : Value) (u4 : Value) (u5 : Value) (h0 : Heap) (n0 : Nat) (v : Option Value) (h : Heap) (L : List Loc) : Prop := v = some (.ref a1) ∧ Fr n0 L ∧ Keep h0 h [a1] ∧ Exa Z h a1 "com/example/ikat/ikat/core/LinkEdit" ∧ Fld Z h a1 "com/example/ikat/ikat/core/LinkEdit" "destination" "Ljava/lang/String;" u0 ∧ Fld Z h a1 "com/example/ikat/ikat/core/LinkEdit" "paused" "Ljava/lang/Boolean;" u1 ∧ Fld Z h a1 "com/example/ikat/ikat/core/LinkEdit" "changesExpiry" "Z" (.int (1 : Int32)) ∧ Fld Z h a1 "com/example/ikat/ikat/core/LinkEdit" "expiresAt" "Ljava/time/Instant;" p2 ∧ Fld Z h a1 "com/example/ikat/ikat/core/LinkEdit" "changesMaxVisits" "Z" u4 ∧ Fld Z h a1 "com/example/ikat/ikat/core/LinkEdit" "maxVisits" "Ljava/lang/Integer;" u5
set_option maxRecDepth 65536 in
set_option maxHeartbeats 40000000 in
theorem rmx (l : Launch) (Z : State) (a0 : Array Value) (hw : ∀ d ∈ tables_1, d.before a0 Z = true) (ws : List Jvm.Cond) (a1 : Addr) (p2 : Value) (u0 : Value) (u1 : Value) (u2 : Value) (u3 : Value) (u4 : Value) (u5 : Value) (h0 : Heap) (n0 : Nat) (Z0 : n0 ≤ h0.size) (E1 : Exa Z h0 a1 "com/example/ikat/ikat/core/LinkEdit") (G1 : n0 ≤ a1) (hr2 : p2.isRef = true) (F0 : Fld Z h0 a1 "com/example/ikat/ikat/core/LinkEdit" "destination" "Ljava/lang/String;" u0) (F1 : Fld Z h0 a1 "com/example/ikat/ikat/core/LinkEdit" "paused" "Ljava/lang/Boolean;" u1) (F2 : Fld Z h0 a1 "com/example/ikat/ikat/core/LinkEdit" "changesExpiry" "Z" u2) (F3 : Fld Z h0 a1 "com/example/ikat/ikat/core/LinkEdit" "expiresAt" "Ljava/time/Instant;" u3) (F4 : Fld Z h0 a1 "com/example/ikat/ikat/core/LinkEdit" "changesMaxVisits" "Z" u4) (F5 : Fld Z h0 a1 "com/example/ikat/ikat/core/LinkEdit" "maxVisits" "Ljava/lang/Integer;" u5) :
    MetFree l (⟨"com/example/ikat/ikat/core/LinkEdit", "expiresAt", "(Ljava/time/Instant;)Lcom/example/ikat/ikat/core/LinkEdit;"⟩ : MethodName) (head1 (Jvm.Cond.code (⟨"com/example/ikat/ikat/core/LinkEdit", "expiresAt", "(Ljava/time/Instant;)Lcom/example/ikat/ikat/core/LinkEdit;"⟩ : MethodName) prog_5_method_4_code 2 (some (.object "com/example/ikat/ikat/core/LinkEdit")) :: ws) ({ frames := 0, cells := 0, slots := 0, locals := 0 } : Room)) (fun a U => a = #[(.ref a1), p2] ∧ Z.Warmed39 U.vm ∧ U.heap = h0) (fun _ _ _ _ _ => True) (fun _ U o U' => ∃ v L, o = .returned v ∧ Q_rmx Z a1 p2 u0 u1 u2 u3 u4 u5 h0 n0 v U'.heap L ∧ FrameEnd U o U' L ({ frames := 0, cells := 0, slots := 0, locals := 0 } : Room).cells ({ frames := 0, cells := 0, slots := 0, locals := 0 } : Room).slots) := by
  refine MetFree.of_bodySF (plainFor_of_name pn_rmx) hisR ?_
  intro p e s m args_ below meth c s₁ Bd hml0 hP hK
  obtain ⟨hargs, hZ, hh⟩ := hP
  have hx := Bd.exec
  have hby := Bd.bytes
  have hml : c.maxLocals = 2 := hml0
  have hown : s.vm.findClass "com/example/ikat/ikat/core/LinkEdit" = some m.cls := findClass_of_methodNamed Bd.named
  have hnm := (name_of_methodNamed Bd.named Bd.method).1
  have X0 : Stand p l e ({ frames := 0, cells := 0, slots := 0, locals := 0 } : Room) s m args_ below meth c s₁ [] 0 0 := Stand.of_body Bd
  have e0 : s₁.heap = h0 := by rw [← hh, Bd.state]; rfl
  have N0 := Fr.nil n0
  have hv : ∀ (i : Nat) {d : Jvm.Cond}, tables_1[i]? = some d → d.before a0 Z = true := fun i d q => hw d (List.mem_of_getElem? q)
  have K0 : Keep h0 h0 [a1] := Keep.refl _ _
  have k0 : Go p e below m (s₁.setTop (entryFrame m args_ 2)) s₁ 0 #[.val (.ref a1), .val p2] [] := by rw [hargs]; exact fun t kt => castTop (ef_rmx m a1 p2 hr2) kt
  obtain ⟨W, hWW⟩ : ∃ W, W = s₁.setTop (entryFrame m args_ 2) := ⟨_, rfl⟩
  rw [← hWW] at k0 ⊢
  show Done p e below s W (Q_rmx Z a1 p2 u0 u1 u2 u3 u4 u5 h0 n0) ({ frames := 0, cells := 0, slots := 0, locals := 0 } : Room).cells ({ frames := 0, cells := 0, slots := 0, locals := 0 } : Room).slots
  have k20 : Go p e below m W s₁ 2 #[.val (.ref a1), .val p2] [(.int (1 : Int32)), (.ref a1)] := (k0.aloadN X0 hx (hb hby d_rmx_0) rfl rfl).iconst X0 hx (hb hby d_rmx_1) (v := (1 : Int32)) rfl
  obtain ⟨T21, h21, l21, X21, e21, W21, N21, k21⟩ := k20.putF X0 hx hZ hown (host := "") (Or.inl (hv 65 rfl)) Via.refl e0 F2 E1 (Or.inl (hv 66 rfl)) (hv 8 rfl) (ty := .boolean) (by decide) (own_nz (Or.inr rfl)).1 (own_nz (Or.inr rfl)).2.1 N0 G1 (hb hby d_rmx_2)
  have k21 : Go p e below m W T21 5 #[.val (.ref a1), .val p2] [] := k21
  have Z21 : n0 ≤ h21.size := (Wr.size W21).symm ▸ Z0
  have f22 := E1.wr W21
  have f23 := F0.other W21 (Or.inr (slot_ne (Or.inl (hv 52 rfl)) (Or.inl (hv 66 rfl)) (by decide) (by decide : parseFieldDescriptor "Ljava/lang/String;" = some (.object "java/lang/String")) (by decide : parseFieldDescriptor "Z" = some .boolean)))
  have f24 := F1.other W21 (Or.inr (slot_ne (Or.inl (hv 59 rfl)) (Or.inl (hv 66 rfl)) (by decide) (by decide : parseFieldDescriptor "Ljava/lang/Boolean;" = some (.object "java/lang/Boolean")) (by decide : parseFieldDescriptor "Z" = some .boolean)))
  have f25 := F2.same W21
  have f26 := F3.other W21 (Or.inr (slot_ne (Or.inl (hv 73 rfl)) (Or.inl (hv 66 rfl)) (by decide) (by decide : parseFieldDescriptor "Ljava/time/Instant;" = some (.object "java/time/Instant")) (by decide : parseFieldDescriptor "Z" = some .boolean)))
  have f27 := F4.other W21 (Or.inr (slot_ne (Or.inl (hv 22 rfl)) (Or.inl (hv 66 rfl)) (by decide) (by decide : parseFieldDescriptor "Z" = some .boolean) (by decide : parseFieldDescriptor "Z" = some .boolean)))
  have f28 := F5.other W21 (Or.inr (slot_ne (Or.inl (hv 24 rfl)) (Or.inl (hv 66 rfl)) (by decide) (by decide : parseFieldDescriptor "Ljava/lang/Integer;" = some (.object "java/lang/Integer")) (by decide : parseFieldDescriptor "Z" = some .boolean)))
  have K21 : Keep h0 h21 [a1] := K0.wr W21 (Or.inl (List.mem_of_getElem? (i := 0) rfl))
  have k29 : Go p e below m W T21 7 #[.val (.ref a1), .val p2] [p2, (.ref a1)] := (k21.aloadN X21 hx (hb hby d_rmx_5) rfl rfl).aloadN X21 hx (hb hby d_rmx_6) rfl hr2
  obtain ⟨T30, h30, l30, X30, e30, W30, N30, k30⟩ := k29.putF X21 hx hZ hown (host := "") (Or.inl (hv 72 rfl)) Via.refl e21 f26 f22 (Or.inl (hv 73 rfl)) (hv 8 rfl) (ty := (.object "java/time/Instant")) (by decide) (own_nref hr2) (own_fref hr2) N21 G1 (hb hby d_rmx_7)
  have k30 : Go p e below m W T30 10 #[.val (.ref a1), .val p2] [] := k30
  have Z30 : n0 ≤ h30.size := (Wr.size W30).symm ▸ Z21
  have f31 := f22.wr W30
  have f32 := f23.other W30 (Or.inr (slot_ne (Or.inl (hv 52 rfl)) (Or.inl (hv 73 rfl)) (by decide) (by decide : parseFieldDescriptor "Ljava/lang/String;" = some (.object "java/lang/String")) (by decide : parseFieldDescriptor "Ljava/time/Instant;" = some (.object "java/time/Instant"))))
  have f33 := f24.other W30 (Or.inr (slot_ne (Or.inl (hv 59 rfl)) (Or.inl (hv 73 rfl)) (by decide) (by decide : parseFieldDescriptor "Ljava/lang/Boolean;" = some (.object "java/lang/Boolean")) (by decide : parseFieldDescriptor "Ljava/time/Instant;" = some (.object "java/time/Instant"))))
  have f34 := f25.other W30 (Or.inr (slot_ne (Or.inl (hv 66 rfl)) (Or.inl (hv 73 rfl)) (by decide) (by decide : parseFieldDescriptor "Z" = some .boolean) (by decide : parseFieldDescriptor "Ljava/time/Instant;" = some (.object "java/time/Instant"))))
  have f35 := f26.same W30
  have f36 := f27.other W30 (Or.inr (slot_ne (Or.inl (hv 22 rfl)) (Or.inl (hv 73 rfl)) (by decide) (by decide : parseFieldDescriptor "Z" = some .boolean) (by decide : parseFieldDescriptor "Ljava/time/Instant;" = some (.object "java/time/Instant"))))
  have f37 := f28.other W30 (Or.inr (slot_ne (Or.inl (hv 24 rfl)) (Or.inl (hv 73 rfl)) (by decide) (by decide : parseFieldDescriptor "Ljava/lang/Integer;" = some (.object "java/lang/Integer")) (by decide : parseFieldDescriptor "Ljava/time/Instant;" = some (.object "java/time/Instant"))))
  have K30 : Keep h0 h30 [a1] := K21.wr W30 (Or.inl (List.mem_of_getElem? (i := 0) rfl))
  have k38 : Go p e below m W T30 11 #[.val (.ref a1), .val p2] [(.ref a1)] := k30.aloadN X30 hx (hb hby d_rmx_10) rfl rfl
  exact k38.areturn X30 hx Bd.returns rfl rfl (hb hby d_rmx_11) (BodyLoose.notSynchronized Bd) (by rw [e30]; exact ⟨rfl, N30, K30, f31, f32, f33, f34, f35, f36, f37⟩) (by decide) (by decide)

theorem d_rmg0_0 : decode prog_5_method_6_code 0 = .ok (.aload_n 0, 1) := by decide +kernel
theorem d_rmg0_1 : decode prog_5_method_6_code 1 = .ok (.getfield 17, 3) := by decide +kernel
theorem d_rmg0_4 : decode prog_5_method_6_code 4 = .ok (.areturn, 1) := by decide +kernel
theorem pn_rmg0 : plainName "com/example/ikat/ikat/core/LinkEdit" = true := by first | (simp [plainName, overriddenIn]; done) | decide +kernel
theorem ef_rmg0 (m : MethodId) (a1 : Addr) : entryFrame m #[(.ref a1)] 1 = mkF m 0 #[.val (.ref a1)] [] := by first | (simp [entryFrame, mkF, argsToLocals, Value.category]; done) | rfl
def Q_rmg0 (Z : State) (a1 : Addr) (p2 : Value) (h0 : Heap) (n0 : Nat) (v : Option Value) (h : Heap) (L : List Loc) : Prop := v = some p2 ∧ Fr n0 L ∧ h = h0
set_option maxRecDepth 65536 in
set_option maxHeartbeats 40000000 in
theorem rmg0 (l : Launch) (Z : State) (a0 : Array Value) (hw : ∀ d ∈ tables_1, d.before a0 Z = true) (ws : List Jvm.Cond) (a1 : Addr) (p2 : Value) (h0 : Heap) (n0 : Nat) (Z0 : n0 ≤ h0.size) (hr2 : p2.isRef = true) (F1 : Fld Z h0 a1 "com/example/ikat/ikat/core/LinkEdit" "destination" "Ljava/lang/String;" p2) :
    MetFree l (⟨"com/example/ikat/ikat/core/LinkEdit", "destination", "()Ljava/lang/String;"⟩ : MethodName) (head1 (Jvm.Cond.code (⟨"com/example/ikat/ikat/core/LinkEdit", "destination", "()Ljava/lang/String;"⟩ : MethodName) prog_5_method_6_code 1 (some (.object "java/lang/String")) :: ws) ({ frames := 0, cells := 0, slots := 0, locals := 0 } : Room)) (fun a U => a = #[(.ref a1)] ∧ Z.Warmed39 U.vm ∧ U.heap = h0) (fun _ _ _ _ _ => True) (fun _ U o U' => ∃ v L, o = .returned v ∧ Q_rmg0 Z a1 p2 h0 n0 v U'.heap L ∧ FrameEnd U o U' L ({ frames := 0, cells := 0, slots := 0, locals := 0 } : Room).cells ({ frames := 0, cells := 0, slots := 0, locals := 0 } : Room).slots) := by
  refine MetFree.of_bodySF (plainFor_of_name pn_rmg0) hisR ?_
  intro p e s m args_ below meth c s₁ Bd hml0 hP hK
  obtain ⟨hargs, hZ, hh⟩ := hP
  have hx := Bd.exec
  have hby := Bd.bytes
  have hml : c.maxLocals = 1 := hml0
  have hown : s.vm.findClass "com/example/ikat/ikat/core/LinkEdit" = some m.cls := findClass_of_methodNamed Bd.named
  have hnm := (name_of_methodNamed Bd.named Bd.method).1
  have X0 : Stand p l e ({ frames := 0, cells := 0, slots := 0, locals := 0 } : Room) s m args_ below meth c s₁ [] 0 0 := Stand.of_body Bd
  have e0 : s₁.heap = h0 := by rw [← hh, Bd.state]; rfl
  have N0 := Fr.nil n0
  have hv : ∀ (i : Nat) {d : Jvm.Cond}, tables_1[i]? = some d → d.before a0 Z = true := fun i d q => hw d (List.mem_of_getElem? q)
  have k0 : Go p e below m (s₁.setTop (entryFrame m args_ 1)) s₁ 0 #[.val (.ref a1)] [] := by rw [hargs]; exact fun t kt => castTop (ef_rmg0 m a1) kt
  obtain ⟨W, hWW⟩ : ∃ W, W = s₁.setTop (entryFrame m args_ 1) := ⟨_, rfl⟩
  rw [← hWW] at k0 ⊢
  show Done p e below s W (Q_rmg0 Z a1 p2 h0 n0) ({ frames := 0, cells := 0, slots := 0, locals := 0 } : Room).cells ({ frames := 0, cells := 0, slots := 0, locals := 0 } : Room).slots
  have k20 : Go p e below m W s₁ 1 #[.val (.ref a1)] [(.ref a1)] := k0.aloadN X0 hx (hb hby d_rmg0_0) rfl rfl
  obtain ⟨T21, X21, e21, k21⟩ := k20.getF X0 hx hZ hown (host := "") (Or.inl (hv 51 rfl)) Via.refl e0 F1 (hb hby d_rmg0_1)
  have k21 : Go p e below m W T21 4 #[.val (.ref a1)] [p2] := k21
  exact k21.areturn X21 hx Bd.returns rfl hr2 (hb hby d_rmg0_4) (BodyLoose.notSynchronized Bd) (by rw [e21]; exact ⟨rfl, N0, rfl⟩) (by decide) (by decide)

theorem d_rmg1_0 : decode prog_5_method_7_code 0 = .ok (.aload_n 0, 1) := by decide +kernel
theorem d_rmg1_1 : decode prog_5_method_7_code 1 = .ok (.getfield 28, 3) := by decide +kernel
theorem d_rmg1_4 : decode prog_5_method_7_code 4 = .ok (.areturn, 1) := by decide +kernel
theorem pn_rmg1 : plainName "com/example/ikat/ikat/core/LinkEdit" = true := by first | (simp [plainName, overriddenIn]; done) | decide +kernel
theorem ef_rmg1 (m : MethodId) (a1 : Addr) : entryFrame m #[(.ref a1)] 1 = mkF m 0 #[.val (.ref a1)] [] := by first | (simp [entryFrame, mkF, argsToLocals, Value.category]; done) | rfl
def Q_rmg1 (Z : State) (a1 : Addr) (p2 : Value) (h0 : Heap) (n0 : Nat) (v : Option Value) (h : Heap) (L : List Loc) : Prop := v = some p2 ∧ Fr n0 L ∧ h = h0
set_option maxRecDepth 65536 in
set_option maxHeartbeats 40000000 in
theorem rmg1 (l : Launch) (Z : State) (a0 : Array Value) (hw : ∀ d ∈ tables_1, d.before a0 Z = true) (ws : List Jvm.Cond) (a1 : Addr) (p2 : Value) (h0 : Heap) (n0 : Nat) (Z0 : n0 ≤ h0.size) (hr2 : p2.isRef = true) (F1 : Fld Z h0 a1 "com/example/ikat/ikat/core/LinkEdit" "paused" "Ljava/lang/Boolean;" p2) :
    MetFree l (⟨"com/example/ikat/ikat/core/LinkEdit", "paused", "()Ljava/lang/Boolean;"⟩ : MethodName) (head1 (Jvm.Cond.code (⟨"com/example/ikat/ikat/core/LinkEdit", "paused", "()Ljava/lang/Boolean;"⟩ : MethodName) prog_5_method_7_code 1 (some (.object "java/lang/Boolean")) :: ws) ({ frames := 0, cells := 0, slots := 0, locals := 0 } : Room)) (fun a U => a = #[(.ref a1)] ∧ Z.Warmed39 U.vm ∧ U.heap = h0) (fun _ _ _ _ _ => True) (fun _ U o U' => ∃ v L, o = .returned v ∧ Q_rmg1 Z a1 p2 h0 n0 v U'.heap L ∧ FrameEnd U o U' L ({ frames := 0, cells := 0, slots := 0, locals := 0 } : Room).cells ({ frames := 0, cells := 0, slots := 0, locals := 0 } : Room).slots) := by
  refine MetFree.of_bodySF (plainFor_of_name pn_rmg1) hisR ?_
  intro p e s m args_ below meth c s₁ Bd hml0 hP hK
  obtain ⟨hargs, hZ, hh⟩ := hP
  have hx := Bd.exec
  have hby := Bd.bytes
  have hml : c.maxLocals = 1 := hml0
  have hown : s.vm.findClass "com/example/ikat/ikat/core/LinkEdit" = some m.cls := findClass_of_methodNamed Bd.named
  have hnm := (name_of_methodNamed Bd.named Bd.method).1
  have X0 : Stand p l e ({ frames := 0, cells := 0, slots := 0, locals := 0 } : Room) s m args_ below meth c s₁ [] 0 0 := Stand.of_body Bd
  have e0 : s₁.heap = h0 := by rw [← hh, Bd.state]; rfl
  have N0 := Fr.nil n0
  have hv : ∀ (i : Nat) {d : Jvm.Cond}, tables_1[i]? = some d → d.before a0 Z = true := fun i d q => hw d (List.mem_of_getElem? q)
  have k0 : Go p e below m (s₁.setTop (entryFrame m args_ 1)) s₁ 0 #[.val (.ref a1)] [] := by rw [hargs]; exact fun t kt => castTop (ef_rmg1 m a1) kt
  obtain ⟨W, hWW⟩ : ∃ W, W = s₁.setTop (entryFrame m args_ 1) := ⟨_, rfl⟩
  rw [← hWW] at k0 ⊢
  show Done p e below s W (Q_rmg1 Z a1 p2 h0 n0) ({ frames := 0, cells := 0, slots := 0, locals := 0 } : Room).cells ({ frames := 0, cells := 0, slots := 0, locals := 0 } : Room).slots
  have k20 : Go p e below m W s₁ 1 #[.val (.ref a1)] [(.ref a1)] := k0.aloadN X0 hx (hb hby d_rmg1_0) rfl rfl
  obtain ⟨T21, X21, e21, k21⟩ := k20.getF X0 hx hZ hown (host := "") (Or.inl (hv 58 rfl)) Via.refl e0 F1 (hb hby d_rmg1_1)
  have k21 : Go p e below m W T21 4 #[.val (.ref a1)] [p2] := k21
  exact k21.areturn X21 hx Bd.returns rfl hr2 (hb hby d_rmg1_4) (BodyLoose.notSynchronized Bd) (by rw [e21]; exact ⟨rfl, N0, rfl⟩) (by decide) (by decide)

theorem d_rmg2_0 : decode prog_5_method_8_code 0 = .ok (.aload_n 0, 1) := by decide +kernel
theorem d_rmg2_1 : decode prog_5_method_8_code 1 = .ok (.getfield 32, 3) := by decide +kernel
theorem d_rmg2_4 : decode prog_5_method_8_code 4 = .ok (.ireturn, 1) := by decide +kernel
theorem pn_rmg2 : plainName "com/example/ikat/ikat/core/LinkEdit" = true := by first | (simp [plainName, overriddenIn]; done) | decide +kernel
theorem ef_rmg2 (m : MethodId) (a1 : Addr) : entryFrame m #[(.ref a1)] 1 = mkF m 0 #[.val (.ref a1)] [] := by first | (simp [entryFrame, mkF, argsToLocals, Value.category]; done) | rfl
def Q_rmg2 (Z : State) (a1 : Addr) (w2 : Int32) (h0 : Heap) (n0 : Nat) (v : Option Value) (h : Heap) (L : List Loc) : Prop := v = some (.int w2) ∧ Fr n0 L ∧ h = h0
set_option maxRecDepth 65536 in
set_option maxHeartbeats 40000000 in
theorem rmg2 (l : Launch) (Z : State) (a0 : Array Value) (hw : ∀ d ∈ tables_1, d.before a0 Z = true) (ws : List Jvm.Cond) (a1 : Addr) (w2 : Int32) (h0 : Heap) (n0 : Nat) (Z0 : n0 ≤ h0.size) (B2 : w2 = 0 ∨ w2 = 1) (F1 : Fld Z h0 a1 "com/example/ikat/ikat/core/LinkEdit" "changesExpiry" "Z" (.int w2)) :
    MetFree l (⟨"com/example/ikat/ikat/core/LinkEdit", "changesExpiry", "()Z"⟩ : MethodName) (head1 (Jvm.Cond.code (⟨"com/example/ikat/ikat/core/LinkEdit", "changesExpiry", "()Z"⟩ : MethodName) prog_5_method_8_code 1 (some .boolean) :: ws) ({ frames := 0, cells := 0, slots := 0, locals := 0 } : Room)) (fun a U => a = #[(.ref a1)] ∧ Z.Warmed39 U.vm ∧ U.heap = h0) (fun _ _ _ _ _ => True) (fun _ U o U' => ∃ v L, o = .returned v ∧ Q_rmg2 Z a1 w2 h0 n0 v U'.heap L ∧ FrameEnd U o U' L ({ frames := 0, cells := 0, slots := 0, locals := 0 } : Room).cells ({ frames := 0, cells := 0, slots := 0, locals := 0 } : Room).slots) := by
  refine MetFree.of_bodySF (plainFor_of_name pn_rmg2) hisR ?_
  intro p e s m args_ below meth c s₁ Bd hml0 hP hK
  obtain ⟨hargs, hZ, hh⟩ := hP
  have hx := Bd.exec
  have hby := Bd.bytes
  have hml : c.maxLocals = 1 := hml0
  have hown : s.vm.findClass "com/example/ikat/ikat/core/LinkEdit" = some m.cls := findClass_of_methodNamed Bd.named
  have hnm := (name_of_methodNamed Bd.named Bd.method).1
  have X0 : Stand p l e ({ frames := 0, cells := 0, slots := 0, locals := 0 } : Room) s m args_ below meth c s₁ [] 0 0 := Stand.of_body Bd
  have e0 : s₁.heap = h0 := by rw [← hh, Bd.state]; rfl
  have N0 := Fr.nil n0
  have hv : ∀ (i : Nat) {d : Jvm.Cond}, tables_1[i]? = some d → d.before a0 Z = true := fun i d q => hw d (List.mem_of_getElem? q)
  have k0 : Go p e below m (s₁.setTop (entryFrame m args_ 1)) s₁ 0 #[.val (.ref a1)] [] := by rw [hargs]; exact fun t kt => castTop (ef_rmg2 m a1) kt
  obtain ⟨W, hWW⟩ : ∃ W, W = s₁.setTop (entryFrame m args_ 1) := ⟨_, rfl⟩
  rw [← hWW] at k0 ⊢
  show Done p e below s W (Q_rmg2 Z a1 w2 h0 n0) ({ frames := 0, cells := 0, slots := 0, locals := 0 } : Room).cells ({ frames := 0, cells := 0, slots := 0, locals := 0 } : Room).slots
  have k20 : Go p e below m W s₁ 1 #[.val (.ref a1)] [(.ref a1)] := k0.aloadN X0 hx (hb hby d_rmg2_0) rfl rfl
  obtain ⟨T21, X21, e21, k21⟩ := k20.getF X0 hx hZ hown (host := "") (Or.inl (hv 65 rfl)) Via.refl e0 F1 (hb hby d_rmg2_1)
  have k21 : Go p e below m W T21 4 #[.val (.ref a1)] [(.int w2)] := k21
  exact k21.ireturnN X21 hx (t := .boolean) Bd.returns (by simp) (own_nz B2).2.2 (hb hby d_rmg2_4) (BodyLoose.notSynchronized Bd) (by rw [e21]; exact ⟨rfl, N0, rfl⟩) (by decide) (by decide)

theorem d_rmg3_0 : decode prog_5_method_9_code 0 = .ok (.aload_n 0, 1) := by decide +kernel
theorem d_rmg3_1 : decode prog_5_method_9_code 1 = .ok (.getfield 36, 3) := by decide +kernel
theorem d_rmg3_4 : decode prog_5_method_9_code 4 = .ok (.areturn, 1) := by decide +kernel
theorem pn_rmg3 : plainName "com/example/ikat/ikat/core/LinkEdit" = true := by first | (simp [plainName, overriddenIn]; done) | decide +kernel
theorem ef_rmg3 (m : MethodId) (a1 : Addr) : entryFrame m #[(.ref a1)] 1 = mkF m 0 #[.val (.ref a1)] [] := by first | (simp [entryFrame, mkF, argsToLocals, Value.category]; done) | rfl
def Q_rmg3 (Z : State) (a1 : Addr) (p2 : Value) (h0 : Heap) (n0 : Nat) (v : Option Value) (h : Heap) (L : List Loc) : Prop := v = some p2 ∧ Fr n0 L ∧ h = h0
set_option maxRecDepth 65536 in
set_option maxHeartbeats 40000000 in
theorem rmg3 (l : Launch) (Z : State) (a0 : Array Value) (hw : ∀ d ∈ tables_1, d.before a0 Z = true) (ws : List Jvm.Cond) (a1 : Addr) (p2 : Value) (h0 : Heap) (n0 : Nat) (Z0 : n0 ≤ h0.size) (hr2 : p2.isRef = true) (F1 : Fld Z h0 a1 "com/example/ikat/ikat/core/LinkEdit" "expiresAt" "Ljava/time/Instant;" p2) :
    MetFree l (⟨"com/example/ikat/ikat/core/LinkEdit", "expiresAt", "()Ljava/time/Instant;"⟩ : MethodName) (head1 (Jvm.Cond.code (⟨"com/example/ikat/ikat/core/LinkEdit", "expiresAt", "()Ljava/time/Instant;"⟩ : MethodName) prog_5_method_9_code 1 (some (.object "java/time/Instant")) :: ws) ({ frames := 0, cells := 0, slots := 0, locals := 0 } : Room)) (fun a U => a = #[(.ref a1)] ∧ Z.Warmed39 U.vm ∧ U.heap = h0) (fun _ _ _ _ _ => True) (fun _ U o U' => ∃ v L, o = .returned v ∧ Q_rmg3 Z a1 p2 h0 n0 v U'.heap L ∧ FrameEnd U o U' L ({ frames := 0, cells := 0, slots := 0, locals := 0 } : Room).cells ({ frames := 0, cells := 0, slots := 0, locals := 0 } : Room).slots) := by
  refine MetFree.of_bodySF (plainFor_of_name pn_rmg3) hisR ?_
  intro p e s m args_ below meth c s₁ Bd hml0 hP hK
  obtain ⟨hargs, hZ, hh⟩ := hP
  have hx := Bd.exec
  have hby := Bd.bytes
  have hml : c.maxLocals = 1 := hml0
  have hown : s.vm.findClass "com/example/ikat/ikat/core/LinkEdit" = some m.cls := findClass_of_methodNamed Bd.named
  have hnm := (name_of_methodNamed Bd.named Bd.method).1
  have X0 : Stand p l e ({ frames := 0, cells := 0, slots := 0, locals := 0 } : Room) s m args_ below meth c s₁ [] 0 0 := Stand.of_body Bd
  have e0 : s₁.heap = h0 := by rw [← hh, Bd.state]; rfl
  have N0 := Fr.nil n0
  have hv : ∀ (i : Nat) {d : Jvm.Cond}, tables_1[i]? = some d → d.before a0 Z = true := fun i d q => hw d (List.mem_of_getElem? q)
  have k0 : Go p e below m (s₁.setTop (entryFrame m args_ 1)) s₁ 0 #[.val (.ref a1)] [] := by rw [hargs]; exact fun t kt => castTop (ef_rmg3 m a1) kt
  obtain ⟨W, hWW⟩ : ∃ W, W = s₁.setTop (entryFrame m args_ 1) := ⟨_, rfl⟩
  rw [← hWW] at k0 ⊢
  show Done p e below s W (Q_rmg3 Z a1 p2 h0 n0) ({ frames := 0, cells := 0, slots := 0, locals := 0 } : Room).cells ({ frames := 0, cells := 0, slots := 0, locals := 0 } : Room).slots
  have k20 : Go p e below m W s₁ 1 #[.val (.ref a1)] [(.ref a1)] := k0.aloadN X0 hx (hb hby d_rmg3_0) rfl rfl
  obtain ⟨T21, X21, e21, k21⟩ := k20.getF X0 hx hZ hown (host := "") (Or.inl (hv 72 rfl)) Via.refl e0 F1 (hb hby d_rmg3_1)
  have k21 : Go p e below m W T21 4 #[.val (.ref a1)] [p2] := k21
  exact k21.areturn X21 hx Bd.returns rfl hr2 (hb hby d_rmg3_4) (BodyLoose.notSynchronized Bd) (by rw [e21]; exact ⟨rfl, N0, rfl⟩) (by decide) (by decide)

theorem d_rmg4_0 : decode prog_5_method_10_code 0 = .ok (.aload_n 0, 1) := by decide +kernel
theorem d_rmg4_1 : decode prog_5_method_10_code 1 = .ok (.getfield 40, 3) := by decide +kernel
theorem d_rmg4_4 : decode prog_5_method_10_code 4 = .ok (.ireturn, 1) := by decide +kernel
theorem pn_rmg4 : plainName "com/example/ikat/ikat/core/LinkEdit" = true := by first | (simp [plainName, overriddenIn]; done) | decide +kernel
theorem ef_rmg4 (m : MethodId) (a1 : Addr) : entryFrame m #[(.ref a1)] 1 = mkF m 0 #[.val (.ref a1)] [] := by first | (simp [entryFrame, mkF, argsToLocals, Value.category]; done) | rfl
def Q_rmg4 (Z : State) (a1 : Addr) (w2 : Int32) (h0 : Heap) (n0 : Nat) (v : Option Value) (h : Heap) (L : List Loc) : Prop := v = some (.int w2) ∧ Fr n0 L ∧ h = h0
set_option maxRecDepth 65536 in
set_option maxHeartbeats 40000000 in
theorem rmg4 (l : Launch) (Z : State) (a0 : Array Value) (hw : ∀ d ∈ tables_1, d.before a0 Z = true) (ws : List Jvm.Cond) (a1 : Addr) (w2 : Int32) (h0 : Heap) (n0 : Nat) (Z0 : n0 ≤ h0.size) (B2 : w2 = 0 ∨ w2 = 1) (F1 : Fld Z h0 a1 "com/example/ikat/ikat/core/LinkEdit" "changesMaxVisits" "Z" (.int w2)) :
    MetFree l (⟨"com/example/ikat/ikat/core/LinkEdit", "changesMaxVisits", "()Z"⟩ : MethodName) (head1 (Jvm.Cond.code (⟨"com/example/ikat/ikat/core/LinkEdit", "changesMaxVisits", "()Z"⟩ : MethodName) prog_5_method_10_code 1 (some .boolean) :: ws) ({ frames := 0, cells := 0, slots := 0, locals := 0 } : Room)) (fun a U => a = #[(.ref a1)] ∧ Z.Warmed39 U.vm ∧ U.heap = h0) (fun _ _ _ _ _ => True) (fun _ U o U' => ∃ v L, o = .returned v ∧ Q_rmg4 Z a1 w2 h0 n0 v U'.heap L ∧ FrameEnd U o U' L ({ frames := 0, cells := 0, slots := 0, locals := 0 } : Room).cells ({ frames := 0, cells := 0, slots := 0, locals := 0 } : Room).slots) := by
  refine MetFree.of_bodySF (plainFor_of_name pn_rmg4) hisR ?_
  intro p e s m args_ below meth c s₁ Bd hml0 hP hK
  obtain ⟨hargs, hZ, hh⟩ := hP
  have hx := Bd.exec
  have hby := Bd.bytes
  have hml : c.maxLocals = 1 := hml0
  have hown : s.vm.findClass "com/example/ikat/ikat/core/LinkEdit" = some m.cls := findClass_of_methodNamed Bd.named
  have hnm := (name_of_methodNamed Bd.named Bd.method).1
  have X0 : Stand p l e ({ frames := 0, cells := 0, slots := 0, locals := 0 } : Room) s m args_ below meth c s₁ [] 0 0 := Stand.of_body Bd
  have e0 : s₁.heap = h0 := by rw [← hh, Bd.state]; rfl
  have N0 := Fr.nil n0
  have hv : ∀ (i : Nat) {d : Jvm.Cond}, tables_1[i]? = some d → d.before a0 Z = true := fun i d q => hw d (List.mem_of_getElem? q)
  have k0 : Go p e below m (s₁.setTop (entryFrame m args_ 1)) s₁ 0 #[.val (.ref a1)] [] := by rw [hargs]; exact fun t kt => castTop (ef_rmg4 m a1) kt
  obtain ⟨W, hWW⟩ : ∃ W, W = s₁.setTop (entryFrame m args_ 1) := ⟨_, rfl⟩
  rw [← hWW] at k0 ⊢
  show Done p e below s W (Q_rmg4 Z a1 w2 h0 n0) ({ frames := 0, cells := 0, slots := 0, locals := 0 } : Room).cells ({ frames := 0, cells := 0, slots := 0, locals := 0 } : Room).slots
  have k20 : Go p e below m W s₁ 1 #[.val (.ref a1)] [(.ref a1)] := k0.aloadN X0 hx (hb hby d_rmg4_0) rfl rfl
  obtain ⟨T21, X21, e21, k21⟩ := k20.getF X0 hx hZ hown (host := "") (Or.inl (hv 21 rfl)) Via.refl e0 F1 (hb hby d_rmg4_1)
  have k21 : Go p e below m W T21 4 #[.val (.ref a1)] [(.int w2)] := k21
  exact k21.ireturnN X21 hx (t := .boolean) Bd.returns (by simp) (own_nz B2).2.2 (hb hby d_rmg4_4) (BodyLoose.notSynchronized Bd) (by rw [e21]; exact ⟨rfl, N0, rfl⟩) (by decide) (by decide)

theorem d_rmg5_0 : decode prog_5_method_11_code 0 = .ok (.aload_n 0, 1) := by decide +kernel
theorem d_rmg5_1 : decode prog_5_method_11_code 1 = .ok (.getfield 43, 3) := by decide +kernel
theorem d_rmg5_4 : decode prog_5_method_11_code 4 = .ok (.areturn, 1) := by decide +kernel
theorem pn_rmg5 : plainName "com/example/ikat/ikat/core/LinkEdit" = true := by first | (simp [plainName, overriddenIn]; done) | decide +kernel
theorem ef_rmg5 (m : MethodId) (a1 : Addr) : entryFrame m #[(.ref a1)] 1 = mkF m 0 #[.val (.ref a1)] [] := by first | (simp [entryFrame, mkF, argsToLocals, Value.category]; done) | rfl
def Q_rmg5 (Z : State) (a1 : Addr) (p2 : Value) (h0 : Heap) (n0 : Nat) (v : Option Value) (h : Heap) (L : List Loc) : Prop := v = some p2 ∧ Fr n0 L ∧ h = h0
set_option maxRecDepth 65536 in
set_option maxHeartbeats 40000000 in
theorem rmg5 (l : Launch) (Z : State) (a0 : Array Value) (hw : ∀ d ∈ tables_1, d.before a0 Z = true) (ws : List Jvm.Cond) (a1 : Addr) (p2 : Value) (h0 : Heap) (n0 : Nat) (Z0 : n0 ≤ h0.size) (hr2 : p2.isRef = true) (F1 : Fld Z h0 a1 "com/example/ikat/ikat/core/LinkEdit" "maxVisits" "Ljava/lang/Integer;" p2) :
    MetFree l (⟨"com/example/ikat/ikat/core/LinkEdit", "maxVisits", "()Ljava/lang/Integer;"⟩ : MethodName) (head1 (Jvm.Cond.code (⟨"com/example/ikat/ikat/core/LinkEdit", "maxVisits", "()Ljava/lang/Integer;"⟩ : MethodName) prog_5_method_11_code 1 (some (.object "java/lang/Integer")) :: ws) ({ frames := 0, cells := 0, slots := 0, locals := 0 } : Room)) (fun a U => a = #[(.ref a1)] ∧ Z.Warmed39 U.vm ∧ U.heap = h0) (fun _ _ _ _ _ => True) (fun _ U o U' => ∃ v L, o = .returned v ∧ Q_rmg5 Z a1 p2 h0 n0 v U'.heap L ∧ FrameEnd U o U' L ({ frames := 0, cells := 0, slots := 0, locals := 0 } : Room).cells ({ frames := 0, cells := 0, slots := 0, locals := 0 } : Room).slots) := by
  refine MetFree.of_bodySF (plainFor_of_name pn_rmg5) hisR ?_
  intro p e s m args_ below meth c s₁ Bd hml0 hP hK
  obtain ⟨hargs, hZ, hh⟩ := hP
  have hx := Bd.exec
  have hby := Bd.bytes
  have hml : c.maxLocals = 1 := hml0
  have hown : s.vm.findClass "com/example/ikat/ikat/core/LinkEdit" = some m.cls := findClass_of_methodNamed Bd.named
  have hnm := (name_of_methodNamed Bd.named Bd.method).1
  have X0 : Stand p l e ({ frames := 0, cells := 0, slots := 0, locals := 0 } : Room) s m args_ below meth c s₁ [] 0 0 := Stand.of_body Bd
  have e0 : s₁.heap = h0 := by rw [← hh, Bd.state]; rfl
  have N0 := Fr.nil n0
  have hv : ∀ (i : Nat) {d : Jvm.Cond}, tables_1[i]? = some d → d.before a0 Z = true := fun i d q => hw d (List.mem_of_getElem? q)
  have k0 : Go p e below m (s₁.setTop (entryFrame m args_ 1)) s₁ 0 #[.val (.ref a1)] [] := by rw [hargs]; exact fun t kt => castTop (ef_rmg5 m a1) kt
  obtain ⟨W, hWW⟩ : ∃ W, W = s₁.setTop (entryFrame m args_ 1) := ⟨_, rfl⟩
  rw [← hWW] at k0 ⊢
  show Done p e below s W (Q_rmg5 Z a1 p2 h0 n0) ({ frames := 0, cells := 0, slots := 0, locals := 0 } : Room).cells ({ frames := 0, cells := 0, slots := 0, locals := 0 } : Room).slots
  have k20 : Go p e below m W s₁ 1 #[.val (.ref a1)] [(.ref a1)] := k0.aloadN X0 hx (hb hby d_rmg5_0) rfl rfl
  obtain ⟨T21, X21, e21, k21⟩ := k20.getF X0 hx hZ hown (host := "") (Or.inl (hv 23 rfl)) Via.refl e0 F1 (hb hby d_rmg5_1)
  have k21 : Go p e below m W T21 4 #[.val (.ref a1)] [p2] := k21
  exact k21.areturn X21 hx Bd.returns rfl hr2 (hb hby d_rmg5_4) (BodyLoose.notSynchronized Bd) (by rw [e21]; exact ⟨rfl, N0, rfl⟩) (by decide) (by decide)

theorem d_rmw_0 : decode jdk_33_method_27_code 0 = .ok (.aload_n 0, 1) := by decide +kernel
theorem d_rmw_1 : decode jdk_33_method_27_code 1 = .ok (.getfield 205, 3) := by decide +kernel
theorem d_rmw_4 : decode jdk_33_method_27_code 4 = .ok (.ireturn, 1) := by decide +kernel
theorem pn_rmw : plainName "java/lang/Integer" = true := by first | (simp [plainName, overriddenIn]; done) | decide +kernel
theorem ef_rmw (m : MethodId) (a1 : Addr) : entryFrame m #[(.ref a1)] 1 = mkF m 0 #[.val (.ref a1)] [] := by first | (simp [entryFrame, mkF, argsToLocals, Value.category]; done) | rfl
def Q_rmw (Z : State) (a1 : Addr) (w2 : Int32) (h0 : Heap) (n0 : Nat) (v : Option Value) (h : Heap) (L : List Loc) : Prop := v = some (.int w2) ∧ Fr n0 L ∧ h = h0
set_option maxRecDepth 65536 in
set_option maxHeartbeats 40000000 in
theorem rmw (l : Launch) (Z : State) (a0 : Array Value) (hw : ∀ d ∈ tables_1, d.before a0 Z = true) (ws : List Jvm.Cond) (a1 : Addr) (w2 : Int32) (h0 : Heap) (n0 : Nat) (Z0 : n0 ≤ h0.size) (F1 : Fld Z h0 a1 "java/lang/Integer" "value" "I" (.int w2)) :
    MetFree l (⟨"java/lang/Integer", "intValue", "()I"⟩ : MethodName) (head1 (Jvm.Cond.code (⟨"java/lang/Integer", "intValue", "()I"⟩ : MethodName) jdk_33_method_27_code 1 (some .int) :: ws) ({ frames := 0, cells := 0, slots := 0, locals := 0 } : Room)) (fun a U => a = #[(.ref a1)] ∧ Z.Warmed39 U.vm ∧ U.heap = h0) (fun _ _ _ _ _ => True) (fun _ U o U' => ∃ v L, o = .returned v ∧ Q_rmw Z a1 w2 h0 n0 v U'.heap L ∧ FrameEnd U o U' L ({ frames := 0, cells := 0, slots := 0, locals := 0 } : Room).cells ({ frames := 0, cells := 0, slots := 0, locals := 0 } : Room).slots) := by
  refine MetFree.of_bodySF (plainFor_of_name pn_rmw) hisR ?_
  intro p e s m args_ below meth c s₁ Bd hml0 hP hK
  obtain ⟨hargs, hZ, hh⟩ := hP
  have hx := Bd.exec
  have hby := Bd.bytes
  have hml : c.maxLocals = 1 := hml0
  have hown : s.vm.findClass "java/lang/Integer" = some m.cls := findClass_of_methodNamed Bd.named
  have hnm := (name_of_methodNamed Bd.named Bd.method).1
  have X0 : Stand p l e ({ frames := 0, cells := 0, slots := 0, locals := 0 } : Room) s m args_ below meth c s₁ [] 0 0 := Stand.of_body Bd
  have e0 : s₁.heap = h0 := by rw [← hh, Bd.state]; rfl
  have N0 := Fr.nil n0
  have hv : ∀ (i : Nat) {d : Jvm.Cond}, tables_1[i]? = some d → d.before a0 Z = true := fun i d q => hw d (List.mem_of_getElem? q)
  have k0 : Go p e below m (s₁.setTop (entryFrame m args_ 1)) s₁ 0 #[.val (.ref a1)] [] := by rw [hargs]; exact fun t kt => castTop (ef_rmw m a1) kt
  obtain ⟨W, hWW⟩ : ∃ W, W = s₁.setTop (entryFrame m args_ 1) := ⟨_, rfl⟩
  rw [← hWW] at k0 ⊢
  show Done p e below s W (Q_rmw Z a1 w2 h0 n0) ({ frames := 0, cells := 0, slots := 0, locals := 0 } : Room).cells ({ frames := 0, cells := 0, slots := 0, locals := 0 } : Room).slots
  have k20 : Go p e below m W s₁ 1 #[.val (.ref a1)] [(.ref a1)] := k0.aloadN X0 hx (hb hby d_rmw_0) rfl rfl
  obtain ⟨T21, X21, e21, k21⟩ := k20.getF X0 hx hZ hown (host := "") (Or.inl (hv 44 rfl)) Via.refl e0 F1 (hb hby d_rmw_1)
  have k21 : Go p e below m W T21 4 #[.val (.ref a1)] [(.int w2)] := k21
  exact k21.ireturnI X21 hx Bd.returns (hb hby d_rmw_4) (BodyLoose.notSynchronized Bd) (by rw [e21]; exact ⟨rfl, N0, rfl⟩) (by decide) (by decide)

theorem d_rmmN_0 : decode method_2_code 0 = .ok (.iload_n 1, 1) := by decide +kernel
theorem d_rmmN_1 : decode method_2_code 1 = .ok (.ifCond .eq 13, 3) := by decide +kernel
theorem d_rmmN_4 : decode method_2_code 4 = .ok (.aload_n 0, 1) := by decide +kernel
theorem d_rmmN_5 : decode method_2_code 5 = .ok (.ifnonnull 7, 3) := by decide +kernel
theorem d_rmmN_8 : decode method_2_code 8 = .ok (.iconst 1, 1) := by decide +kernel
theorem d_rmmN_9 : decode method_2_code 9 = .ok (.goto 4, 3) := by decide +kernel
theorem d_rmmN_13 : decode method_2_code 13 = .ok (.ireturn, 1) := by decide +kernel
theorem pn_rmmN : plainName "com/example/ikat/ikat/core/LinkEditMaxVisitsPinLaw" = true := by first | (simp [plainName, overriddenIn]; done) | decide +kernel
theorem ef_rmmN (m : MethodId) (p1 : Int32) (p2 : Int32) : entryFrame m #[.null, (.int p1), (.int p2)] 3 = mkF m 0 #[.val .null, .val (.int p1), .val (.int p2)] [] := by first | (simp [entryFrame, mkF, argsToLocals, Value.category]; done) | rfl
def Q_rmmN (Z : State) (p1 : Int32) (p2 : Int32) (h0 : Heap) (n0 : Nat) (v : Option Value) (h : Heap) (L : List Loc) : Prop := v = some (.int (1 : Int32)) ∧ Fr n0 L ∧ h = h0
set_option maxRecDepth 65536 in
set_option maxHeartbeats 40000000 in
theorem rmmN (l : Launch) (Z : State) (a0 : Array Value) (hw : ∀ d ∈ tables_1, d.before a0 Z = true) (ws : List Jvm.Cond) (p1 : Int32) (p2 : Int32) (h0 : Heap) (n0 : Nat) (Z0 : n0 ≤ h0.size) (c1 : ¬ (p1 = (0 : Int32))) :
    MetFree l (⟨"com/example/ikat/ikat/core/LinkEditMaxVisitsPinLaw", "matches", "(Ljava/lang/Integer;ZI)Z"⟩ : MethodName) (head1 (Jvm.Cond.code (⟨"com/example/ikat/ikat/core/LinkEditMaxVisitsPinLaw", "matches", "(Ljava/lang/Integer;ZI)Z"⟩ : MethodName) method_2_code 3 (some .boolean) :: ws) ({ frames := 0, cells := 0, slots := 0, locals := 0 } : Room)) (fun a U => a = #[.null, (.int p1), (.int p2)] ∧ Z.Warmed39 U.vm ∧ U.heap = h0) (fun _ _ _ _ _ => True) (fun _ U o U' => ∃ v L, o = .returned v ∧ Q_rmmN Z p1 p2 h0 n0 v U'.heap L ∧ FrameEnd U o U' L ({ frames := 0, cells := 0, slots := 0, locals := 0 } : Room).cells ({ frames := 0, cells := 0, slots := 0, locals := 0 } : Room).slots) := by
  refine MetFree.of_bodySF (plainFor_of_name pn_rmmN) hisR ?_
  intro p e s m args_ below meth c s₁ Bd hml0 hP hK
  obtain ⟨hargs, hZ, hh⟩ := hP
  have hx := Bd.exec
  have hby := Bd.bytes
  have hml : c.maxLocals = 3 := hml0
  have hown : s.vm.findClass "com/example/ikat/ikat/core/LinkEditMaxVisitsPinLaw" = some m.cls := findClass_of_methodNamed Bd.named
  have hnm := (name_of_methodNamed Bd.named Bd.method).1
  have X0 : Stand p l e ({ frames := 0, cells := 0, slots := 0, locals := 0 } : Room) s m args_ below meth c s₁ [] 0 0 := Stand.of_body Bd
  have e0 : s₁.heap = h0 := by rw [← hh, Bd.state]; rfl
  have N0 := Fr.nil n0
  have hv : ∀ (i : Nat) {d : Jvm.Cond}, tables_1[i]? = some d → d.before a0 Z = true := fun i d q => hw d (List.mem_of_getElem? q)
  have k0 : Go p e below m (s₁.setTop (entryFrame m args_ 3)) s₁ 0 #[.val .null, .val (.int p1), .val (.int p2)] [] := by rw [hargs]; exact fun t kt => castTop (ef_rmmN m p1 p2) kt
  obtain ⟨W, hWW⟩ : ∃ W, W = s₁.setTop (entryFrame m args_ 3) := ⟨_, rfl⟩
  rw [← hWW] at k0 ⊢
  show Done p e below s W (Q_rmmN Z p1 p2 h0 n0) ({ frames := 0, cells := 0, slots := 0, locals := 0 } : Room).cells ({ frames := 0, cells := 0, slots := 0, locals := 0 } : Room).slots
  have k20 : Go p e below m W s₁ 13 #[.val .null, .val (.int p1), .val (.int p2)] [(.int (1 : Int32))] := (((((k0.iloadN X0 hx (hb hby d_rmmN_0) rfl).ifNo X0 hx (hb hby d_rmmN_1) (XT.i0_eq_f c1)).aloadN X0 hx (hb hby d_rmmN_4) rfl rfl).nonnullNo X0 hx (hb hby d_rmmN_5) rfl).iconst X0 hx (hb hby d_rmmN_8) (v := (1 : Int32)) rfl).goto X0 hx (hb hby d_rmmN_9) (by decide) (by decide)
  exact k20.ireturnN X0 hx (t := .boolean) Bd.returns (by simp) rfl (hb hby d_rmmN_13) (BodyLoose.notSynchronized Bd) (by rw [e0]; exact ⟨rfl, N0, rfl⟩) (by decide) (by decide)

theorem d_rmmR_0 : decode method_2_code 0 = .ok (.iload_n 1, 1) := by decide +kernel
theorem d_rmmR_1 : decode method_2_code 1 = .ok (.ifCond .eq 13, 3) := by decide +kernel
theorem d_rmmR_14 : decode method_2_code 14 = .ok (.aload_n 0, 1) := by decide +kernel
theorem d_rmmR_15 : decode method_2_code 15 = .ok (.ifnull 15, 3) := by decide +kernel
theorem d_rmmR_18 : decode method_2_code 18 = .ok (.aload_n 0, 1) := by decide +kernel
theorem d_rmmR_19 : decode method_2_code 19 = .ok (.invokevirtual 7, 3) := by decide +kernel
theorem d_rmmR_22 : decode method_2_code 22 = .ok (.iload_n 2, 1) := by decide +kernel
theorem d_rmmR_23 : decode method_2_code 23 = .ok (.if_icmp .ne 7, 3) := by decide +kernel
theorem d_rmmR_26 : decode method_2_code 26 = .ok (.iconst 1, 1) := by decide +kernel
theorem d_rmmR_27 : decode method_2_code 27 = .ok (.goto 4, 3) := by decide +kernel
theorem d_rmmR_31 : decode method_2_code 31 = .ok (.ireturn, 1) := by decide +kernel
theorem pn_rmmR : plainName "com/example/ikat/ikat/core/LinkEditMaxVisitsPinLaw" = true := by first | (simp [plainName, overriddenIn]; done) | decide +kernel
theorem pd_rmmR_0 : parseMethodDescriptor "()I" = some ⟨[], (some .int)⟩ := by decide +kernel
theorem ef_rmmR (m : MethodId) (a1 : Addr) (p1 : Int32) (p2 : Int32) : entryFrame m #[(.ref a1), (.int p1), (.int p2)] 3 = mkF m 0 #[.val (.ref a1), .val (.int p1), .val (.int p2)] [] := by first | (simp [entryFrame, mkF, argsToLocals, Value.category]; done) | rfl
def Q_rmmR (Z : State) (a1 : Addr) (p1 : Int32) (p2 : Int32) (h0 : Heap) (n0 : Nat) (v : Option Value) (h : Heap) (L : List Loc) : Prop := v = some (.int (1 : Int32)) ∧ Fr n0 L ∧ h = h0
set_option maxRecDepth 65536 in
set_option maxHeartbeats 40000000 in
theorem rmmR (l : Launch) (Z : State) (a0 : Array Value) (hw : ∀ d ∈ tables_1, d.before a0 Z = true) (ws : List Jvm.Cond) (a1 : Addr) (p1 : Int32) (p2 : Int32) (h0 : Heap) (n0 : Nat) (Z0 : n0 ≤ h0.size) (c1 : p1 = (0 : Int32)) (E1 : Exa Z h0 a1 "java/lang/Integer") (F1 : Fld Z h0 a1 "java/lang/Integer" "value" "I" (.int p2)) :
    MetFree l (⟨"com/example/ikat/ikat/core/LinkEditMaxVisitsPinLaw", "matches", "(Ljava/lang/Integer;ZI)Z"⟩ : MethodName) (head1 (Jvm.Cond.code (⟨"com/example/ikat/ikat/core/LinkEditMaxVisitsPinLaw", "matches", "(Ljava/lang/Integer;ZI)Z"⟩ : MethodName) method_2_code 3 (some .boolean) :: ws) ({ frames := 1, cells := 0, slots := 0, locals := 12 } : Room)) (fun a U => a = #[(.ref a1), (.int p1), (.int p2)] ∧ Z.Warmed39 U.vm ∧ U.heap = h0) (fun _ _ _ _ _ => True) (fun _ U o U' => ∃ v L, o = .returned v ∧ Q_rmmR Z a1 p1 p2 h0 n0 v U'.heap L ∧ FrameEnd U o U' L ({ frames := 1, cells := 0, slots := 0, locals := 12 } : Room).cells ({ frames := 1, cells := 0, slots := 0, locals := 12 } : Room).slots) := by
  refine MetFree.of_bodySF (plainFor_of_name pn_rmmR) hisR ?_
  intro p e s m args_ below meth c s₁ Bd hml0 hP hK
  obtain ⟨hargs, hZ, hh⟩ := hP
  have hx := Bd.exec
  have hby := Bd.bytes
  have hml : c.maxLocals = 3 := hml0
  have hown : s.vm.findClass "com/example/ikat/ikat/core/LinkEditMaxVisitsPinLaw" = some m.cls := findClass_of_methodNamed Bd.named
  have hnm := (name_of_methodNamed Bd.named Bd.method).1
  have X0 : Stand p l e ({ frames := 1, cells := 0, slots := 0, locals := 12 } : Room) s m args_ below meth c s₁ [] 0 0 := Stand.of_body Bd
  have e0 : s₁.heap = h0 := by rw [← hh, Bd.state]; rfl
  have N0 := Fr.nil n0
  have hv : ∀ (i : Nat) {d : Jvm.Cond}, tables_1[i]? = some d → d.before a0 Z = true := fun i d q => hw d (List.mem_of_getElem? q)
  have k0 : Go p e below m (s₁.setTop (entryFrame m args_ 3)) s₁ 0 #[.val (.ref a1), .val (.int p1), .val (.int p2)] [] := by rw [hargs]; exact fun t kt => castTop (ef_rmmR m a1 p1 p2) kt
  obtain ⟨W, hWW⟩ : ∃ W, W = s₁.setTop (entryFrame m args_ 3) := ⟨_, rfl⟩
  rw [← hWW] at k0 ⊢
  show Done p e below s W (Q_rmmR Z a1 p1 p2 h0 n0) ({ frames := 1, cells := 0, slots := 0, locals := 12 } : Room).cells ({ frames := 1, cells := 0, slots := 0, locals := 12 } : Room).slots
  have k20 : Go p e below m W s₁ 19 #[.val (.ref a1), .val (.int p1), .val (.int p2)] [(.ref a1)] := ((((k0.iloadN X0 hx (hb hby d_rmmR_0) rfl).ifYes X0 hx (hb hby d_rmmR_1) (XT.i0_eq_t c1) (by decide) (by decide)).aloadN X0 hx (hb hby d_rmmR_14) rfl rfl).nullNo X0 hx (hb hby d_rmmR_15) rfl (fun q => by cases q)).aloadN X0 hx (hb hby d_rmmR_18) rfl rfl
  obtain ⟨T21, v21, L21, X21, Q21, k21⟩ := k20.virt (y := (⟨"java/lang/Integer", "intValue", "()I"⟩ : MethodName)) (z := (⟨"java/lang/Integer", "intValue", "()I"⟩ : MethodName)) (Wd := 0) (cells' := 0) (slots' := 0) (argsL := []) (rest := []) X0 hx hZ hown (by rw [hml]; rfl) (hv 39 rfl) (hv 40 rfl) (notFace_of_selects (args := #[]) (mvT hZ (hv 42 rfl))) (hv 42 rfl) (hv 41 rfl) (hv 43 rfl) (hv 2 rfl) (hb hby d_rmmR_19) (by decide) (rmw l Z a0 hw [] a1 p2 h0 n0 Z0 F1) e0 E1 rfl rfl pd_rmmR_0 rfl (Nat.le_of_eq rfl) (by decide) (by decide) rfl rfl (by decide) (by decide)
  obtain ⟨rfl, Nq21, e21q⟩ := Q21
  have N21 := Fr.app N0 Nq21
  have e21 : T21.heap = h0 := e21q
  have k21 : Go p e below m W T21 22 #[.val (.ref a1), .val (.int p1), .val (.int p2)] [(.int p2)] := k21
  have k22 : Go p e below m W T21 31 #[.val (.ref a1), .val (.int p1), .val (.int p2)] [(.int (1 : Int32))] := (((k21.iloadN X21 hx (hb hby d_rmmR_22) rfl).icmpNo X21 hx (hb hby d_rmmR_23) (XT.ii_ne_f rfl)).iconst X21 hx (hb hby d_rmmR_26) (v := (1 : Int32)) rfl).goto X21 hx (hb hby d_rmmR_27) (by decide) (by decide)
  exact k22.ireturnN X21 hx (t := .boolean) Bd.returns (by simp) rfl (hb hby d_rmmR_31) (BodyLoose.notSynchronized Bd) (by rw [e21]; exact ⟨rfl, N21, rfl⟩) (by decide) (by decide)

theorem own_len {s : State} {args : Array Value} {t : Term} {ca : Addr} {cc : Cell} {ty : FieldType} {n : Int32} (ev : t.eval args s none [] s = some (.ref ca)) (A : Jvm.RoadKit.Arr s s.heap ca cc ty) (el : (Term.length t).eval args s none [] s = some (.int n)) : cc.slots.size < 2 ^ 31 ∧ cc.slots.size.toInt32 = n := by
  have ha : s.arrayAt? ca = some cc := A.fin (Vm.Alike.refl _)
  by_cases q : cc.slots.size < 2 ^ 31
  · refine ⟨q, ?_⟩
    have e := (len_f ev ha q).symm.trans el
    exact Value.int.inj (Option.some.inj e)
  · exfalso
    obtain ⟨a2, c2, e1, e2, e3⟩ := Term.length_spec el
    cases ev.symm.trans e1
    cases ha.symm.trans e2
    simp [Term.eval, ev, ha, q] at el
theorem own_sub {s : State} {args : Array Value} {j : Int32} {idx : List Nat} (h : (Term.index 0).eval args s none idx s = some (.int j)) : (Term.sub (Term.index 0) (Term.int (128 : Int32))).eval args s none idx s = some (.int (j - 128)) := by
  simp only [Term.eval] at h ⊢
  simp [h]

theorem pn_rm0 : plainName "com/example/ikat/ikat/core/LinkEditMaxVisitsPinLaw" = true := by first | (simp [plainName, overriddenIn]; done) | decide +kernel
theorem pd_rm0_0 : parseMethodDescriptor "(I)Ljava/lang/Integer;" = some ⟨[.int], (some (.object "java/lang/Integer"))⟩ := by decide +kernel
theorem pd_rm0_1 : parseMethodDescriptor "()V" = some ⟨[], none⟩ := by decide +kernel
theorem pd_rm0_2 : parseMethodDescriptor "(Ljava/time/Instant;)Lcom/example/ikat/ikat/core/LinkEdit;" = some ⟨[(.object "java/time/Instant")], (some (.object "com/example/ikat/ikat/core/LinkEdit"))⟩ := by decide +kernel
theorem pd_rm0_3 : parseMethodDescriptor "(Ljava/lang/Integer;)Lcom/example/ikat/ikat/core/LinkEdit;" = some ⟨[(.object "java/lang/Integer")], (some (.object "com/example/ikat/ikat/core/LinkEdit"))⟩ := by decide +kernel
theorem pd_rm0_4 : parseMethodDescriptor "()Z" = some ⟨[], (some .boolean)⟩ := by decide +kernel
theorem pd_rm0_5 : parseMethodDescriptor "()Ljava/lang/Integer;" = some ⟨[], (some (.object "java/lang/Integer"))⟩ := by decide +kernel
theorem pd_rm0_6 : parseMethodDescriptor "(Ljava/lang/Integer;ZI)Z" = some ⟨[(.object "java/lang/Integer"), .boolean, .int], (some .boolean)⟩ := by decide +kernel
theorem pd_rm0_7 : parseMethodDescriptor "()Ljava/lang/String;" = some ⟨[], (some (.object "java/lang/String"))⟩ := by decide +kernel
theorem pd_rm0_8 : parseMethodDescriptor "()Ljava/lang/Boolean;" = some ⟨[], (some (.object "java/lang/Boolean"))⟩ := by decide +kernel
theorem pd_rm0_9 : parseMethodDescriptor "()Ljava/time/Instant;" = some ⟨[], (some (.object "java/time/Instant"))⟩ := by decide +kernel
theorem ef_rm0 (m : MethodId) (p1 : Int32) (p2 : Int32) (p3 : Int32) : entryFrame m #[(.int p1), (.int p2), (.int p3)] maxLocals = mkF m 0 #[.val (.int p1), .val (.int p2), .val (.int p3), .unset, .unset, .unset, .unset, .unset, .unset, .unset, .unset, .unset] [] := by first | (simp [entryFrame, mkF, argsToLocals, Value.category, maxLocals]; done) | rfl
def Q_rm0 (Z : State) (p1 : Int32) (p2 : Int32) (p3 : Int32) (ca : Addr) (cc : Cell) (h0 : Heap) (n0 : Nat) (v : Option Value) (h : Heap) (L : List Loc) : Prop := v = some (.int (1 : Int32)) ∧ Fr n0 L
set_option maxRecDepth 65536 in
set_option maxHeartbeats 40000000 in
theorem rm0 (l : Launch) (Z : State) (a0 : Array Value) (hw : ∀ d ∈ tables_1, d.before a0 Z = true) (ws : List Jvm.Cond) (p1 : Int32) (p2 : Int32) (p3 : Int32) (ca : Addr) (cc : Cell) (h0 : Heap) (n0 : Nat) (Z0 : n0 ≤ h0.size) (O0 : Old Z n0 h0) (SH : Sta Z Z.heap "java/lang/Integer$IntegerCache" "high" "I" (.int (127 : Int32))) (SC : Sta Z Z.heap "java/lang/Integer$IntegerCache" "cache" "[Ljava/lang/Integer;" (.ref ca)) (HB : Bxs Z ca cc "java/lang/Integer" "I" (256 : Int32) (fun j => .int (j - 128))) :
    MetFree l x (head1 (Jvm.Cond.code x code maxLocals ret :: ws) room_1) (fun a U => a = #[(.int p1), (.int p2), (.int p3)] ∧ Z.Warmed39 U.vm ∧ U.heap = h0) (fun _ _ _ _ _ => True) (fun _ U o U' => ∃ v L, o = .returned v ∧ Q_rm0 Z p1 p2 p3 ca cc h0 n0 v U'.heap L ∧ FrameEnd U o U' L room_1.cells room_1.slots) := by
  refine MetFree.of_bodySF (plainFor_of_name pn_rm0) hisR ?_
  intro p e s m args_ below meth c s₁ Bd hml0 hP hK
  obtain ⟨hargs, hZ, hh⟩ := hP
  have hx := Bd.exec
  have hby := Bd.bytes
  have hml : c.maxLocals = 12 := hml0
  have hown : s.vm.findClass "com/example/ikat/ikat/core/LinkEditMaxVisitsPinLaw" = some m.cls := findClass_of_methodNamed Bd.named
  have hnm := (name_of_methodNamed Bd.named Bd.method).1
  have X0 : Stand p l e room_1 s m args_ below meth c s₁ [] 0 0 := Stand.of_body Bd
  have e0 : s₁.heap = h0 := by rw [← hh, Bd.state]; rfl
  have N0 := Fr.nil n0
  have hv : ∀ (i : Nat) {d : Jvm.Cond}, tables_1[i]? = some d → d.before a0 Z = true := fun i d q => hw d (List.mem_of_getElem? q)
  have k0 : Go p e below m (s₁.setTop (entryFrame m args_ maxLocals)) s₁ 0 #[.val (.int p1), .val (.int p2), .val (.int p3), .unset, .unset, .unset, .unset, .unset, .unset, .unset, .unset, .unset] [] := by rw [hargs]; exact fun t kt => castTop (ef_rm0 m p1 p2 p3) kt
  obtain ⟨W, hWW⟩ : ∃ W, W = s₁.setTop (entryFrame m args_ maxLocals) := ⟨_, rfl⟩
  rw [← hWW] at k0 ⊢
  show Done p e below s W (Q_rm0 Z p1 p2 p3 ca cc h0 n0) room_1.cells room_1.slots
  have k20 : Go p e below m W s₁ 3 #[.val (.int p1), .val (.int p2), .val (.int p3), .unset, .unset, .unset, .unset, .unset, .unset, .unset, .unset, .unset] [(.int (p3 &&& (1 : Int32)))] := ((k0.iloadN X0 hx (hb hby at_0) rfl).iconst X0 hx (hb hby at_1) (v := (1 : Int32)) rfl).iand X0 hx (hb hby at_2)
  obtain ⟨u21_S0, hd21, k21⟩ : ∃ (u21_S0 : Int32), ((((p3 &&& (1 : Int32)) = (0 : Int32)) ∧ u21_S0 = (0 : Int32)) ∨ ((¬ ((p3 &&& (1 : Int32)) = (0 : Int32))) ∧ u21_S0 = (1 : Int32))) ∧ Go p e below m W s₁ 11 #[.val (.int p1), .val (.int p2), .val (.int p3), .unset, .unset, .unset, .unset, .unset, .unset, .unset, .unset, .unset] [(.int u21_S0)] := by
    by_cases hc3_22 : (p3 &&& (1 : Int32)) = (0 : Int32)
    ·
      have k23 : Go p e below m W s₁ 11 #[.val (.int p1), .val (.int p2), .val (.int p3), .unset, .unset, .unset, .unset, .unset, .unset, .unset, .unset, .unset] [(.int (0 : Int32))] := (k20.ifYes X0 hx (hb hby at_3) (XT.i0_eq_t hc3_22) (by decide) (by decide)).iconst X0 hx (hb hby at_10) (v := (0 : Int32)) rfl
      exact ⟨(0 : Int32), (Or.inl ⟨hc3_22, rfl⟩), k23⟩
    ·
      have k24 : Go p e below m W s₁ 11 #[.val (.int p1), .val (.int p2), .val (.int p3), .unset, .unset, .unset, .unset, .unset, .unset, .unset, .unset, .unset] [(.int (1 : Int32))] := ((k20.ifNo X0 hx (hb hby at_3) (XT.i0_eq_f hc3_22)).iconst X0 hx (hb hby at_6) (v := (1 : Int32)) rfl).goto X0 hx (hb hby at_7) (by decide) (by decide)
      exact ⟨(1 : Int32), (Or.inr ⟨hc3_22, rfl⟩), k24⟩
  have k25 : Go p e below m W s₁ 12 #[.val (.int p1), .val (.int p2), .val (.int p3), .val (.int u21_S0), .unset, .unset, .unset, .unset, .unset, .unset, .unset, .unset] [] := k21.istoreN X0 hx (hb hby at_11) rfl
  have k26 : Go p e below m W s₁ 15 #[.val (.int p1), .val (.int p2), .val (.int p3), .val (.int u21_S0), .unset, .unset, .unset, .unset, .unset, .unset, .unset, .unset] [(.int (p3 &&& (2 : Int32)))] := ((k25.iloadN X0 hx (hb hby at_12) rfl).iconst X0 hx (hb hby at_13) (v := (2 : Int32)) rfl).iand X0 hx (hb hby at_14)
  obtain ⟨u27_S0, hd27, k27⟩ : ∃ (u27_S0 : Int32), ((((p3 &&& (2 : Int32)) = (0 : Int32)) ∧ u27_S0 = (0 : Int32)) ∨ ((¬ ((p3 &&& (2 : Int32)) = (0 : Int32))) ∧ u27_S0 = (1 : Int32))) ∧ Go p e below m W s₁ 23 #[.val (.int p1), .val (.int p2), .val (.int p3), .val (.int u21_S0), .unset, .unset, .unset, .unset, .unset, .unset, .unset, .unset] [(.int u27_S0)] := by
    by_cases hc15_28 : (p3 &&& (2 : Int32)) = (0 : Int32)
    ·
      have k29 : Go p e below m W s₁ 23 #[.val (.int p1), .val (.int p2), .val (.int p3), .val (.int u21_S0), .unset, .unset, .unset, .unset, .unset, .unset, .unset, .unset] [(.int (0 : Int32))] := (k26.ifYes X0 hx (hb hby at_15) (XT.i0_eq_t hc15_28) (by decide) (by decide)).iconst X0 hx (hb hby at_22) (v := (0 : Int32)) rfl
      exact ⟨(0 : Int32), (Or.inl ⟨hc15_28, rfl⟩), k29⟩
    ·
      have k30 : Go p e below m W s₁ 23 #[.val (.int p1), .val (.int p2), .val (.int p3), .val (.int u21_S0), .unset, .unset, .unset, .unset, .unset, .unset, .unset, .unset] [(.int (1 : Int32))] := ((k26.ifNo X0 hx (hb hby at_15) (XT.i0_eq_f hc15_28)).iconst X0 hx (hb hby at_18) (v := (1 : Int32)) rfl).goto X0 hx (hb hby at_19) (by decide) (by decide)
      exact ⟨(1 : Int32), (Or.inr ⟨hc15_28, rfl⟩), k30⟩
  have k31 : Go p e below m W s₁ 25 #[.val (.int p1), .val (.int p2), .val (.int p3), .val (.int u21_S0), .val (.int u27_S0), .unset, .unset, .unset, .unset, .unset, .unset, .unset] [] := k27.istore X0 hx (hb hby at_23) rfl
  have k32 : Go p e below m W s₁ 28 #[.val (.int p1), .val (.int p2), .val (.int p3), .val (.int u21_S0), .val (.int u27_S0), .unset, .unset, .unset, .unset, .unset, .unset, .unset] [(.int (p3 &&& (4 : Int32)))] := ((k31.iloadN X0 hx (hb hby at_25) rfl).iconst X0 hx (hb hby at_26) (v := (4 : Int32)) rfl).iand X0 hx (hb hby at_27)
  obtain ⟨u33_S0, hd33, k33⟩ : ∃ (u33_S0 : Int32), ((((p3 &&& (4 : Int32)) = (0 : Int32)) ∧ u33_S0 = (0 : Int32)) ∨ ((¬ ((p3 &&& (4 : Int32)) = (0 : Int32))) ∧ u33_S0 = (1 : Int32))) ∧ Go p e below m W s₁ 36 #[.val (.int p1), .val (.int p2), .val (.int p3), .val (.int u21_S0), .val (.int u27_S0), .unset, .unset, .unset, .unset, .unset, .unset, .unset] [(.int u33_S0)] := by
    by_cases hc28_34 : (p3 &&& (4 : Int32)) = (0 : Int32)
    ·
      have k35 : Go p e below m W s₁ 36 #[.val (.int p1), .val (.int p2), .val (.int p3), .val (.int u21_S0), .val (.int u27_S0), .unset, .unset, .unset, .unset, .unset, .unset, .unset] [(.int (0 : Int32))] := (k32.ifYes X0 hx (hb hby at_28) (XT.i0_eq_t hc28_34) (by decide) (by decide)).iconst X0 hx (hb hby at_35) (v := (0 : Int32)) rfl
      exact ⟨(0 : Int32), (Or.inl ⟨hc28_34, rfl⟩), k35⟩
    ·
      have k36 : Go p e below m W s₁ 36 #[.val (.int p1), .val (.int p2), .val (.int p3), .val (.int u21_S0), .val (.int u27_S0), .unset, .unset, .unset, .unset, .unset, .unset, .unset] [(.int (1 : Int32))] := ((k32.ifNo X0 hx (hb hby at_28) (XT.i0_eq_f hc28_34)).iconst X0 hx (hb hby at_31) (v := (1 : Int32)) rfl).goto X0 hx (hb hby at_32) (by decide) (by decide)
      exact ⟨(1 : Int32), (Or.inr ⟨hc28_34, rfl⟩), k36⟩
  have k37 : Go p e below m W s₁ 38 #[.val (.int p1), .val (.int p2), .val (.int p3), .val (.int u21_S0), .val (.int u27_S0), .val (.int u33_S0), .unset, .unset, .unset, .unset, .unset, .unset] [] := k33.istore X0 hx (hb hby at_36) rfl
  have k38 : Go p e below m W s₁ 42 #[.val (.int p1), .val (.int p2), .val (.int p3), .val (.int u21_S0), .val (.int u27_S0), .val (.int u33_S0), .unset, .unset, .unset, .unset, .unset, .unset] [(.int (p3 &&& (8 : Int32)))] := ((k37.iloadN X0 hx (hb hby at_38) rfl).bipush X0 hx (hb hby at_39) (v := (8 : Int32)) rfl).iand X0 hx (hb hby at_41)
  obtain ⟨u39_S0, hd39, k39⟩ : ∃ (u39_S0 : Int32), ((((p3 &&& (8 : Int32)) = (0 : Int32)) ∧ u39_S0 = (0 : Int32)) ∨ ((¬ ((p3 &&& (8 : Int32)) = (0 : Int32))) ∧ u39_S0 = (1 : Int32))) ∧ Go p e below m W s₁ 50 #[.val (.int p1), .val (.int p2), .val (.int p3), .val (.int u21_S0), .val (.int u27_S0), .val (.int u33_S0), .unset, .unset, .unset, .unset, .unset, .unset] [(.int u39_S0)] := by
    by_cases hc42_40 : (p3 &&& (8 : Int32)) = (0 : Int32)
    ·
      have k41 : Go p e below m W s₁ 50 #[.val (.int p1), .val (.int p2), .val (.int p3), .val (.int u21_S0), .val (.int u27_S0), .val (.int u33_S0), .unset, .unset, .unset, .unset, .unset, .unset] [(.int (0 : Int32))] := (k38.ifYes X0 hx (hb hby at_42) (XT.i0_eq_t hc42_40) (by decide) (by decide)).iconst X0 hx (hb hby at_49) (v := (0 : Int32)) rfl
      exact ⟨(0 : Int32), (Or.inl ⟨hc42_40, rfl⟩), k41⟩
    ·
      have k42 : Go p e below m W s₁ 50 #[.val (.int p1), .val (.int p2), .val (.int p3), .val (.int u21_S0), .val (.int u27_S0), .val (.int u33_S0), .unset, .unset, .unset, .unset, .unset, .unset] [(.int (1 : Int32))] := ((k38.ifNo X0 hx (hb hby at_42) (XT.i0_eq_f hc42_40)).iconst X0 hx (hb hby at_45) (v := (1 : Int32)) rfl).goto X0 hx (hb hby at_46) (by decide) (by decide)
      exact ⟨(1 : Int32), (Or.inr ⟨hc42_40, rfl⟩), k42⟩
  have k43 : Go p e below m W s₁ 52 #[.val (.int p1), .val (.int p2), .val (.int p3), .val (.int u21_S0), .val (.int u27_S0), .val (.int u33_S0), .val (.int u39_S0), .unset, .unset, .unset, .unset, .unset] [] := k39.istore X0 hx (hb hby at_50) rfl
  have k44 : Go p e below m W s₁ 53 #[.val (.int p1), .val (.int p2), .val (.int p3), .val (.int u21_S0), .val (.int u27_S0), .val (.int u33_S0), .val (.int u39_S0), .unset, .unset, .unset, .unset, .unset] [(.int u21_S0)] := k43.iloadN X0 hx (hb hby at_52) rfl
  by_cases hc53_45 : u21_S0 = (0 : Int32)
  ·
    have k46 : Go p e below m W s₁ 61 #[.val (.int p1), .val (.int p2), .val (.int p3), .val (.int u21_S0), .val (.int u27_S0), .val (.int u33_S0), .val (.int u39_S0), .unset, .unset, .unset, .unset, .unset] [(.int p1)] := (k44.ifYes X0 hx (hb hby at_53) (XT.i0_eq_t hc53_45) (by decide) (by decide)).iloadN X0 hx (hb hby at_60) rfl
    obtain ⟨T47, v47, L47, X47, Q47, k47⟩ := k46.stat (y := (⟨"java/lang/Integer", "valueOf", "(I)Ljava/lang/Integer;"⟩ : MethodName)) (Wd := 0) (cells' := 1) (slots' := 1) (argsL := [(.int p1)]) (rest := []) X0 hx hZ hown (by rw [hml]; rfl) (hv 0 rfl) (hv 1 rfl) (hv 3 rfl) (hv 2 rfl) (hb hby at_61) (by decide) (rmv l Z a0 hw [] p1 ca cc h0 n0 Z0 O0 SH SC HB) e0 rfl rfl pd_rm0_0 rfl (Nat.le_of_eq rfl) (by decide) (by decide) rfl rfl (by decide) (by decide)
    obtain ⟨ro_47, rfl, Nq47, Kq47, q47_0, q47_1⟩ := Q47
    have N47 := Fr.app N0 Nq47
    obtain ⟨h47, e47⟩ : ∃ h, T47.heap = h := ⟨_, rfl⟩
    rw [e47] at Kq47 q47_0 q47_1
    have Z47 : n0 ≤ h47.size := Nat.le_trans Z0 Kq47.1
    have f48 := O0.keep Kq47 (fun x q => absurd q List.not_mem_nil)
    have k47 : Go p e below m W T47 64 #[.val (.int p1), .val (.int p2), .val (.int p3), .val (.int u21_S0), .val (.int u27_S0), .val (.int u33_S0), .val (.int u39_S0), .unset, .unset, .unset, .unset, .unset] [(.ref ro_47)] := k47
    have k49 : Go p e below m W T47 66 #[.val (.int p1), .val (.int p2), .val (.int p3), .val (.int u21_S0), .val (.int u27_S0), .val (.int u33_S0), .val (.int u39_S0), .val (.ref ro_47), .unset, .unset, .unset, .unset] [] := k47.astore X47 hx (hb hby at_64) rfl rfl
    have k50 : Go p e below m W T47 68 #[.val (.int p1), .val (.int p2), .val (.int p3), .val (.int u21_S0), .val (.int u27_S0), .val (.int u33_S0), .val (.int u39_S0), .val (.ref ro_47), .unset, .unset, .unset, .unset] [(.int u33_S0)] := k49.iload X47 hx (hb hby at_66) rfl
    by_cases hc68_51 : u33_S0 = (0 : Int32)
    ·
      have k52 : Go p e below m W T47 76 #[.val (.int p1), .val (.int p2), .val (.int p3), .val (.int u21_S0), .val (.int u27_S0), .val (.int u33_S0), .val (.int u39_S0), .val (.ref ro_47), .unset, .unset, .unset, .unset] [(.int p2)] := (k50.ifYes X47 hx (hb hby at_68) (XT.i0_eq_t hc68_51) (by decide) (by decide)).iloadN X47 hx (hb hby at_75) rfl
      obtain ⟨T53, v53, L53, X53, Q53, k53⟩ := k52.stat (y := (⟨"java/lang/Integer", "valueOf", "(I)Ljava/lang/Integer;"⟩ : MethodName)) (Wd := 0) (cells' := 2) (slots' := 2) (argsL := [(.int p2)]) (rest := []) X47 hx hZ hown (by rw [hml]; rfl) (hv 0 rfl) (hv 1 rfl) (hv 3 rfl) (hv 2 rfl) (hb hby at_76) (by decide) (rmv l Z a0 hw [] p2 ca cc h47 n0 Z47 f48 SH SC HB) e47 rfl rfl pd_rm0_0 rfl (Nat.le_of_eq rfl) (by decide) (by decide) rfl rfl (by decide) (by decide)
      obtain ⟨ro_53, rfl, Nq53, Kq53, q53_0, q53_1⟩ := Q53
      have N53 := Fr.app N47 Nq53
      obtain ⟨h53, e53⟩ : ∃ h, T53.heap = h := ⟨_, rfl⟩
      rw [e53] at Kq53 q53_0 q53_1
      have Z53 : n0 ≤ h53.size := Nat.le_trans Z47 Kq53.1
      have f54 := f48.keep Kq53 (fun x q => absurd q List.not_mem_nil)
      have f55 := q47_0.keep Kq53
      have f56 := q47_1.keep Kq53 (List.not_mem_nil)
      have k53 : Go p e below m W T53 79 #[.val (.int p1), .val (.int p2), .val (.int p3), .val (.int u21_S0), .val (.int u27_S0), .val (.int u33_S0), .val (.int u39_S0), .val (.ref ro_47), .unset, .unset, .unset, .unset] [(.ref ro_53)] := k53
      have k57 : Go p e below m W T53 81 #[.val (.int p1), .val (.int p2), .val (.int p3), .val (.int u21_S0), .val (.int u27_S0), .val (.int u33_S0), .val (.int u39_S0), .val (.ref ro_47), .val (.ref ro_53), .unset, .unset, .unset] [] := k53.astore X53 hx (hb hby at_79) rfl rfl
      obtain ⟨T58, h58, b58, X58, e58, g58, E58, A58, D58, k58⟩ := k57.newO (cells' := 3) (slots' := 8) X53 hx hZ hown (hv 7 rfl) (hv 8 rfl) (hv 9 rfl) e53 (hb hby at_81) rfl rfl (by decide) (by decide)
      have k58 : Go p e below m W T58 84 #[.val (.int p1), .val (.int p2), .val (.int p3), .val (.int u21_S0), .val (.int u27_S0), .val (.int u33_S0), .val (.int u39_S0), .val (.ref ro_47), .val (.ref ro_53), .unset, .unset, .unset] [(.ref b58)] := k58
      have Z58 : n0 ≤ h58.size := Nat.le_trans Z53 E58.1
      have ne58_ro_47 : ro_47 ≠ b58 := Nat.ne_of_lt (g58 ▸ f55.lt)
      have ne58_ro_53 : ro_53 ≠ b58 := Nat.ne_of_lt (g58 ▸ q53_0.lt)
      have f59 := f54.ext E58
      have f60 := f55.ext E58
      have f61 := f56.ext E58
      have f62 := q53_0.ext E58
      have f63 := q53_1.ext E58
      have G58 : n0 ≤ b58 := g58 ▸ Z53
      have f64 : Fld Z h58 b58 "com/example/ikat/ikat/core/LinkEdit" "changesMaxVisits" "Z" (.int (0 : Int32)) := D58 (Or.inl (hv 22 rfl)) (ty := .boolean) (by decide)
      have f65 : Fld Z h58 b58 "com/example/ikat/ikat/core/LinkEdit" "maxVisits" "Ljava/lang/Integer;" .null := D58 (Or.inl (hv 24 rfl)) (ty := (.object "java/lang/Integer")) (by decide)
      have f66 : Fld Z h58 b58 "com/example/ikat/ikat/core/LinkEdit" "destination" "Ljava/lang/String;" .null := D58 (Or.inl (hv 52 rfl)) (ty := (.object "java/lang/String")) (by decide)
      have f67 : Fld Z h58 b58 "com/example/ikat/ikat/core/LinkEdit" "paused" "Ljava/lang/Boolean;" .null := D58 (Or.inl (hv 59 rfl)) (ty := (.object "java/lang/Boolean")) (by decide)
      have f68 : Fld Z h58 b58 "com/example/ikat/ikat/core/LinkEdit" "changesExpiry" "Z" (.int (0 : Int32)) := D58 (Or.inl (hv 66 rfl)) (ty := .boolean) (by decide)
      have f69 : Fld Z h58 b58 "com/example/ikat/ikat/core/LinkEdit" "expiresAt" "Ljava/time/Instant;" .null := D58 (Or.inl (hv 73 rfl)) (ty := (.object "java/time/Instant")) (by decide)
      have k70 : Go p e below m W T58 85 #[.val (.int p1), .val (.int p2), .val (.int p3), .val (.int u21_S0), .val (.int u27_S0), .val (.int u33_S0), .val (.int u39_S0), .val (.ref ro_47), .val (.ref ro_53), .unset, .unset, .unset] [(.ref b58), (.ref b58)] := k58.dup X58 hx (hb hby at_84) rfl
      obtain ⟨T71, v71, L71, X71, Q71, k71⟩ := k70.spec (y := (⟨"com/example/ikat/ikat/core/LinkEdit", "<init>", "()V"⟩ : MethodName)) (b := b58) (Wd := 1) (cells' := 3) (slots' := 8) (argsL := []) (rest := [(.ref b58)]) X58 hx hZ hown (by rw [hml]; rfl) rfl (hv 10 rfl) (hv 11 rfl) (hv 12 rfl) (hv 9 rfl) (hb hby at_85) (by decide) (rme l Z a0 hw [] b58 h58 n0 Z58) e58 rfl rfl pd_rm0_1 rfl (Nat.le_of_eq rfl) (by decide) (by decide) rfl rfl (by decide) (by decide)
      obtain ⟨rfl, Nq71, e71q⟩ := Q71
      have N71 := Fr.app N53 Nq71
      have e71 : T71.heap = h58 := e71q
      have k71 : Go p e below m W T71 88 #[.val (.int p1), .val (.int p2), .val (.int p3), .val (.int u21_S0), .val (.int u27_S0), .val (.int u33_S0), .val (.int u39_S0), .val (.ref ro_47), .val (.ref ro_53), .unset, .unset, .unset] [(.ref b58)] := k71
      have k72 : Go p e below m W T71 90 #[.val (.int p1), .val (.int p2), .val (.int p3), .val (.int u21_S0), .val (.int u27_S0), .val (.int u33_S0), .val (.int u39_S0), .val (.ref ro_47), .val (.ref ro_53), .val (.ref b58), .unset, .unset] [] := k71.astore X71 hx (hb hby at_88) rfl rfl
      have k73 : Go p e below m W T71 92 #[.val (.int p1), .val (.int p2), .val (.int p3), .val (.int u21_S0), .val (.int u27_S0), .val (.int u33_S0), .val (.int u39_S0), .val (.ref ro_47), .val (.ref ro_53), .val (.ref b58), .unset, .unset] [(.int u39_S0)] := k72.iload X71 hx (hb hby at_90) rfl
      obtain ⟨h74, l74, T74, u74_fb58_changesExpiry, X74, e74, N74, Z74, f74_4, f74_5, f74_6, f74_7, f74_8, f74_9, f74_10, f74_11, f74_12, f74_13, f74_14, f74_15, hd74, k74⟩ : ∃ (h74 : Heap) (l74 : List Loc) (T74 : State) (u74_fb58_changesExpiry : Int32), Stand p l e room_1 s m args_ below meth c T74 l74 3 8 ∧ T74.heap = h74 ∧ Fr n0 l74 ∧ n0 ≤ h74.size ∧ Old Z n0 h74 ∧ Exa Z h74 ro_47 "java/lang/Integer" ∧ Fld Z h74 ro_47 "java/lang/Integer" "value" "I" (.int p1) ∧ Exa Z h74 ro_53 "java/lang/Integer" ∧ Fld Z h74 ro_53 "java/lang/Integer" "value" "I" (.int p2) ∧ Exa Z h74 b58 "com/example/ikat/ikat/core/LinkEdit" ∧ Fld Z h74 b58 "com/example/ikat/ikat/core/LinkEdit" "changesMaxVisits" "Z" (.int (0 : Int32)) ∧ Fld Z h74 b58 "com/example/ikat/ikat/core/LinkEdit" "maxVisits" "Ljava/lang/Integer;" .null ∧ Fld Z h74 b58 "com/example/ikat/ikat/core/LinkEdit" "destination" "Ljava/lang/String;" .null ∧ Fld Z h74 b58 "com/example/ikat/ikat/core/LinkEdit" "paused" "Ljava/lang/Boolean;" .null ∧ Fld Z h74 b58 "com/example/ikat/ikat/core/LinkEdit" "changesExpiry" "Z" (.int u74_fb58_changesExpiry) ∧ Fld Z h74 b58 "com/example/ikat/ikat/core/LinkEdit" "expiresAt" "Ljava/time/Instant;" .null ∧ (((u39_S0 = (0 : Int32)) ∧ u74_fb58_changesExpiry = (0 : Int32)) ∨ ((¬ (u39_S0 = (0 : Int32))) ∧ u74_fb58_changesExpiry = (1 : Int32))) ∧ Go p e below m W T74 102 #[.val (.int p1), .val (.int p2), .val (.int p3), .val (.int u21_S0), .val (.int u27_S0), .val (.int u33_S0), .val (.int u39_S0), .val (.ref ro_47), .val (.ref ro_53), .val (.ref b58), .unset, .unset] [] := by
        by_cases hc92_75 : u39_S0 = (0 : Int32)
        ·
          have k76 : Go p e below m W T71 102 #[.val (.int p1), .val (.int p2), .val (.int p3), .val (.int u21_S0), .val (.int u27_S0), .val (.int u33_S0), .val (.int u39_S0), .val (.ref ro_47), .val (.ref ro_53), .val (.ref b58), .unset, .unset] [] := k73.ifYes X71 hx (hb hby at_92) (XT.i0_eq_t hc92_75) (by decide) (by decide)
          exact ⟨h58, ((([] ++ L47) ++ L53) ++ L71), T71, (0 : Int32), X71.more (by decide) (by decide), e71, N71, Z58, f59, f60, f61, f62, f63, A58, f64, f65, f66, f67, f68, f69, (Or.inl ⟨hc92_75, rfl⟩), k76⟩
        ·
          have k77 : Go p e below m W T71 98 #[.val (.int p1), .val (.int p2), .val (.int p3), .val (.int u21_S0), .val (.int u27_S0), .val (.int u33_S0), .val (.int u39_S0), .val (.ref ro_47), .val (.ref ro_53), .val (.ref b58), .unset, .unset] [.null, (.ref b58)] := ((k73.ifNo X71 hx (hb hby at_92) (XT.i0_eq_f hc92_75)).aload X71 hx (hb hby at_95) rfl rfl).aconstNull X71 hx (hb hby at_97)
          obtain ⟨T78, v78, L78, X78, Q78, k78⟩ := k77.virt (y := (⟨"com/example/ikat/ikat/core/LinkEdit", "expiresAt", "(Ljava/time/Instant;)Lcom/example/ikat/ikat/core/LinkEdit;"⟩ : MethodName)) (z := (⟨"com/example/ikat/ikat/core/LinkEdit", "expiresAt", "(Ljava/time/Instant;)Lcom/example/ikat/ikat/core/LinkEdit;"⟩ : MethodName)) (Wd := 0) (cells' := 3) (slots' := 8) (argsL := [.null]) (rest := []) X71 hx hZ hown (by rw [hml]; rfl) (hv 74 rfl) (hv 75 rfl) (notFace_of_selects (args := #[]) (mvT hZ (hv 77 rfl))) (hv 77 rfl) (hv 76 rfl) (hv 78 rfl) (hv 9 rfl) (hb hby at_98) (by decide) (rmx l Z a0 hw [] b58 .null .null .null (.int (0 : Int32)) .null (.int (0 : Int32)) .null h58 n0 Z58 A58 G58 rfl f66 f67 f68 f69 f64 f65) e71 A58 rfl rfl pd_rm0_2 rfl (Nat.le_of_eq rfl) (by decide) (by decide) rfl rfl (by decide) (by decide)
          obtain ⟨rfl, Nq78, Kq78, q78_0, q78_1, q78_2, q78_3, q78_4, q78_5, q78_6⟩ := Q78
          have N78 := Fr.app N71 Nq78
          obtain ⟨h78, e78⟩ : ∃ h, T78.heap = h := ⟨_, rfl⟩
          rw [e78] at Kq78 q78_0 q78_1 q78_2 q78_3 q78_4 q78_5 q78_6
          have Z78 : n0 ≤ h78.size := Nat.le_trans Z58 Kq78.1
          have f79 := f59.keep Kq78 (by intro x q; simp only [List.mem_cons, List.not_mem_nil, or_false] at q; rcases q with rfl; exact G58)
          have f80 := f60.keep Kq78
          have f81 := f61.keep Kq78 (by simp only [List.mem_cons, List.not_mem_nil, or_false, not_or]; exact ne58_ro_47)
          have f82 := f62.keep Kq78
          have f83 := f63.keep Kq78 (by simp only [List.mem_cons, List.not_mem_nil, or_false, not_or]; exact ne58_ro_53)
          have f84 := A58.keep Kq78
          have k78 : Go p e below m W T78 101 #[.val (.int p1), .val (.int p2), .val (.int p3), .val (.int u21_S0), .val (.int u27_S0), .val (.int u33_S0), .val (.int u39_S0), .val (.ref ro_47), .val (.ref ro_53), .val (.ref b58), .unset, .unset] [(.ref b58)] := k78
          have k85 : Go p e below m W T78 102 #[.val (.int p1), .val (.int p2), .val (.int p3), .val (.int u21_S0), .val (.int u27_S0), .val (.int u33_S0), .val (.int u39_S0), .val (.ref ro_47), .val (.ref ro_53), .val (.ref b58), .unset, .unset] [] := k78.pop X78 hx (hb hby at_101) rfl
          exact ⟨h78, (((([] ++ L47) ++ L53) ++ L71) ++ L78), T78, (1 : Int32), X78.more (by decide) (by decide), e78, N78, Z78, f79, f80, f81, f82, f83, q78_0, q78_5, q78_6, q78_1, q78_2, q78_3, q78_4, (Or.inr ⟨hc92_75, rfl⟩), k85⟩
      have k86 : Go p e below m W T74 106 #[.val (.int p1), .val (.int p2), .val (.int p3), .val (.int u21_S0), .val (.int u27_S0), .val (.int u33_S0), .val (.int u39_S0), .val (.ref ro_47), .val (.ref ro_53), .val (.ref b58), .unset, .unset] [(.ref ro_47), (.ref b58)] := (k74.aload X74 hx (hb hby at_102) rfl rfl).aload X74 hx (hb hby at_104) rfl rfl
      obtain ⟨T87, v87, L87, X87, Q87, k87⟩ := k86.virt (y := (⟨"com/example/ikat/ikat/core/LinkEdit", "maxVisits", "(Ljava/lang/Integer;)Lcom/example/ikat/ikat/core/LinkEdit;"⟩ : MethodName)) (z := (⟨"com/example/ikat/ikat/core/LinkEdit", "maxVisits", "(Ljava/lang/Integer;)Lcom/example/ikat/ikat/core/LinkEdit;"⟩ : MethodName)) (Wd := 0) (cells' := 3) (slots' := 8) (argsL := [(.ref ro_47)]) (rest := []) X74 hx hZ hown (by rw [hml]; rfl) (hv 16 rfl) (hv 17 rfl) (notFace_of_selects (args := #[]) (mvT hZ (hv 19 rfl))) (hv 19 rfl) (hv 18 rfl) (hv 20 rfl) (hv 9 rfl) (hb hby at_106) (by decide) (rms l Z a0 hw [] b58 (.ref ro_47) .null .null (.int u74_fb58_changesExpiry) .null (.int (0 : Int32)) .null h74 n0 Z74 f74_9 G58 rfl f74_12 f74_13 f74_14 f74_15 f74_10 f74_11) e74 f74_9 rfl rfl pd_rm0_3 rfl (Nat.le_of_eq rfl) (by decide) (by decide) rfl rfl (by decide) (by decide)
      obtain ⟨rfl, Nq87, Kq87, q87_0, q87_1, q87_2, q87_3, q87_4, q87_5, q87_6⟩ := Q87
      have N87 := Fr.app N74 Nq87
      obtain ⟨h87, e87⟩ : ∃ h, T87.heap = h := ⟨_, rfl⟩
      rw [e87] at Kq87 q87_0 q87_1 q87_2 q87_3 q87_4 q87_5 q87_6
      have Z87 : n0 ≤ h87.size := Nat.le_trans Z74 Kq87.1
      have f88 := f74_4.keep Kq87 (by intro x q; simp only [List.mem_cons, List.not_mem_nil, or_false] at q; rcases q with rfl; exact G58)
      have f89 := f74_5.keep Kq87
      have f90 := f74_6.keep Kq87 (by simp only [List.mem_cons, List.not_mem_nil, or_false, not_or]; exact ne58_ro_47)
      have f91 := f74_7.keep Kq87
      have f92 := f74_8.keep Kq87 (by simp only [List.mem_cons, List.not_mem_nil, or_false, not_or]; exact ne58_ro_53)
      have f93 := f74_9.keep Kq87
      have k87 : Go p e below m W T87 109 #[.val (.int p1), .val (.int p2), .val (.int p3), .val (.int u21_S0), .val (.int u27_S0), .val (.int u33_S0), .val (.int u39_S0), .val (.ref ro_47), .val (.ref ro_53), .val (.ref b58), .unset, .unset] [(.ref b58)] := k87
      have k94 : Go p e below m W T87 111 #[.val (.int p1), .val (.int p2), .val (.int p3), .val (.int u21_S0), .val (.int u27_S0), .val (.int u33_S0), .val (.int u39_S0), .val (.ref ro_47), .val (.ref ro_53), .val (.ref b58), .val (.ref b58), .unset] [] := k87.astore X87 hx (hb hby at_109) rfl rfl
      have k95 : Go p e below m W T87 122 #[.val (.int p1), .val (.int p2), .val (.int p3), .val (.int u21_S0), .val (.int u27_S0), .val (.int u33_S0), .val (.int u39_S0), .val (.ref ro_47), .val (.ref ro_53), .val (.ref b58), .val (.ref b58), .unset] [(.ref b58)] := (((k94.aload X87 hx (hb hby at_111) rfl rfl).aload X87 hx (hb hby at_113) rfl rfl).acmpYes X87 hx (hb hby at_115) rfl rfl (XT.aa_eq_t rfl) (by decide) (by decide)).aload X87 hx (hb hby at_120) rfl rfl
      obtain ⟨T96, v96, L96, X96, Q96, k96⟩ := k95.virt (y := (⟨"com/example/ikat/ikat/core/LinkEdit", "changesMaxVisits", "()Z"⟩ : MethodName)) (z := (⟨"com/example/ikat/ikat/core/LinkEdit", "changesMaxVisits", "()Z"⟩ : MethodName)) (Wd := 0) (cells' := 3) (slots' := 8) (argsL := []) (rest := []) X87 hx hZ hown (by rw [hml]; rfl) (hv 25 rfl) (hv 26 rfl) (notFace_of_selects (args := #[]) (mvT hZ (hv 28 rfl))) (hv 28 rfl) (hv 27 rfl) (hv 29 rfl) (hv 9 rfl) (hb hby at_122) (by decide) (rmg4 l Z a0 hw [] b58 (1 : Int32) h87 n0 Z87 (Or.inr rfl) q87_5) e87 q87_0 rfl rfl pd_rm0_4 rfl (Nat.le_of_eq rfl) (by decide) (by decide) rfl rfl (by decide) (by decide)
      obtain ⟨rfl, Nq96, e96q⟩ := Q96
      have N96 := Fr.app N87 Nq96
      have e96 : T96.heap = h87 := e96q
      have k96 : Go p e below m W T96 125 #[.val (.int p1), .val (.int p2), .val (.int p3), .val (.int u21_S0), .val (.int u27_S0), .val (.int u33_S0), .val (.int u39_S0), .val (.ref ro_47), .val (.ref ro_53), .val (.ref b58), .val (.ref b58), .unset] [(.int (1 : Int32))] := k96
      have k97 : Go p e below m W T96 132 #[.val (.int p1), .val (.int p2), .val (.int p3), .val (.int u21_S0), .val (.int u27_S0), .val (.int u33_S0), .val (.int u39_S0), .val (.ref ro_47), .val (.ref ro_53), .val (.ref b58), .val (.ref b58), .unset] [(.ref b58)] := (k96.ifYes X96 hx (hb hby at_125) (XT.i0_ne_t (by decide)) (by decide) (by decide)).aload X96 hx (hb hby at_130) rfl rfl
      obtain ⟨T98, v98, L98, X98, Q98, k98⟩ := k97.virt (y := (⟨"com/example/ikat/ikat/core/LinkEdit", "maxVisits", "()Ljava/lang/Integer;"⟩ : MethodName)) (z := (⟨"com/example/ikat/ikat/core/LinkEdit", "maxVisits", "()Ljava/lang/Integer;"⟩ : MethodName)) (Wd := 0) (cells' := 3) (slots' := 8) (argsL := []) (rest := []) X96 hx hZ hown (by rw [hml]; rfl) (hv 30 rfl) (hv 31 rfl) (notFace_of_selects (args := #[]) (mvT hZ (hv 33 rfl))) (hv 33 rfl) (hv 32 rfl) (hv 34 rfl) (hv 9 rfl) (hb hby at_132) (by decide) (rmg5 l Z a0 hw [] b58 (.ref ro_47) h87 n0 Z87 rfl q87_6) e96 q87_0 rfl rfl pd_rm0_5 rfl (Nat.le_of_eq rfl) (by decide) (by decide) rfl rfl (by decide) (by decide)
      obtain ⟨rfl, Nq98, e98q⟩ := Q98
      have N98 := Fr.app N96 Nq98
      have e98 : T98.heap = h87 := e98q
      have k98 : Go p e below m W T98 135 #[.val (.int p1), .val (.int p2), .val (.int p3), .val (.int u21_S0), .val (.int u27_S0), .val (.int u33_S0), .val (.int u39_S0), .val (.ref ro_47), .val (.ref ro_53), .val (.ref b58), .val (.ref b58), .unset] [(.ref ro_47)] := k98
      have k99 : Go p e below m W T98 137 #[.val (.int p1), .val (.int p2), .val (.int p3), .val (.int u21_S0), .val (.int u27_S0), .val (.int u33_S0), .val (.int u39_S0), .val (.ref ro_47), .val (.ref ro_53), .val (.ref b58), .val (.ref b58), .unset] [(.int p1), (.int u21_S0), (.ref ro_47)] := (k98.iloadN X98 hx (hb hby at_135) rfl).iloadN X98 hx (hb hby at_136) rfl
      obtain ⟨T100, v100, L100, X100, Q100, k100⟩ := k99.stat (y := (⟨"com/example/ikat/ikat/core/LinkEditMaxVisitsPinLaw", "matches", "(Ljava/lang/Integer;ZI)Z"⟩ : MethodName)) (Wd := 0) (cells' := 3) (slots' := 8) (argsL := [(.ref ro_47), (.int u21_S0), (.int p1)]) (rest := []) X98 hx hZ hown (by rw [hml]; rfl) (hv 35 rfl) (hv 36 rfl) (hv 38 rfl) (hv 37 rfl) (hb hby at_137) (by decide) (rmmR l Z a0 hw [] ro_47 u21_S0 p1 h87 n0 Z87 hc53_45 f89 f90) e98 rfl rfl pd_rm0_6 rfl (Nat.le_of_eq rfl) (by decide) (by decide) rfl rfl (by decide) (by decide)
      obtain ⟨rfl, Nq100, e100q⟩ := Q100
      have N100 := Fr.app N98 Nq100
      have e100 : T100.heap = h87 := e100q
      have k100 : Go p e below m W T100 140 #[.val (.int p1), .val (.int p2), .val (.int p3), .val (.int u21_S0), .val (.int u27_S0), .val (.int u33_S0), .val (.int u39_S0), .val (.ref ro_47), .val (.ref ro_53), .val (.ref b58), .val (.ref b58), .unset] [(.int (1 : Int32))] := k100
      have k101 : Go p e below m W T100 147 #[.val (.int p1), .val (.int p2), .val (.int p3), .val (.int u21_S0), .val (.int u27_S0), .val (.int u33_S0), .val (.int u39_S0), .val (.ref ro_47), .val (.ref ro_53), .val (.ref b58), .val (.ref b58), .unset] [(.int u27_S0)] := (k100.ifYes X100 hx (hb hby at_140) (XT.i0_ne_t (by decide)) (by decide) (by decide)).iload X100 hx (hb hby at_145) rfl
      obtain ⟨h102, l102, T102, u102_L11, u102_fb58_maxVisits, X102, e102, N102, Z102, f102_4, f102_5, f102_6, f102_7, f102_8, f102_9, f102_10, f102_11, f102_12, f102_13, f102_14, f102_15, hd102, k102⟩ : ∃ (h102 : Heap) (l102 : List Loc) (T102 : State) (u102_L11 : Slot) (u102_fb58_maxVisits : Addr), Stand p l e room_1 s m args_ below meth c T102 l102 3 8 ∧ T102.heap = h102 ∧ Fr n0 l102 ∧ n0 ≤ h102.size ∧ Old Z n0 h102 ∧ Exa Z h102 ro_47 "java/lang/Integer" ∧ Fld Z h102 ro_47 "java/lang/Integer" "value" "I" (.int p1) ∧ Exa Z h102 ro_53 "java/lang/Integer" ∧ Fld Z h102 ro_53 "java/lang/Integer" "value" "I" (.int p2) ∧ Exa Z h102 b58 "com/example/ikat/ikat/core/LinkEdit" ∧ Fld Z h102 b58 "com/example/ikat/ikat/core/LinkEdit" "destination" "Ljava/lang/String;" .null ∧ Fld Z h102 b58 "com/example/ikat/ikat/core/LinkEdit" "paused" "Ljava/lang/Boolean;" .null ∧ Fld Z h102 b58 "com/example/ikat/ikat/core/LinkEdit" "changesExpiry" "Z" (.int u74_fb58_changesExpiry) ∧ Fld Z h102 b58 "com/example/ikat/ikat/core/LinkEdit" "expiresAt" "Ljava/time/Instant;" .null ∧ Fld Z h102 b58 "com/example/ikat/ikat/core/LinkEdit" "changesMaxVisits" "Z" (.int (1 : Int32)) ∧ Fld Z h102 b58 "com/example/ikat/ikat/core/LinkEdit" "maxVisits" "Ljava/lang/Integer;" (.ref u102_fb58_maxVisits) ∧ (((u27_S0 = (0 : Int32)) ∧ u102_L11 = .unset ∧ u102_fb58_maxVisits = ro_47) ∨ ((¬ (u27_S0 = (0 : Int32))) ∧ u102_L11 = .val (.ref b58) ∧ u102_fb58_maxVisits = ro_53)) ∧ Go p e below m W T102 184 #[.val (.int p1), .val (.int p2), .val (.int p3), .val (.int u21_S0), .val (.int u27_S0), .val (.int u33_S0), .val (.int u39_S0), .val (.ref ro_47), .val (.ref ro_53), .val (.ref b58), .val (.ref b58), u102_L11] [] := by
        by_cases hc147_103 : u27_S0 = (0 : Int32)
        ·
          have k104 : Go p e below m W T100 184 #[.val (.int p1), .val (.int p2), .val (.int p3), .val (.int u21_S0), .val (.int u27_S0), .val (.int u33_S0), .val (.int u39_S0), .val (.ref ro_47), .val (.ref ro_53), .val (.ref b58), .val (.ref b58), .unset] [] := k101.ifYes X100 hx (hb hby at_147) (XT.i0_eq_t hc147_103) (by decide) (by decide)
          exact ⟨h87, ((((l74 ++ L87) ++ L96) ++ L98) ++ L100), T100, .unset, ro_47, X100.more (by decide) (by decide), e100, N100, Z87, f88, f89, f90, f91, f92, q87_0, q87_1, q87_2, q87_3, q87_4, q87_5, q87_6, (Or.inl ⟨hc147_103, rfl, rfl⟩), k104⟩
        ·
          have k105 : Go p e below m W T100 154 #[.val (.int p1), .val (.int p2), .val (.int p3), .val (.int u21_S0), .val (.int u27_S0), .val (.int u33_S0), .val (.int u39_S0), .val (.ref ro_47), .val (.ref ro_53), .val (.ref b58), .val (.ref b58), .unset] [(.ref ro_53), (.ref b58)] := ((k101.ifNo X100 hx (hb hby at_147) (XT.i0_eq_f hc147_103)).aload X100 hx (hb hby at_150) rfl rfl).aload X100 hx (hb hby at_152) rfl rfl
          obtain ⟨T106, v106, L106, X106, Q106, k106⟩ := k105.virt (y := (⟨"com/example/ikat/ikat/core/LinkEdit", "maxVisits", "(Ljava/lang/Integer;)Lcom/example/ikat/ikat/core/LinkEdit;"⟩ : MethodName)) (z := (⟨"com/example/ikat/ikat/core/LinkEdit", "maxVisits", "(Ljava/lang/Integer;)Lcom/example/ikat/ikat/core/LinkEdit;"⟩ : MethodName)) (Wd := 0) (cells' := 3) (slots' := 8) (argsL := [(.ref ro_53)]) (rest := []) X100 hx hZ hown (by rw [hml]; rfl) (hv 16 rfl) (hv 17 rfl) (notFace_of_selects (args := #[]) (mvT hZ (hv 19 rfl))) (hv 19 rfl) (hv 18 rfl) (hv 20 rfl) (hv 9 rfl) (hb hby at_154) (by decide) (rms l Z a0 hw [] b58 (.ref ro_53) .null .null (.int u74_fb58_changesExpiry) .null (.int (1 : Int32)) (.ref ro_47) h87 n0 Z87 q87_0 G58 rfl q87_1 q87_2 q87_3 q87_4 q87_5 q87_6) e100 q87_0 rfl rfl pd_rm0_3 rfl (Nat.le_of_eq rfl) (by decide) (by decide) rfl rfl (by decide) (by decide)
          obtain ⟨rfl, Nq106, Kq106, q106_0, q106_1, q106_2, q106_3, q106_4, q106_5, q106_6⟩ := Q106
          have N106 := Fr.app N100 Nq106
          obtain ⟨h106, e106⟩ : ∃ h, T106.heap = h := ⟨_, rfl⟩
          rw [e106] at Kq106 q106_0 q106_1 q106_2 q106_3 q106_4 q106_5 q106_6
          have Z106 : n0 ≤ h106.size := Nat.le_trans Z87 Kq106.1
          have f107 := f88.keep Kq106 (by intro x q; simp only [List.mem_cons, List.not_mem_nil, or_false] at q; rcases q with rfl; exact G58)
          have f108 := f89.keep Kq106
          have f109 := f90.keep Kq106 (by simp only [List.mem_cons, List.not_mem_nil, or_false, not_or]; exact ne58_ro_47)
          have f110 := f91.keep Kq106
          have f111 := f92.keep Kq106 (by simp only [List.mem_cons, List.not_mem_nil, or_false, not_or]; exact ne58_ro_53)
          have f112 := q87_0.keep Kq106
          have k106 : Go p e below m W T106 157 #[.val (.int p1), .val (.int p2), .val (.int p3), .val (.int u21_S0), .val (.int u27_S0), .val (.int u33_S0), .val (.int u39_S0), .val (.ref ro_47), .val (.ref ro_53), .val (.ref b58), .val (.ref b58), .unset] [(.ref b58)] := k106
          have k113 : Go p e below m W T106 159 #[.val (.int p1), .val (.int p2), .val (.int p3), .val (.int u21_S0), .val (.int u27_S0), .val (.int u33_S0), .val (.int u39_S0), .val (.ref ro_47), .val (.ref ro_53), .val (.ref b58), .val (.ref b58), .val (.ref b58)] [] := k106.astore X106 hx (hb hby at_157) rfl rfl
          have k114 : Go p e below m W T106 170 #[.val (.int p1), .val (.int p2), .val (.int p3), .val (.int u21_S0), .val (.int u27_S0), .val (.int u33_S0), .val (.int u39_S0), .val (.ref ro_47), .val (.ref ro_53), .val (.ref b58), .val (.ref b58), .val (.ref b58)] [(.ref b58)] := (((k113.aload X106 hx (hb hby at_159) rfl rfl).aload X106 hx (hb hby at_161) rfl rfl).acmpYes X106 hx (hb hby at_163) rfl rfl (XT.aa_eq_t rfl) (by decide) (by decide)).aload X106 hx (hb hby at_168) rfl rfl
          obtain ⟨T115, v115, L115, X115, Q115, k115⟩ := k114.virt (y := (⟨"com/example/ikat/ikat/core/LinkEdit", "maxVisits", "()Ljava/lang/Integer;"⟩ : MethodName)) (z := (⟨"com/example/ikat/ikat/core/LinkEdit", "maxVisits", "()Ljava/lang/Integer;"⟩ : MethodName)) (Wd := 0) (cells' := 3) (slots' := 8) (argsL := []) (rest := []) X106 hx hZ hown (by rw [hml]; rfl) (hv 30 rfl) (hv 31 rfl) (notFace_of_selects (args := #[]) (mvT hZ (hv 33 rfl))) (hv 33 rfl) (hv 32 rfl) (hv 34 rfl) (hv 9 rfl) (hb hby at_170) (by decide) (rmg5 l Z a0 hw [] b58 (.ref ro_53) h106 n0 Z106 rfl q106_6) e106 q106_0 rfl rfl pd_rm0_5 rfl (Nat.le_of_eq rfl) (by decide) (by decide) rfl rfl (by decide) (by decide)
          obtain ⟨rfl, Nq115, e115q⟩ := Q115
          have N115 := Fr.app N106 Nq115
          have e115 : T115.heap = h106 := e115q
          have k115 : Go p e below m W T115 173 #[.val (.int p1), .val (.int p2), .val (.int p3), .val (.int u21_S0), .val (.int u27_S0), .val (.int u33_S0), .val (.int u39_S0), .val (.ref ro_47), .val (.ref ro_53), .val (.ref b58), .val (.ref b58), .val (.ref b58)] [(.ref ro_53)] := k115
          have k116 : Go p e below m W T115 176 #[.val (.int p1), .val (.int p2), .val (.int p3), .val (.int u21_S0), .val (.int u27_S0), .val (.int u33_S0), .val (.int u39_S0), .val (.ref ro_47), .val (.ref ro_53), .val (.ref b58), .val (.ref b58), .val (.ref b58)] [(.int p2), (.int u33_S0), (.ref ro_53)] := (k115.iload X115 hx (hb hby at_173) rfl).iloadN X115 hx (hb hby at_175) rfl
          obtain ⟨T117, v117, L117, X117, Q117, k117⟩ := k116.stat (y := (⟨"com/example/ikat/ikat/core/LinkEditMaxVisitsPinLaw", "matches", "(Ljava/lang/Integer;ZI)Z"⟩ : MethodName)) (Wd := 0) (cells' := 3) (slots' := 8) (argsL := [(.ref ro_53), (.int u33_S0), (.int p2)]) (rest := []) X115 hx hZ hown (by rw [hml]; rfl) (hv 35 rfl) (hv 36 rfl) (hv 38 rfl) (hv 37 rfl) (hb hby at_176) (by decide) (rmmR l Z a0 hw [] ro_53 u33_S0 p2 h106 n0 Z106 hc68_51 f110 f111) e115 rfl rfl pd_rm0_6 rfl (Nat.le_of_eq rfl) (by decide) (by decide) rfl rfl (by decide) (by decide)
          obtain ⟨rfl, Nq117, e117q⟩ := Q117
          have N117 := Fr.app N115 Nq117
          have e117 : T117.heap = h106 := e117q
          have k117 : Go p e below m W T117 179 #[.val (.int p1), .val (.int p2), .val (.int p3), .val (.int u21_S0), .val (.int u27_S0), .val (.int u33_S0), .val (.int u39_S0), .val (.ref ro_47), .val (.ref ro_53), .val (.ref b58), .val (.ref b58), .val (.ref b58)] [(.int (1 : Int32))] := k117
          have k118 : Go p e below m W T117 184 #[.val (.int p1), .val (.int p2), .val (.int p3), .val (.int u21_S0), .val (.int u27_S0), .val (.int u33_S0), .val (.int u39_S0), .val (.ref ro_47), .val (.ref ro_53), .val (.ref b58), .val (.ref b58), .val (.ref b58)] [] := k117.ifYes X117 hx (hb hby at_179) (XT.i0_ne_t (by decide)) (by decide) (by decide)
          exact ⟨h106, (((((((l74 ++ L87) ++ L96) ++ L98) ++ L100) ++ L106) ++ L115) ++ L117), T117, .val (.ref b58), ro_53, X117.more (by decide) (by decide), e117, N117, Z106, f107, f108, f109, f110, f111, q106_0, q106_1, q106_2, q106_3, q106_4, q106_5, q106_6, (Or.inr ⟨hc147_103, rfl, rfl⟩), k118⟩
      have k119 : Go p e below m W T102 186 #[.val (.int p1), .val (.int p2), .val (.int p3), .val (.int u21_S0), .val (.int u27_S0), .val (.int u33_S0), .val (.int u39_S0), .val (.ref ro_47), .val (.ref ro_53), .val (.ref b58), .val (.ref b58), u102_L11] [(.ref b58)] := k102.aload X102 hx (hb hby at_184) rfl rfl
      obtain ⟨T120, v120, L120, X120, Q120, k120⟩ := k119.virt (y := (⟨"com/example/ikat/ikat/core/LinkEdit", "destination", "()Ljava/lang/String;"⟩ : MethodName)) (z := (⟨"com/example/ikat/ikat/core/LinkEdit", "destination", "()Ljava/lang/String;"⟩ : MethodName)) (Wd := 0) (cells' := 3) (slots' := 8) (argsL := []) (rest := []) X102 hx hZ hown (by rw [hml]; rfl) (hv 46 rfl) (hv 47 rfl) (notFace_of_selects (args := #[]) (mvT hZ (hv 49 rfl))) (hv 49 rfl) (hv 48 rfl) (hv 50 rfl) (hv 9 rfl) (hb hby at_186) (by decide) (rmg0 l Z a0 hw [] b58 .null h102 n0 Z102 rfl f102_10) e102 f102_9 rfl rfl pd_rm0_7 rfl (Nat.le_of_eq rfl) (by decide) (by decide) rfl rfl (by decide) (by decide)
      obtain ⟨rfl, Nq120, e120q⟩ := Q120
      have N120 := Fr.app N102 Nq120
      have e120 : T120.heap = h102 := e120q
      have k120 : Go p e below m W T120 189 #[.val (.int p1), .val (.int p2), .val (.int p3), .val (.int u21_S0), .val (.int u27_S0), .val (.int u33_S0), .val (.int u39_S0), .val (.ref ro_47), .val (.ref ro_53), .val (.ref b58), .val (.ref b58), u102_L11] [.null] := k120
      have k121 : Go p e below m W T120 194 #[.val (.int p1), .val (.int p2), .val (.int p3), .val (.int u21_S0), .val (.int u27_S0), .val (.int u33_S0), .val (.int u39_S0), .val (.ref ro_47), .val (.ref ro_53), .val (.ref b58), .val (.ref b58), u102_L11] [(.ref b58)] := (k120.nonnullNo X120 hx (hb hby at_189) rfl).aload X120 hx (hb hby at_192) rfl rfl
      obtain ⟨T122, v122, L122, X122, Q122, k122⟩ := k121.virt (y := (⟨"com/example/ikat/ikat/core/LinkEdit", "paused", "()Ljava/lang/Boolean;"⟩ : MethodName)) (z := (⟨"com/example/ikat/ikat/core/LinkEdit", "paused", "()Ljava/lang/Boolean;"⟩ : MethodName)) (Wd := 0) (cells' := 3) (slots' := 8) (argsL := []) (rest := []) X120 hx hZ hown (by rw [hml]; rfl) (hv 53 rfl) (hv 54 rfl) (notFace_of_selects (args := #[]) (mvT hZ (hv 56 rfl))) (hv 56 rfl) (hv 55 rfl) (hv 57 rfl) (hv 9 rfl) (hb hby at_194) (by decide) (rmg1 l Z a0 hw [] b58 .null h102 n0 Z102 rfl f102_11) e120 f102_9 rfl rfl pd_rm0_8 rfl (Nat.le_of_eq rfl) (by decide) (by decide) rfl rfl (by decide) (by decide)
      obtain ⟨rfl, Nq122, e122q⟩ := Q122
      have N122 := Fr.app N120 Nq122
      have e122 : T122.heap = h102 := e122q
      have k122 : Go p e below m W T122 197 #[.val (.int p1), .val (.int p2), .val (.int p3), .val (.int u21_S0), .val (.int u27_S0), .val (.int u33_S0), .val (.int u39_S0), .val (.ref ro_47), .val (.ref ro_53), .val (.ref b58), .val (.ref b58), u102_L11] [.null] := k122
      have k123 : Go p e below m W T122 202 #[.val (.int p1), .val (.int p2), .val (.int p3), .val (.int u21_S0), .val (.int u27_S0), .val (.int u33_S0), .val (.int u39_S0), .val (.ref ro_47), .val (.ref ro_53), .val (.ref b58), .val (.ref b58), u102_L11] [(.ref b58)] := (k122.nonnullNo X122 hx (hb hby at_197) rfl).aload X122 hx (hb hby at_200) rfl rfl
      obtain ⟨T124, v124, L124, X124, Q124, k124⟩ := k123.virt (y := (⟨"com/example/ikat/ikat/core/LinkEdit", "changesExpiry", "()Z"⟩ : MethodName)) (z := (⟨"com/example/ikat/ikat/core/LinkEdit", "changesExpiry", "()Z"⟩ : MethodName)) (Wd := 0) (cells' := 3) (slots' := 8) (argsL := []) (rest := []) X122 hx hZ hown (by rw [hml]; rfl) (hv 60 rfl) (hv 61 rfl) (notFace_of_selects (args := #[]) (mvT hZ (hv 63 rfl))) (hv 63 rfl) (hv 62 rfl) (hv 64 rfl) (hv 9 rfl) (hb hby at_202) (by decide) (rmg2 l Z a0 hw [] b58 u74_fb58_changesExpiry h102 n0 Z102 (by rcases hd74 with ⟨_, q⟩ | ⟨_, q⟩ <;> first | exact Or.inl q | exact Or.inr q) f102_12) e122 f102_9 rfl rfl pd_rm0_4 rfl (Nat.le_of_eq rfl) (by decide) (by decide) rfl rfl (by decide) (by decide)
      obtain ⟨rfl, Nq124, e124q⟩ := Q124
      have N124 := Fr.app N122 Nq124
      have e124 : T124.heap = h102 := e124q
      have k124 : Go p e below m W T124 205 #[.val (.int p1), .val (.int p2), .val (.int p3), .val (.int u21_S0), .val (.int u27_S0), .val (.int u33_S0), .val (.int u39_S0), .val (.ref ro_47), .val (.ref ro_53), .val (.ref b58), .val (.ref b58), u102_L11] [(.int u74_fb58_changesExpiry)] := k124
      have k125 : Go p e below m W T124 212 #[.val (.int p1), .val (.int p2), .val (.int p3), .val (.int u21_S0), .val (.int u27_S0), .val (.int u33_S0), .val (.int u39_S0), .val (.ref ro_47), .val (.ref ro_53), .val (.ref b58), .val (.ref b58), u102_L11] [(.ref b58)] := ((k124.iload X124 hx (hb hby at_205) rfl).icmpNo X124 hx (hb hby at_207) (XT.ii_ne_f (by have q1 := hd39; have q2 := hd74; rcases q1 with ⟨_, q⟩ | ⟨_, q⟩ <;> simp_all))).aload X124 hx (hb hby at_210) rfl rfl
      obtain ⟨T126, v126, L126, X126, Q126, k126⟩ := k125.virt (y := (⟨"com/example/ikat/ikat/core/LinkEdit", "expiresAt", "()Ljava/time/Instant;"⟩ : MethodName)) (z := (⟨"com/example/ikat/ikat/core/LinkEdit", "expiresAt", "()Ljava/time/Instant;"⟩ : MethodName)) (Wd := 0) (cells' := 3) (slots' := 8) (argsL := []) (rest := []) X124 hx hZ hown (by rw [hml]; rfl) (hv 67 rfl) (hv 68 rfl) (notFace_of_selects (args := #[]) (mvT hZ (hv 70 rfl))) (hv 70 rfl) (hv 69 rfl) (hv 71 rfl) (hv 9 rfl) (hb hby at_212) (by decide) (rmg3 l Z a0 hw [] b58 .null h102 n0 Z102 rfl f102_13) e124 f102_9 rfl rfl pd_rm0_9 rfl (Nat.le_of_eq rfl) (by decide) (by decide) rfl rfl (by decide) (by decide)
      obtain ⟨rfl, Nq126, e126q⟩ := Q126
      have N126 := Fr.app N124 Nq126
      have e126 : T126.heap = h102 := e126q
      have k126 : Go p e below m W T126 215 #[.val (.int p1), .val (.int p2), .val (.int p3), .val (.int u21_S0), .val (.int u27_S0), .val (.int u33_S0), .val (.int u39_S0), .val (.ref ro_47), .val (.ref ro_53), .val (.ref b58), .val (.ref b58), u102_L11] [.null] := k126
      have k127 : Go p e below m W T126 223 #[.val (.int p1), .val (.int p2), .val (.int p3), .val (.int u21_S0), .val (.int u27_S0), .val (.int u33_S0), .val (.int u39_S0), .val (.ref ro_47), .val (.ref ro_53), .val (.ref b58), .val (.ref b58), u102_L11] [(.int (1 : Int32))] := ((k126.nonnullNo X126 hx (hb hby at_215) rfl).iconst X126 hx (hb hby at_218) (v := (1 : Int32)) rfl).goto X126 hx (hb hby at_219) (by decide) (by decide)
      exact k127.ireturnN X126 hx (t := .boolean) Bd.returns (by simp) rfl (hb hby at_223) (BodyLoose.notSynchronized Bd) (by rw [e126]; exact ⟨rfl, N126⟩) (by decide) (by decide)
    ·
      have k128 : Go p e below m W T47 81 #[.val (.int p1), .val (.int p2), .val (.int p3), .val (.int u21_S0), .val (.int u27_S0), .val (.int u33_S0), .val (.int u39_S0), .val (.ref ro_47), .val .null, .unset, .unset, .unset] [] := (((k50.ifNo X47 hx (hb hby at_68) (XT.i0_eq_f hc68_51)).aconstNull X47 hx (hb hby at_71)).goto X47 hx (hb hby at_72) (by decide) (by decide)).astore X47 hx (hb hby at_79) rfl rfl
      obtain ⟨T129, h129, b129, X129, e129, g129, E129, A129, D129, k129⟩ := k128.newO (cells' := 2) (slots' := 7) X47 hx hZ hown (hv 7 rfl) (hv 8 rfl) (hv 9 rfl) e47 (hb hby at_81) rfl rfl (by decide) (by decide)
      have k129 : Go p e below m W T129 84 #[.val (.int p1), .val (.int p2), .val (.int p3), .val (.int u21_S0), .val (.int u27_S0), .val (.int u33_S0), .val (.int u39_S0), .val (.ref ro_47), .val .null, .unset, .unset, .unset] [(.ref b129)] := k129
      have Z129 : n0 ≤ h129.size := Nat.le_trans Z47 E129.1
      have ne129_ro_47 : ro_47 ≠ b129 := Nat.ne_of_lt (g129 ▸ q47_0.lt)
      have f130 := f48.ext E129
      have f131 := q47_0.ext E129
      have f132 := q47_1.ext E129
      have G129 : n0 ≤ b129 := g129 ▸ Z47
      have f133 : Fld Z h129 b129 "com/example/ikat/ikat/core/LinkEdit" "changesMaxVisits" "Z" (.int (0 : Int32)) := D129 (Or.inl (hv 22 rfl)) (ty := .boolean) (by decide)
      have f134 : Fld Z h129 b129 "com/example/ikat/ikat/core/LinkEdit" "maxVisits" "Ljava/lang/Integer;" .null := D129 (Or.inl (hv 24 rfl)) (ty := (.object "java/lang/Integer")) (by decide)
      have f135 : Fld Z h129 b129 "com/example/ikat/ikat/core/LinkEdit" "destination" "Ljava/lang/String;" .null := D129 (Or.inl (hv 52 rfl)) (ty := (.object "java/lang/String")) (by decide)
      have f136 : Fld Z h129 b129 "com/example/ikat/ikat/core/LinkEdit" "paused" "Ljava/lang/Boolean;" .null := D129 (Or.inl (hv 59 rfl)) (ty := (.object "java/lang/Boolean")) (by decide)
      have f137 : Fld Z h129 b129 "com/example/ikat/ikat/core/LinkEdit" "changesExpiry" "Z" (.int (0 : Int32)) := D129 (Or.inl (hv 66 rfl)) (ty := .boolean) (by decide)
      have f138 : Fld Z h129 b129 "com/example/ikat/ikat/core/LinkEdit" "expiresAt" "Ljava/time/Instant;" .null := D129 (Or.inl (hv 73 rfl)) (ty := (.object "java/time/Instant")) (by decide)
      have k139 : Go p e below m W T129 85 #[.val (.int p1), .val (.int p2), .val (.int p3), .val (.int u21_S0), .val (.int u27_S0), .val (.int u33_S0), .val (.int u39_S0), .val (.ref ro_47), .val .null, .unset, .unset, .unset] [(.ref b129), (.ref b129)] := k129.dup X129 hx (hb hby at_84) rfl
      obtain ⟨T140, v140, L140, X140, Q140, k140⟩ := k139.spec (y := (⟨"com/example/ikat/ikat/core/LinkEdit", "<init>", "()V"⟩ : MethodName)) (b := b129) (Wd := 1) (cells' := 2) (slots' := 7) (argsL := []) (rest := [(.ref b129)]) X129 hx hZ hown (by rw [hml]; rfl) rfl (hv 10 rfl) (hv 11 rfl) (hv 12 rfl) (hv 9 rfl) (hb hby at_85) (by decide) (rme l Z a0 hw [] b129 h129 n0 Z129) e129 rfl rfl pd_rm0_1 rfl (Nat.le_of_eq rfl) (by decide) (by decide) rfl rfl (by decide) (by decide)
      obtain ⟨rfl, Nq140, e140q⟩ := Q140
      have N140 := Fr.app N47 Nq140
      have e140 : T140.heap = h129 := e140q
      have k140 : Go p e below m W T140 88 #[.val (.int p1), .val (.int p2), .val (.int p3), .val (.int u21_S0), .val (.int u27_S0), .val (.int u33_S0), .val (.int u39_S0), .val (.ref ro_47), .val .null, .unset, .unset, .unset] [(.ref b129)] := k140
      have k141 : Go p e below m W T140 90 #[.val (.int p1), .val (.int p2), .val (.int p3), .val (.int u21_S0), .val (.int u27_S0), .val (.int u33_S0), .val (.int u39_S0), .val (.ref ro_47), .val .null, .val (.ref b129), .unset, .unset] [] := k140.astore X140 hx (hb hby at_88) rfl rfl
      have k142 : Go p e below m W T140 92 #[.val (.int p1), .val (.int p2), .val (.int p3), .val (.int u21_S0), .val (.int u27_S0), .val (.int u33_S0), .val (.int u39_S0), .val (.ref ro_47), .val .null, .val (.ref b129), .unset, .unset] [(.int u39_S0)] := k141.iload X140 hx (hb hby at_90) rfl
      obtain ⟨h143, l143, T143, u143_fb129_changesExpiry, X143, e143, N143, Z143, f143_4, f143_5, f143_6, f143_7, f143_8, f143_9, f143_10, f143_11, f143_12, f143_13, hd143, k143⟩ : ∃ (h143 : Heap) (l143 : List Loc) (T143 : State) (u143_fb129_changesExpiry : Int32), Stand p l e room_1 s m args_ below meth c T143 l143 2 7 ∧ T143.heap = h143 ∧ Fr n0 l143 ∧ n0 ≤ h143.size ∧ Old Z n0 h143 ∧ Exa Z h143 ro_47 "java/lang/Integer" ∧ Fld Z h143 ro_47 "java/lang/Integer" "value" "I" (.int p1) ∧ Exa Z h143 b129 "com/example/ikat/ikat/core/LinkEdit" ∧ Fld Z h143 b129 "com/example/ikat/ikat/core/LinkEdit" "changesMaxVisits" "Z" (.int (0 : Int32)) ∧ Fld Z h143 b129 "com/example/ikat/ikat/core/LinkEdit" "maxVisits" "Ljava/lang/Integer;" .null ∧ Fld Z h143 b129 "com/example/ikat/ikat/core/LinkEdit" "destination" "Ljava/lang/String;" .null ∧ Fld Z h143 b129 "com/example/ikat/ikat/core/LinkEdit" "paused" "Ljava/lang/Boolean;" .null ∧ Fld Z h143 b129 "com/example/ikat/ikat/core/LinkEdit" "changesExpiry" "Z" (.int u143_fb129_changesExpiry) ∧ Fld Z h143 b129 "com/example/ikat/ikat/core/LinkEdit" "expiresAt" "Ljava/time/Instant;" .null ∧ (((u39_S0 = (0 : Int32)) ∧ u143_fb129_changesExpiry = (0 : Int32)) ∨ ((¬ (u39_S0 = (0 : Int32))) ∧ u143_fb129_changesExpiry = (1 : Int32))) ∧ Go p e below m W T143 102 #[.val (.int p1), .val (.int p2), .val (.int p3), .val (.int u21_S0), .val (.int u27_S0), .val (.int u33_S0), .val (.int u39_S0), .val (.ref ro_47), .val .null, .val (.ref b129), .unset, .unset] [] := by
        by_cases hc92_144 : u39_S0 = (0 : Int32)
        ·
          have k145 : Go p e below m W T140 102 #[.val (.int p1), .val (.int p2), .val (.int p3), .val (.int u21_S0), .val (.int u27_S0), .val (.int u33_S0), .val (.int u39_S0), .val (.ref ro_47), .val .null, .val (.ref b129), .unset, .unset] [] := k142.ifYes X140 hx (hb hby at_92) (XT.i0_eq_t hc92_144) (by decide) (by decide)
          exact ⟨h129, (([] ++ L47) ++ L140), T140, (0 : Int32), X140.more (by decide) (by decide), e140, N140, Z129, f130, f131, f132, A129, f133, f134, f135, f136, f137, f138, (Or.inl ⟨hc92_144, rfl⟩), k145⟩
        ·
          have k146 : Go p e below m W T140 98 #[.val (.int p1), .val (.int p2), .val (.int p3), .val (.int u21_S0), .val (.int u27_S0), .val (.int u33_S0), .val (.int u39_S0), .val (.ref ro_47), .val .null, .val (.ref b129), .unset, .unset] [.null, (.ref b129)] := ((k142.ifNo X140 hx (hb hby at_92) (XT.i0_eq_f hc92_144)).aload X140 hx (hb hby at_95) rfl rfl).aconstNull X140 hx (hb hby at_97)
          obtain ⟨T147, v147, L147, X147, Q147, k147⟩ := k146.virt (y := (⟨"com/example/ikat/ikat/core/LinkEdit", "expiresAt", "(Ljava/time/Instant;)Lcom/example/ikat/ikat/core/LinkEdit;"⟩ : MethodName)) (z := (⟨"com/example/ikat/ikat/core/LinkEdit", "expiresAt", "(Ljava/time/Instant;)Lcom/example/ikat/ikat/core/LinkEdit;"⟩ : MethodName)) (Wd := 0) (cells' := 2) (slots' := 7) (argsL := [.null]) (rest := []) X140 hx hZ hown (by rw [hml]; rfl) (hv 74 rfl) (hv 75 rfl) (notFace_of_selects (args := #[]) (mvT hZ (hv 77 rfl))) (hv 77 rfl) (hv 76 rfl) (hv 78 rfl) (hv 9 rfl) (hb hby at_98) (by decide) (rmx l Z a0 hw [] b129 .null .null .null (.int (0 : Int32)) .null (.int (0 : Int32)) .null h129 n0 Z129 A129 G129 rfl f135 f136 f137 f138 f133 f134) e140 A129 rfl rfl pd_rm0_2 rfl (Nat.le_of_eq rfl) (by decide) (by decide) rfl rfl (by decide) (by decide)
          obtain ⟨rfl, Nq147, Kq147, q147_0, q147_1, q147_2, q147_3, q147_4, q147_5, q147_6⟩ := Q147
          have N147 := Fr.app N140 Nq147
          obtain ⟨h147, e147⟩ : ∃ h, T147.heap = h := ⟨_, rfl⟩
          rw [e147] at Kq147 q147_0 q147_1 q147_2 q147_3 q147_4 q147_5 q147_6
          have Z147 : n0 ≤ h147.size := Nat.le_trans Z129 Kq147.1
          have f148 := f130.keep Kq147 (by intro x q; simp only [List.mem_cons, List.not_mem_nil, or_false] at q; rcases q with rfl; exact G129)
          have f149 := f131.keep Kq147
          have f150 := f132.keep Kq147 (by simp only [List.mem_cons, List.not_mem_nil, or_false, not_or]; exact ne129_ro_47)
          have f151 := A129.keep Kq147
          have k147 : Go p e below m W T147 101 #[.val (.int p1), .val (.int p2), .val (.int p3), .val (.int u21_S0), .val (.int u27_S0), .val (.int u33_S0), .val (.int u39_S0), .val (.ref ro_47), .val .null, .val (.ref b129), .unset, .unset] [(.ref b129)] := k147
          have k152 : Go p e below m W T147 102 #[.val (.int p1), .val (.int p2), .val (.int p3), .val (.int u21_S0), .val (.int u27_S0), .val (.int u33_S0), .val (.int u39_S0), .val (.ref ro_47), .val .null, .val (.ref b129), .unset, .unset] [] := k147.pop X147 hx (hb hby at_101) rfl
          exact ⟨h147, ((([] ++ L47) ++ L140) ++ L147), T147, (1 : Int32), X147.more (by decide) (by decide), e147, N147, Z147, f148, f149, f150, q147_0, q147_5, q147_6, q147_1, q147_2, q147_3, q147_4, (Or.inr ⟨hc92_144, rfl⟩), k152⟩
      have k153 : Go p e below m W T143 106 #[.val (.int p1), .val (.int p2), .val (.int p3), .val (.int u21_S0), .val (.int u27_S0), .val (.int u33_S0), .val (.int u39_S0), .val (.ref ro_47), .val .null, .val (.ref b129), .unset, .unset] [(.ref ro_47), (.ref b129)] := (k143.aload X143 hx (hb hby at_102) rfl rfl).aload X143 hx (hb hby at_104) rfl rfl
      obtain ⟨T154, v154, L154, X154, Q154, k154⟩ := k153.virt (y := (⟨"com/example/ikat/ikat/core/LinkEdit", "maxVisits", "(Ljava/lang/Integer;)Lcom/example/ikat/ikat/core/LinkEdit;"⟩ : MethodName)) (z := (⟨"com/example/ikat/ikat/core/LinkEdit", "maxVisits", "(Ljava/lang/Integer;)Lcom/example/ikat/ikat/core/LinkEdit;"⟩ : MethodName)) (Wd := 0) (cells' := 2) (slots' := 7) (argsL := [(.ref ro_47)]) (rest := []) X143 hx hZ hown (by rw [hml]; rfl) (hv 16 rfl) (hv 17 rfl) (notFace_of_selects (args := #[]) (mvT hZ (hv 19 rfl))) (hv 19 rfl) (hv 18 rfl) (hv 20 rfl) (hv 9 rfl) (hb hby at_106) (by decide) (rms l Z a0 hw [] b129 (.ref ro_47) .null .null (.int u143_fb129_changesExpiry) .null (.int (0 : Int32)) .null h143 n0 Z143 f143_7 G129 rfl f143_10 f143_11 f143_12 f143_13 f143_8 f143_9) e143 f143_7 rfl rfl pd_rm0_3 rfl (Nat.le_of_eq rfl) (by decide) (by decide) rfl rfl (by decide) (by decide)
      obtain ⟨rfl, Nq154, Kq154, q154_0, q154_1, q154_2, q154_3, q154_4, q154_5, q154_6⟩ := Q154
      have N154 := Fr.app N143 Nq154
      obtain ⟨h154, e154⟩ : ∃ h, T154.heap = h := ⟨_, rfl⟩
      rw [e154] at Kq154 q154_0 q154_1 q154_2 q154_3 q154_4 q154_5 q154_6
      have Z154 : n0 ≤ h154.size := Nat.le_trans Z143 Kq154.1
      have f155 := f143_4.keep Kq154 (by intro x q; simp only [List.mem_cons, List.not_mem_nil, or_false] at q; rcases q with rfl; exact G129)
      have f156 := f143_5.keep Kq154
      have f157 := f143_6.keep Kq154 (by simp only [List.mem_cons, List.not_mem_nil, or_false, not_or]; exact ne129_ro_47)
      have f158 := f143_7.keep Kq154
      have k154 : Go p e below m W T154 109 #[.val (.int p1), .val (.int p2), .val (.int p3), .val (.int u21_S0), .val (.int u27_S0), .val (.int u33_S0), .val (.int u39_S0), .val (.ref ro_47), .val .null, .val (.ref b129), .unset, .unset] [(.ref b129)] := k154
      have k159 : Go p e below m W T154 111 #[.val (.int p1), .val (.int p2), .val (.int p3), .val (.int u21_S0), .val (.int u27_S0), .val (.int u33_S0), .val (.int u39_S0), .val (.ref ro_47), .val .null, .val (.ref b129), .val (.ref b129), .unset] [] := k154.astore X154 hx (hb hby at_109) rfl rfl
      have k160 : Go p e below m W T154 122 #[.val (.int p1), .val (.int p2), .val (.int p3), .val (.int u21_S0), .val (.int u27_S0), .val (.int u33_S0), .val (.int u39_S0), .val (.ref ro_47), .val .null, .val (.ref b129), .val (.ref b129), .unset] [(.ref b129)] := (((k159.aload X154 hx (hb hby at_111) rfl rfl).aload X154 hx (hb hby at_113) rfl rfl).acmpYes X154 hx (hb hby at_115) rfl rfl (XT.aa_eq_t rfl) (by decide) (by decide)).aload X154 hx (hb hby at_120) rfl rfl
      obtain ⟨T161, v161, L161, X161, Q161, k161⟩ := k160.virt (y := (⟨"com/example/ikat/ikat/core/LinkEdit", "changesMaxVisits", "()Z"⟩ : MethodName)) (z := (⟨"com/example/ikat/ikat/core/LinkEdit", "changesMaxVisits", "()Z"⟩ : MethodName)) (Wd := 0) (cells' := 2) (slots' := 7) (argsL := []) (rest := []) X154 hx hZ hown (by rw [hml]; rfl) (hv 25 rfl) (hv 26 rfl) (notFace_of_selects (args := #[]) (mvT hZ (hv 28 rfl))) (hv 28 rfl) (hv 27 rfl) (hv 29 rfl) (hv 9 rfl) (hb hby at_122) (by decide) (rmg4 l Z a0 hw [] b129 (1 : Int32) h154 n0 Z154 (Or.inr rfl) q154_5) e154 q154_0 rfl rfl pd_rm0_4 rfl (Nat.le_of_eq rfl) (by decide) (by decide) rfl rfl (by decide) (by decide)
      obtain ⟨rfl, Nq161, e161q⟩ := Q161
      have N161 := Fr.app N154 Nq161
      have e161 : T161.heap = h154 := e161q
      have k161 : Go p e below m W T161 125 #[.val (.int p1), .val (.int p2), .val (.int p3), .val (.int u21_S0), .val (.int u27_S0), .val (.int u33_S0), .val (.int u39_S0), .val (.ref ro_47), .val .null, .val (.ref b129), .val (.ref b129), .unset] [(.int (1 : Int32))] := k161
      have k162 : Go p e below m W T161 132 #[.val (.int p1), .val (.int p2), .val (.int p3), .val (.int u21_S0), .val (.int u27_S0), .val (.int u33_S0), .val (.int u39_S0), .val (.ref ro_47), .val .null, .val (.ref b129), .val (.ref b129), .unset] [(.ref b129)] := (k161.ifYes X161 hx (hb hby at_125) (XT.i0_ne_t (by decide)) (by decide) (by decide)).aload X161 hx (hb hby at_130) rfl rfl
      obtain ⟨T163, v163, L163, X163, Q163, k163⟩ := k162.virt (y := (⟨"com/example/ikat/ikat/core/LinkEdit", "maxVisits", "()Ljava/lang/Integer;"⟩ : MethodName)) (z := (⟨"com/example/ikat/ikat/core/LinkEdit", "maxVisits", "()Ljava/lang/Integer;"⟩ : MethodName)) (Wd := 0) (cells' := 2) (slots' := 7) (argsL := []) (rest := []) X161 hx hZ hown (by rw [hml]; rfl) (hv 30 rfl) (hv 31 rfl) (notFace_of_selects (args := #[]) (mvT hZ (hv 33 rfl))) (hv 33 rfl) (hv 32 rfl) (hv 34 rfl) (hv 9 rfl) (hb hby at_132) (by decide) (rmg5 l Z a0 hw [] b129 (.ref ro_47) h154 n0 Z154 rfl q154_6) e161 q154_0 rfl rfl pd_rm0_5 rfl (Nat.le_of_eq rfl) (by decide) (by decide) rfl rfl (by decide) (by decide)
      obtain ⟨rfl, Nq163, e163q⟩ := Q163
      have N163 := Fr.app N161 Nq163
      have e163 : T163.heap = h154 := e163q
      have k163 : Go p e below m W T163 135 #[.val (.int p1), .val (.int p2), .val (.int p3), .val (.int u21_S0), .val (.int u27_S0), .val (.int u33_S0), .val (.int u39_S0), .val (.ref ro_47), .val .null, .val (.ref b129), .val (.ref b129), .unset] [(.ref ro_47)] := k163
      have k164 : Go p e below m W T163 137 #[.val (.int p1), .val (.int p2), .val (.int p3), .val (.int u21_S0), .val (.int u27_S0), .val (.int u33_S0), .val (.int u39_S0), .val (.ref ro_47), .val .null, .val (.ref b129), .val (.ref b129), .unset] [(.int p1), (.int u21_S0), (.ref ro_47)] := (k163.iloadN X163 hx (hb hby at_135) rfl).iloadN X163 hx (hb hby at_136) rfl
      obtain ⟨T165, v165, L165, X165, Q165, k165⟩ := k164.stat (y := (⟨"com/example/ikat/ikat/core/LinkEditMaxVisitsPinLaw", "matches", "(Ljava/lang/Integer;ZI)Z"⟩ : MethodName)) (Wd := 0) (cells' := 2) (slots' := 7) (argsL := [(.ref ro_47), (.int u21_S0), (.int p1)]) (rest := []) X163 hx hZ hown (by rw [hml]; rfl) (hv 35 rfl) (hv 36 rfl) (hv 38 rfl) (hv 37 rfl) (hb hby at_137) (by decide) (rmmR l Z a0 hw [] ro_47 u21_S0 p1 h154 n0 Z154 hc53_45 f156 f157) e163 rfl rfl pd_rm0_6 rfl (Nat.le_of_eq rfl) (by decide) (by decide) rfl rfl (by decide) (by decide)
      obtain ⟨rfl, Nq165, e165q⟩ := Q165
      have N165 := Fr.app N163 Nq165
      have e165 : T165.heap = h154 := e165q
      have k165 : Go p e below m W T165 140 #[.val (.int p1), .val (.int p2), .val (.int p3), .val (.int u21_S0), .val (.int u27_S0), .val (.int u33_S0), .val (.int u39_S0), .val (.ref ro_47), .val .null, .val (.ref b129), .val (.ref b129), .unset] [(.int (1 : Int32))] := k165
      have k166 : Go p e below m W T165 147 #[.val (.int p1), .val (.int p2), .val (.int p3), .val (.int u21_S0), .val (.int u27_S0), .val (.int u33_S0), .val (.int u39_S0), .val (.ref ro_47), .val .null, .val (.ref b129), .val (.ref b129), .unset] [(.int u27_S0)] := (k165.ifYes X165 hx (hb hby at_140) (XT.i0_ne_t (by decide)) (by decide) (by decide)).iload X165 hx (hb hby at_145) rfl
      obtain ⟨h167, l167, T167, u167_L11, u167_fb129_maxVisits, X167, e167, N167, Z167, f167_4, f167_5, f167_6, f167_7, f167_8, f167_9, f167_10, f167_11, f167_12, f167_13, hd167, k167⟩ : ∃ (h167 : Heap) (l167 : List Loc) (T167 : State) (u167_L11 : Slot) (u167_fb129_maxVisits : Value), Stand p l e room_1 s m args_ below meth c T167 l167 2 7 ∧ T167.heap = h167 ∧ Fr n0 l167 ∧ n0 ≤ h167.size ∧ Old Z n0 h167 ∧ Exa Z h167 ro_47 "java/lang/Integer" ∧ Fld Z h167 ro_47 "java/lang/Integer" "value" "I" (.int p1) ∧ Exa Z h167 b129 "com/example/ikat/ikat/core/LinkEdit" ∧ Fld Z h167 b129 "com/example/ikat/ikat/core/LinkEdit" "destination" "Ljava/lang/String;" .null ∧ Fld Z h167 b129 "com/example/ikat/ikat/core/LinkEdit" "paused" "Ljava/lang/Boolean;" .null ∧ Fld Z h167 b129 "com/example/ikat/ikat/core/LinkEdit" "changesExpiry" "Z" (.int u143_fb129_changesExpiry) ∧ Fld Z h167 b129 "com/example/ikat/ikat/core/LinkEdit" "expiresAt" "Ljava/time/Instant;" .null ∧ Fld Z h167 b129 "com/example/ikat/ikat/core/LinkEdit" "changesMaxVisits" "Z" (.int (1 : Int32)) ∧ Fld Z h167 b129 "com/example/ikat/ikat/core/LinkEdit" "maxVisits" "Ljava/lang/Integer;" u167_fb129_maxVisits ∧ (((u27_S0 = (0 : Int32)) ∧ u167_L11 = .unset ∧ u167_fb129_maxVisits = (.ref ro_47)) ∨ ((¬ (u27_S0 = (0 : Int32))) ∧ u167_L11 = .val (.ref b129) ∧ u167_fb129_maxVisits = .null)) ∧ Go p e below m W T167 184 #[.val (.int p1), .val (.int p2), .val (.int p3), .val (.int u21_S0), .val (.int u27_S0), .val (.int u33_S0), .val (.int u39_S0), .val (.ref ro_47), .val .null, .val (.ref b129), .val (.ref b129), u167_L11] [] := by
        by_cases hc147_168 : u27_S0 = (0 : Int32)
        ·
          have k169 : Go p e below m W T165 184 #[.val (.int p1), .val (.int p2), .val (.int p3), .val (.int u21_S0), .val (.int u27_S0), .val (.int u33_S0), .val (.int u39_S0), .val (.ref ro_47), .val .null, .val (.ref b129), .val (.ref b129), .unset] [] := k166.ifYes X165 hx (hb hby at_147) (XT.i0_eq_t hc147_168) (by decide) (by decide)
          exact ⟨h154, ((((l143 ++ L154) ++ L161) ++ L163) ++ L165), T165, .unset, (.ref ro_47), X165.more (by decide) (by decide), e165, N165, Z154, f155, f156, f157, q154_0, q154_1, q154_2, q154_3, q154_4, q154_5, q154_6, (Or.inl ⟨hc147_168, rfl, rfl⟩), k169⟩
        ·
          have k170 : Go p e below m W T165 154 #[.val (.int p1), .val (.int p2), .val (.int p3), .val (.int u21_S0), .val (.int u27_S0), .val (.int u33_S0), .val (.int u39_S0), .val (.ref ro_47), .val .null, .val (.ref b129), .val (.ref b129), .unset] [.null, (.ref b129)] := ((k166.ifNo X165 hx (hb hby at_147) (XT.i0_eq_f hc147_168)).aload X165 hx (hb hby at_150) rfl rfl).aload X165 hx (hb hby at_152) rfl rfl
          obtain ⟨T171, v171, L171, X171, Q171, k171⟩ := k170.virt (y := (⟨"com/example/ikat/ikat/core/LinkEdit", "maxVisits", "(Ljava/lang/Integer;)Lcom/example/ikat/ikat/core/LinkEdit;"⟩ : MethodName)) (z := (⟨"com/example/ikat/ikat/core/LinkEdit", "maxVisits", "(Ljava/lang/Integer;)Lcom/example/ikat/ikat/core/LinkEdit;"⟩ : MethodName)) (Wd := 0) (cells' := 2) (slots' := 7) (argsL := [.null]) (rest := []) X165 hx hZ hown (by rw [hml]; rfl) (hv 16 rfl) (hv 17 rfl) (notFace_of_selects (args := #[]) (mvT hZ (hv 19 rfl))) (hv 19 rfl) (hv 18 rfl) (hv 20 rfl) (hv 9 rfl) (hb hby at_154) (by decide) (rms l Z a0 hw [] b129 .null .null .null (.int u143_fb129_changesExpiry) .null (.int (1 : Int32)) (.ref ro_47) h154 n0 Z154 q154_0 G129 rfl q154_1 q154_2 q154_3 q154_4 q154_5 q154_6) e165 q154_0 rfl rfl pd_rm0_3 rfl (Nat.le_of_eq rfl) (by decide) (by decide) rfl rfl (by decide) (by decide)
          obtain ⟨rfl, Nq171, Kq171, q171_0, q171_1, q171_2, q171_3, q171_4, q171_5, q171_6⟩ := Q171
          have N171 := Fr.app N165 Nq171
          obtain ⟨h171, e171⟩ : ∃ h, T171.heap = h := ⟨_, rfl⟩
          rw [e171] at Kq171 q171_0 q171_1 q171_2 q171_3 q171_4 q171_5 q171_6
          have Z171 : n0 ≤ h171.size := Nat.le_trans Z154 Kq171.1
          have f172 := f155.keep Kq171 (by intro x q; simp only [List.mem_cons, List.not_mem_nil, or_false] at q; rcases q with rfl; exact G129)
          have f173 := f156.keep Kq171
          have f174 := f157.keep Kq171 (by simp only [List.mem_cons, List.not_mem_nil, or_false, not_or]; exact ne129_ro_47)
          have f175 := q154_0.keep Kq171
          have k171 : Go p e below m W T171 157 #[.val (.int p1), .val (.int p2), .val (.int p3), .val (.int u21_S0), .val (.int u27_S0), .val (.int u33_S0), .val (.int u39_S0), .val (.ref ro_47), .val .null, .val (.ref b129), .val (.ref b129), .unset] [(.ref b129)] := k171
          have k176 : Go p e below m W T171 159 #[.val (.int p1), .val (.int p2), .val (.int p3), .val (.int u21_S0), .val (.int u27_S0), .val (.int u33_S0), .val (.int u39_S0), .val (.ref ro_47), .val .null, .val (.ref b129), .val (.ref b129), .val (.ref b129)] [] := k171.astore X171 hx (hb hby at_157) rfl rfl
          have k177 : Go p e below m W T171 170 #[.val (.int p1), .val (.int p2), .val (.int p3), .val (.int u21_S0), .val (.int u27_S0), .val (.int u33_S0), .val (.int u39_S0), .val (.ref ro_47), .val .null, .val (.ref b129), .val (.ref b129), .val (.ref b129)] [(.ref b129)] := (((k176.aload X171 hx (hb hby at_159) rfl rfl).aload X171 hx (hb hby at_161) rfl rfl).acmpYes X171 hx (hb hby at_163) rfl rfl (XT.aa_eq_t rfl) (by decide) (by decide)).aload X171 hx (hb hby at_168) rfl rfl
          obtain ⟨T178, v178, L178, X178, Q178, k178⟩ := k177.virt (y := (⟨"com/example/ikat/ikat/core/LinkEdit", "maxVisits", "()Ljava/lang/Integer;"⟩ : MethodName)) (z := (⟨"com/example/ikat/ikat/core/LinkEdit", "maxVisits", "()Ljava/lang/Integer;"⟩ : MethodName)) (Wd := 0) (cells' := 2) (slots' := 7) (argsL := []) (rest := []) X171 hx hZ hown (by rw [hml]; rfl) (hv 30 rfl) (hv 31 rfl) (notFace_of_selects (args := #[]) (mvT hZ (hv 33 rfl))) (hv 33 rfl) (hv 32 rfl) (hv 34 rfl) (hv 9 rfl) (hb hby at_170) (by decide) (rmg5 l Z a0 hw [] b129 .null h171 n0 Z171 rfl q171_6) e171 q171_0 rfl rfl pd_rm0_5 rfl (Nat.le_of_eq rfl) (by decide) (by decide) rfl rfl (by decide) (by decide)
          obtain ⟨rfl, Nq178, e178q⟩ := Q178
          have N178 := Fr.app N171 Nq178
          have e178 : T178.heap = h171 := e178q
          have k178 : Go p e below m W T178 173 #[.val (.int p1), .val (.int p2), .val (.int p3), .val (.int u21_S0), .val (.int u27_S0), .val (.int u33_S0), .val (.int u39_S0), .val (.ref ro_47), .val .null, .val (.ref b129), .val (.ref b129), .val (.ref b129)] [.null] := k178
          have k179 : Go p e below m W T178 176 #[.val (.int p1), .val (.int p2), .val (.int p3), .val (.int u21_S0), .val (.int u27_S0), .val (.int u33_S0), .val (.int u39_S0), .val (.ref ro_47), .val .null, .val (.ref b129), .val (.ref b129), .val (.ref b129)] [(.int p2), (.int u33_S0), .null] := (k178.iload X178 hx (hb hby at_173) rfl).iloadN X178 hx (hb hby at_175) rfl
          obtain ⟨T180, v180, L180, X180, Q180, k180⟩ := k179.stat (y := (⟨"com/example/ikat/ikat/core/LinkEditMaxVisitsPinLaw", "matches", "(Ljava/lang/Integer;ZI)Z"⟩ : MethodName)) (Wd := 0) (cells' := 2) (slots' := 7) (argsL := [.null, (.int u33_S0), (.int p2)]) (rest := []) X178 hx hZ hown (by rw [hml]; rfl) (hv 35 rfl) (hv 36 rfl) (hv 38 rfl) (hv 37 rfl) (hb hby at_176) (by decide) (rmmN l Z a0 hw [] u33_S0 p2 h171 n0 Z171 hc68_51) e178 rfl rfl pd_rm0_6 rfl (Nat.le_of_eq rfl) (by decide) (by decide) rfl rfl (by decide) (by decide)
          obtain ⟨rfl, Nq180, e180q⟩ := Q180
          have N180 := Fr.app N178 Nq180
          have e180 : T180.heap = h171 := e180q
          have k180 : Go p e below m W T180 179 #[.val (.int p1), .val (.int p2), .val (.int p3), .val (.int u21_S0), .val (.int u27_S0), .val (.int u33_S0), .val (.int u39_S0), .val (.ref ro_47), .val .null, .val (.ref b129), .val (.ref b129), .val (.ref b129)] [(.int (1 : Int32))] := k180
          have k181 : Go p e below m W T180 184 #[.val (.int p1), .val (.int p2), .val (.int p3), .val (.int u21_S0), .val (.int u27_S0), .val (.int u33_S0), .val (.int u39_S0), .val (.ref ro_47), .val .null, .val (.ref b129), .val (.ref b129), .val (.ref b129)] [] := k180.ifYes X180 hx (hb hby at_179) (XT.i0_ne_t (by decide)) (by decide) (by decide)
          exact ⟨h171, (((((((l143 ++ L154) ++ L161) ++ L163) ++ L165) ++ L171) ++ L178) ++ L180), T180, .val (.ref b129), .null, X180.more (by decide) (by decide), e180, N180, Z171, f172, f173, f174, q171_0, q171_1, q171_2, q171_3, q171_4, q171_5, q171_6, (Or.inr ⟨hc147_168, rfl, rfl⟩), k181⟩
      have k182 : Go p e below m W T167 186 #[.val (.int p1), .val (.int p2), .val (.int p3), .val (.int u21_S0), .val (.int u27_S0), .val (.int u33_S0), .val (.int u39_S0), .val (.ref ro_47), .val .null, .val (.ref b129), .val (.ref b129), u167_L11] [(.ref b129)] := k167.aload X167 hx (hb hby at_184) rfl rfl
      obtain ⟨T183, v183, L183, X183, Q183, k183⟩ := k182.virt (y := (⟨"com/example/ikat/ikat/core/LinkEdit", "destination", "()Ljava/lang/String;"⟩ : MethodName)) (z := (⟨"com/example/ikat/ikat/core/LinkEdit", "destination", "()Ljava/lang/String;"⟩ : MethodName)) (Wd := 0) (cells' := 2) (slots' := 7) (argsL := []) (rest := []) X167 hx hZ hown (by rw [hml]; rfl) (hv 46 rfl) (hv 47 rfl) (notFace_of_selects (args := #[]) (mvT hZ (hv 49 rfl))) (hv 49 rfl) (hv 48 rfl) (hv 50 rfl) (hv 9 rfl) (hb hby at_186) (by decide) (rmg0 l Z a0 hw [] b129 .null h167 n0 Z167 rfl f167_8) e167 f167_7 rfl rfl pd_rm0_7 rfl (Nat.le_of_eq rfl) (by decide) (by decide) rfl rfl (by decide) (by decide)
      obtain ⟨rfl, Nq183, e183q⟩ := Q183
      have N183 := Fr.app N167 Nq183
      have e183 : T183.heap = h167 := e183q
      have k183 : Go p e below m W T183 189 #[.val (.int p1), .val (.int p2), .val (.int p3), .val (.int u21_S0), .val (.int u27_S0), .val (.int u33_S0), .val (.int u39_S0), .val (.ref ro_47), .val .null, .val (.ref b129), .val (.ref b129), u167_L11] [.null] := k183
      have k184 : Go p e below m W T183 194 #[.val (.int p1), .val (.int p2), .val (.int p3), .val (.int u21_S0), .val (.int u27_S0), .val (.int u33_S0), .val (.int u39_S0), .val (.ref ro_47), .val .null, .val (.ref b129), .val (.ref b129), u167_L11] [(.ref b129)] := (k183.nonnullNo X183 hx (hb hby at_189) rfl).aload X183 hx (hb hby at_192) rfl rfl
      obtain ⟨T185, v185, L185, X185, Q185, k185⟩ := k184.virt (y := (⟨"com/example/ikat/ikat/core/LinkEdit", "paused", "()Ljava/lang/Boolean;"⟩ : MethodName)) (z := (⟨"com/example/ikat/ikat/core/LinkEdit", "paused", "()Ljava/lang/Boolean;"⟩ : MethodName)) (Wd := 0) (cells' := 2) (slots' := 7) (argsL := []) (rest := []) X183 hx hZ hown (by rw [hml]; rfl) (hv 53 rfl) (hv 54 rfl) (notFace_of_selects (args := #[]) (mvT hZ (hv 56 rfl))) (hv 56 rfl) (hv 55 rfl) (hv 57 rfl) (hv 9 rfl) (hb hby at_194) (by decide) (rmg1 l Z a0 hw [] b129 .null h167 n0 Z167 rfl f167_9) e183 f167_7 rfl rfl pd_rm0_8 rfl (Nat.le_of_eq rfl) (by decide) (by decide) rfl rfl (by decide) (by decide)
      obtain ⟨rfl, Nq185, e185q⟩ := Q185
      have N185 := Fr.app N183 Nq185
      have e185 : T185.heap = h167 := e185q
      have k185 : Go p e below m W T185 197 #[.val (.int p1), .val (.int p2), .val (.int p3), .val (.int u21_S0), .val (.int u27_S0), .val (.int u33_S0), .val (.int u39_S0), .val (.ref ro_47), .val .null, .val (.ref b129), .val (.ref b129), u167_L11] [.null] := k185
      have k186 : Go p e below m W T185 202 #[.val (.int p1), .val (.int p2), .val (.int p3), .val (.int u21_S0), .val (.int u27_S0), .val (.int u33_S0), .val (.int u39_S0), .val (.ref ro_47), .val .null, .val (.ref b129), .val (.ref b129), u167_L11] [(.ref b129)] := (k185.nonnullNo X185 hx (hb hby at_197) rfl).aload X185 hx (hb hby at_200) rfl rfl
      obtain ⟨T187, v187, L187, X187, Q187, k187⟩ := k186.virt (y := (⟨"com/example/ikat/ikat/core/LinkEdit", "changesExpiry", "()Z"⟩ : MethodName)) (z := (⟨"com/example/ikat/ikat/core/LinkEdit", "changesExpiry", "()Z"⟩ : MethodName)) (Wd := 0) (cells' := 2) (slots' := 7) (argsL := []) (rest := []) X185 hx hZ hown (by rw [hml]; rfl) (hv 60 rfl) (hv 61 rfl) (notFace_of_selects (args := #[]) (mvT hZ (hv 63 rfl))) (hv 63 rfl) (hv 62 rfl) (hv 64 rfl) (hv 9 rfl) (hb hby at_202) (by decide) (rmg2 l Z a0 hw [] b129 u143_fb129_changesExpiry h167 n0 Z167 (by rcases hd143 with ⟨_, q⟩ | ⟨_, q⟩ <;> first | exact Or.inl q | exact Or.inr q) f167_10) e185 f167_7 rfl rfl pd_rm0_4 rfl (Nat.le_of_eq rfl) (by decide) (by decide) rfl rfl (by decide) (by decide)
      obtain ⟨rfl, Nq187, e187q⟩ := Q187
      have N187 := Fr.app N185 Nq187
      have e187 : T187.heap = h167 := e187q
      have k187 : Go p e below m W T187 205 #[.val (.int p1), .val (.int p2), .val (.int p3), .val (.int u21_S0), .val (.int u27_S0), .val (.int u33_S0), .val (.int u39_S0), .val (.ref ro_47), .val .null, .val (.ref b129), .val (.ref b129), u167_L11] [(.int u143_fb129_changesExpiry)] := k187
      have k188 : Go p e below m W T187 212 #[.val (.int p1), .val (.int p2), .val (.int p3), .val (.int u21_S0), .val (.int u27_S0), .val (.int u33_S0), .val (.int u39_S0), .val (.ref ro_47), .val .null, .val (.ref b129), .val (.ref b129), u167_L11] [(.ref b129)] := ((k187.iload X187 hx (hb hby at_205) rfl).icmpNo X187 hx (hb hby at_207) (XT.ii_ne_f (by have q1 := hd39; have q2 := hd143; rcases q1 with ⟨_, q⟩ | ⟨_, q⟩ <;> simp_all))).aload X187 hx (hb hby at_210) rfl rfl
      obtain ⟨T189, v189, L189, X189, Q189, k189⟩ := k188.virt (y := (⟨"com/example/ikat/ikat/core/LinkEdit", "expiresAt", "()Ljava/time/Instant;"⟩ : MethodName)) (z := (⟨"com/example/ikat/ikat/core/LinkEdit", "expiresAt", "()Ljava/time/Instant;"⟩ : MethodName)) (Wd := 0) (cells' := 2) (slots' := 7) (argsL := []) (rest := []) X187 hx hZ hown (by rw [hml]; rfl) (hv 67 rfl) (hv 68 rfl) (notFace_of_selects (args := #[]) (mvT hZ (hv 70 rfl))) (hv 70 rfl) (hv 69 rfl) (hv 71 rfl) (hv 9 rfl) (hb hby at_212) (by decide) (rmg3 l Z a0 hw [] b129 .null h167 n0 Z167 rfl f167_11) e187 f167_7 rfl rfl pd_rm0_9 rfl (Nat.le_of_eq rfl) (by decide) (by decide) rfl rfl (by decide) (by decide)
      obtain ⟨rfl, Nq189, e189q⟩ := Q189
      have N189 := Fr.app N187 Nq189
      have e189 : T189.heap = h167 := e189q
      have k189 : Go p e below m W T189 215 #[.val (.int p1), .val (.int p2), .val (.int p3), .val (.int u21_S0), .val (.int u27_S0), .val (.int u33_S0), .val (.int u39_S0), .val (.ref ro_47), .val .null, .val (.ref b129), .val (.ref b129), u167_L11] [.null] := k189
      have k190 : Go p e below m W T189 223 #[.val (.int p1), .val (.int p2), .val (.int p3), .val (.int u21_S0), .val (.int u27_S0), .val (.int u33_S0), .val (.int u39_S0), .val (.ref ro_47), .val .null, .val (.ref b129), .val (.ref b129), u167_L11] [(.int (1 : Int32))] := ((k189.nonnullNo X189 hx (hb hby at_215) rfl).iconst X189 hx (hb hby at_218) (v := (1 : Int32)) rfl).goto X189 hx (hb hby at_219) (by decide) (by decide)
      exact k190.ireturnN X189 hx (t := .boolean) Bd.returns (by simp) rfl (hb hby at_223) (BodyLoose.notSynchronized Bd) (by rw [e189]; exact ⟨rfl, N189⟩) (by decide) (by decide)
  ·
    have k191 : Go p e below m W s₁ 66 #[.val (.int p1), .val (.int p2), .val (.int p3), .val (.int u21_S0), .val (.int u27_S0), .val (.int u33_S0), .val (.int u39_S0), .val .null, .unset, .unset, .unset, .unset] [] := (((k44.ifNo X0 hx (hb hby at_53) (XT.i0_eq_f hc53_45)).aconstNull X0 hx (hb hby at_56)).goto X0 hx (hb hby at_57) (by decide) (by decide)).astore X0 hx (hb hby at_64) rfl rfl
    have k192 : Go p e below m W s₁ 68 #[.val (.int p1), .val (.int p2), .val (.int p3), .val (.int u21_S0), .val (.int u27_S0), .val (.int u33_S0), .val (.int u39_S0), .val .null, .unset, .unset, .unset, .unset] [(.int u33_S0)] := k191.iload X0 hx (hb hby at_66) rfl
    by_cases hc68_193 : u33_S0 = (0 : Int32)
    ·
      have k194 : Go p e below m W s₁ 76 #[.val (.int p1), .val (.int p2), .val (.int p3), .val (.int u21_S0), .val (.int u27_S0), .val (.int u33_S0), .val (.int u39_S0), .val .null, .unset, .unset, .unset, .unset] [(.int p2)] := (k192.ifYes X0 hx (hb hby at_68) (XT.i0_eq_t hc68_193) (by decide) (by decide)).iloadN X0 hx (hb hby at_75) rfl
      obtain ⟨T195, v195, L195, X195, Q195, k195⟩ := k194.stat (y := (⟨"java/lang/Integer", "valueOf", "(I)Ljava/lang/Integer;"⟩ : MethodName)) (Wd := 0) (cells' := 1) (slots' := 1) (argsL := [(.int p2)]) (rest := []) X0 hx hZ hown (by rw [hml]; rfl) (hv 0 rfl) (hv 1 rfl) (hv 3 rfl) (hv 2 rfl) (hb hby at_76) (by decide) (rmv l Z a0 hw [] p2 ca cc h0 n0 Z0 O0 SH SC HB) e0 rfl rfl pd_rm0_0 rfl (Nat.le_of_eq rfl) (by decide) (by decide) rfl rfl (by decide) (by decide)
      obtain ⟨ro_195, rfl, Nq195, Kq195, q195_0, q195_1⟩ := Q195
      have N195 := Fr.app N0 Nq195
      obtain ⟨h195, e195⟩ : ∃ h, T195.heap = h := ⟨_, rfl⟩
      rw [e195] at Kq195 q195_0 q195_1
      have Z195 : n0 ≤ h195.size := Nat.le_trans Z0 Kq195.1
      have f196 := O0.keep Kq195 (fun x q => absurd q List.not_mem_nil)
      have k195 : Go p e below m W T195 79 #[.val (.int p1), .val (.int p2), .val (.int p3), .val (.int u21_S0), .val (.int u27_S0), .val (.int u33_S0), .val (.int u39_S0), .val .null, .unset, .unset, .unset, .unset] [(.ref ro_195)] := k195
      have k197 : Go p e below m W T195 81 #[.val (.int p1), .val (.int p2), .val (.int p3), .val (.int u21_S0), .val (.int u27_S0), .val (.int u33_S0), .val (.int u39_S0), .val .null, .val (.ref ro_195), .unset, .unset, .unset] [] := k195.astore X195 hx (hb hby at_79) rfl rfl
      obtain ⟨T198, h198, b198, X198, e198, g198, E198, A198, D198, k198⟩ := k197.newO (cells' := 2) (slots' := 7) X195 hx hZ hown (hv 7 rfl) (hv 8 rfl) (hv 9 rfl) e195 (hb hby at_81) rfl rfl (by decide) (by decide)
      have k198 : Go p e below m W T198 84 #[.val (.int p1), .val (.int p2), .val (.int p3), .val (.int u21_S0), .val (.int u27_S0), .val (.int u33_S0), .val (.int u39_S0), .val .null, .val (.ref ro_195), .unset, .unset, .unset] [(.ref b198)] := k198
      have Z198 : n0 ≤ h198.size := Nat.le_trans Z195 E198.1
      have ne198_ro_195 : ro_195 ≠ b198 := Nat.ne_of_lt (g198 ▸ q195_0.lt)
      have f199 := f196.ext E198
      have f200 := q195_0.ext E198
      have f201 := q195_1.ext E198
      have G198 : n0 ≤ b198 := g198 ▸ Z195
      have f202 : Fld Z h198 b198 "com/example/ikat/ikat/core/LinkEdit" "changesMaxVisits" "Z" (.int (0 : Int32)) := D198 (Or.inl (hv 22 rfl)) (ty := .boolean) (by decide)
      have f203 : Fld Z h198 b198 "com/example/ikat/ikat/core/LinkEdit" "maxVisits" "Ljava/lang/Integer;" .null := D198 (Or.inl (hv 24 rfl)) (ty := (.object "java/lang/Integer")) (by decide)
      have f204 : Fld Z h198 b198 "com/example/ikat/ikat/core/LinkEdit" "destination" "Ljava/lang/String;" .null := D198 (Or.inl (hv 52 rfl)) (ty := (.object "java/lang/String")) (by decide)
      have f205 : Fld Z h198 b198 "com/example/ikat/ikat/core/LinkEdit" "paused" "Ljava/lang/Boolean;" .null := D198 (Or.inl (hv 59 rfl)) (ty := (.object "java/lang/Boolean")) (by decide)
      have f206 : Fld Z h198 b198 "com/example/ikat/ikat/core/LinkEdit" "changesExpiry" "Z" (.int (0 : Int32)) := D198 (Or.inl (hv 66 rfl)) (ty := .boolean) (by decide)
      have f207 : Fld Z h198 b198 "com/example/ikat/ikat/core/LinkEdit" "expiresAt" "Ljava/time/Instant;" .null := D198 (Or.inl (hv 73 rfl)) (ty := (.object "java/time/Instant")) (by decide)
      have k208 : Go p e below m W T198 85 #[.val (.int p1), .val (.int p2), .val (.int p3), .val (.int u21_S0), .val (.int u27_S0), .val (.int u33_S0), .val (.int u39_S0), .val .null, .val (.ref ro_195), .unset, .unset, .unset] [(.ref b198), (.ref b198)] := k198.dup X198 hx (hb hby at_84) rfl
      obtain ⟨T209, v209, L209, X209, Q209, k209⟩ := k208.spec (y := (⟨"com/example/ikat/ikat/core/LinkEdit", "<init>", "()V"⟩ : MethodName)) (b := b198) (Wd := 1) (cells' := 2) (slots' := 7) (argsL := []) (rest := [(.ref b198)]) X198 hx hZ hown (by rw [hml]; rfl) rfl (hv 10 rfl) (hv 11 rfl) (hv 12 rfl) (hv 9 rfl) (hb hby at_85) (by decide) (rme l Z a0 hw [] b198 h198 n0 Z198) e198 rfl rfl pd_rm0_1 rfl (Nat.le_of_eq rfl) (by decide) (by decide) rfl rfl (by decide) (by decide)
      obtain ⟨rfl, Nq209, e209q⟩ := Q209
      have N209 := Fr.app N195 Nq209
      have e209 : T209.heap = h198 := e209q
      have k209 : Go p e below m W T209 88 #[.val (.int p1), .val (.int p2), .val (.int p3), .val (.int u21_S0), .val (.int u27_S0), .val (.int u33_S0), .val (.int u39_S0), .val .null, .val (.ref ro_195), .unset, .unset, .unset] [(.ref b198)] := k209
      have k210 : Go p e below m W T209 90 #[.val (.int p1), .val (.int p2), .val (.int p3), .val (.int u21_S0), .val (.int u27_S0), .val (.int u33_S0), .val (.int u39_S0), .val .null, .val (.ref ro_195), .val (.ref b198), .unset, .unset] [] := k209.astore X209 hx (hb hby at_88) rfl rfl
      have k211 : Go p e below m W T209 92 #[.val (.int p1), .val (.int p2), .val (.int p3), .val (.int u21_S0), .val (.int u27_S0), .val (.int u33_S0), .val (.int u39_S0), .val .null, .val (.ref ro_195), .val (.ref b198), .unset, .unset] [(.int u39_S0)] := k210.iload X209 hx (hb hby at_90) rfl
      obtain ⟨h212, l212, T212, u212_fb198_changesExpiry, X212, e212, N212, Z212, f212_4, f212_5, f212_6, f212_7, f212_8, f212_9, f212_10, f212_11, f212_12, f212_13, hd212, k212⟩ : ∃ (h212 : Heap) (l212 : List Loc) (T212 : State) (u212_fb198_changesExpiry : Int32), Stand p l e room_1 s m args_ below meth c T212 l212 2 7 ∧ T212.heap = h212 ∧ Fr n0 l212 ∧ n0 ≤ h212.size ∧ Old Z n0 h212 ∧ Exa Z h212 ro_195 "java/lang/Integer" ∧ Fld Z h212 ro_195 "java/lang/Integer" "value" "I" (.int p2) ∧ Exa Z h212 b198 "com/example/ikat/ikat/core/LinkEdit" ∧ Fld Z h212 b198 "com/example/ikat/ikat/core/LinkEdit" "changesMaxVisits" "Z" (.int (0 : Int32)) ∧ Fld Z h212 b198 "com/example/ikat/ikat/core/LinkEdit" "maxVisits" "Ljava/lang/Integer;" .null ∧ Fld Z h212 b198 "com/example/ikat/ikat/core/LinkEdit" "destination" "Ljava/lang/String;" .null ∧ Fld Z h212 b198 "com/example/ikat/ikat/core/LinkEdit" "paused" "Ljava/lang/Boolean;" .null ∧ Fld Z h212 b198 "com/example/ikat/ikat/core/LinkEdit" "changesExpiry" "Z" (.int u212_fb198_changesExpiry) ∧ Fld Z h212 b198 "com/example/ikat/ikat/core/LinkEdit" "expiresAt" "Ljava/time/Instant;" .null ∧ (((u39_S0 = (0 : Int32)) ∧ u212_fb198_changesExpiry = (0 : Int32)) ∨ ((¬ (u39_S0 = (0 : Int32))) ∧ u212_fb198_changesExpiry = (1 : Int32))) ∧ Go p e below m W T212 102 #[.val (.int p1), .val (.int p2), .val (.int p3), .val (.int u21_S0), .val (.int u27_S0), .val (.int u33_S0), .val (.int u39_S0), .val .null, .val (.ref ro_195), .val (.ref b198), .unset, .unset] [] := by
        by_cases hc92_213 : u39_S0 = (0 : Int32)
        ·
          have k214 : Go p e below m W T209 102 #[.val (.int p1), .val (.int p2), .val (.int p3), .val (.int u21_S0), .val (.int u27_S0), .val (.int u33_S0), .val (.int u39_S0), .val .null, .val (.ref ro_195), .val (.ref b198), .unset, .unset] [] := k211.ifYes X209 hx (hb hby at_92) (XT.i0_eq_t hc92_213) (by decide) (by decide)
          exact ⟨h198, (([] ++ L195) ++ L209), T209, (0 : Int32), X209.more (by decide) (by decide), e209, N209, Z198, f199, f200, f201, A198, f202, f203, f204, f205, f206, f207, (Or.inl ⟨hc92_213, rfl⟩), k214⟩
        ·
          have k215 : Go p e below m W T209 98 #[.val (.int p1), .val (.int p2), .val (.int p3), .val (.int u21_S0), .val (.int u27_S0), .val (.int u33_S0), .val (.int u39_S0), .val .null, .val (.ref ro_195), .val (.ref b198), .unset, .unset] [.null, (.ref b198)] := ((k211.ifNo X209 hx (hb hby at_92) (XT.i0_eq_f hc92_213)).aload X209 hx (hb hby at_95) rfl rfl).aconstNull X209 hx (hb hby at_97)
          obtain ⟨T216, v216, L216, X216, Q216, k216⟩ := k215.virt (y := (⟨"com/example/ikat/ikat/core/LinkEdit", "expiresAt", "(Ljava/time/Instant;)Lcom/example/ikat/ikat/core/LinkEdit;"⟩ : MethodName)) (z := (⟨"com/example/ikat/ikat/core/LinkEdit", "expiresAt", "(Ljava/time/Instant;)Lcom/example/ikat/ikat/core/LinkEdit;"⟩ : MethodName)) (Wd := 0) (cells' := 2) (slots' := 7) (argsL := [.null]) (rest := []) X209 hx hZ hown (by rw [hml]; rfl) (hv 74 rfl) (hv 75 rfl) (notFace_of_selects (args := #[]) (mvT hZ (hv 77 rfl))) (hv 77 rfl) (hv 76 rfl) (hv 78 rfl) (hv 9 rfl) (hb hby at_98) (by decide) (rmx l Z a0 hw [] b198 .null .null .null (.int (0 : Int32)) .null (.int (0 : Int32)) .null h198 n0 Z198 A198 G198 rfl f204 f205 f206 f207 f202 f203) e209 A198 rfl rfl pd_rm0_2 rfl (Nat.le_of_eq rfl) (by decide) (by decide) rfl rfl (by decide) (by decide)
          obtain ⟨rfl, Nq216, Kq216, q216_0, q216_1, q216_2, q216_3, q216_4, q216_5, q216_6⟩ := Q216
          have N216 := Fr.app N209 Nq216
          obtain ⟨h216, e216⟩ : ∃ h, T216.heap = h := ⟨_, rfl⟩
          rw [e216] at Kq216 q216_0 q216_1 q216_2 q216_3 q216_4 q216_5 q216_6
          have Z216 : n0 ≤ h216.size := Nat.le_trans Z198 Kq216.1
          have f217 := f199.keep Kq216 (by intro x q; simp only [List.mem_cons, List.not_mem_nil, or_false] at q; rcases q with rfl; exact G198)
          have f218 := f200.keep Kq216
          have f219 := f201.keep Kq216 (by simp only [List.mem_cons, List.not_mem_nil, or_false, not_or]; exact ne198_ro_195)
          have f220 := A198.keep Kq216
          have k216 : Go p e below m W T216 101 #[.val (.int p1), .val (.int p2), .val (.int p3), .val (.int u21_S0), .val (.int u27_S0), .val (.int u33_S0), .val (.int u39_S0), .val .null, .val (.ref ro_195), .val (.ref b198), .unset, .unset] [(.ref b198)] := k216
          have k221 : Go p e below m W T216 102 #[.val (.int p1), .val (.int p2), .val (.int p3), .val (.int u21_S0), .val (.int u27_S0), .val (.int u33_S0), .val (.int u39_S0), .val .null, .val (.ref ro_195), .val (.ref b198), .unset, .unset] [] := k216.pop X216 hx (hb hby at_101) rfl
          exact ⟨h216, ((([] ++ L195) ++ L209) ++ L216), T216, (1 : Int32), X216.more (by decide) (by decide), e216, N216, Z216, f217, f218, f219, q216_0, q216_5, q216_6, q216_1, q216_2, q216_3, q216_4, (Or.inr ⟨hc92_213, rfl⟩), k221⟩
      have k222 : Go p e below m W T212 106 #[.val (.int p1), .val (.int p2), .val (.int p3), .val (.int u21_S0), .val (.int u27_S0), .val (.int u33_S0), .val (.int u39_S0), .val .null, .val (.ref ro_195), .val (.ref b198), .unset, .unset] [.null, (.ref b198)] := (k212.aload X212 hx (hb hby at_102) rfl rfl).aload X212 hx (hb hby at_104) rfl rfl
      obtain ⟨T223, v223, L223, X223, Q223, k223⟩ := k222.virt (y := (⟨"com/example/ikat/ikat/core/LinkEdit", "maxVisits", "(Ljava/lang/Integer;)Lcom/example/ikat/ikat/core/LinkEdit;"⟩ : MethodName)) (z := (⟨"com/example/ikat/ikat/core/LinkEdit", "maxVisits", "(Ljava/lang/Integer;)Lcom/example/ikat/ikat/core/LinkEdit;"⟩ : MethodName)) (Wd := 0) (cells' := 2) (slots' := 7) (argsL := [.null]) (rest := []) X212 hx hZ hown (by rw [hml]; rfl) (hv 16 rfl) (hv 17 rfl) (notFace_of_selects (args := #[]) (mvT hZ (hv 19 rfl))) (hv 19 rfl) (hv 18 rfl) (hv 20 rfl) (hv 9 rfl) (hb hby at_106) (by decide) (rms l Z a0 hw [] b198 .null .null .null (.int u212_fb198_changesExpiry) .null (.int (0 : Int32)) .null h212 n0 Z212 f212_7 G198 rfl f212_10 f212_11 f212_12 f212_13 f212_8 f212_9) e212 f212_7 rfl rfl pd_rm0_3 rfl (Nat.le_of_eq rfl) (by decide) (by decide) rfl rfl (by decide) (by decide)
      obtain ⟨rfl, Nq223, Kq223, q223_0, q223_1, q223_2, q223_3, q223_4, q223_5, q223_6⟩ := Q223
      have N223 := Fr.app N212 Nq223
      obtain ⟨h223, e223⟩ : ∃ h, T223.heap = h := ⟨_, rfl⟩
      rw [e223] at Kq223 q223_0 q223_1 q223_2 q223_3 q223_4 q223_5 q223_6
      have Z223 : n0 ≤ h223.size := Nat.le_trans Z212 Kq223.1
      have f224 := f212_4.keep Kq223 (by intro x q; simp only [List.mem_cons, List.not_mem_nil, or_false] at q; rcases q with rfl; exact G198)
      have f225 := f212_5.keep Kq223
      have f226 := f212_6.keep Kq223 (by simp only [List.mem_cons, List.not_mem_nil, or_false, not_or]; exact ne198_ro_195)
      have f227 := f212_7.keep Kq223
      have k223 : Go p e below m W T223 109 #[.val (.int p1), .val (.int p2), .val (.int p3), .val (.int u21_S0), .val (.int u27_S0), .val (.int u33_S0), .val (.int u39_S0), .val .null, .val (.ref ro_195), .val (.ref b198), .unset, .unset] [(.ref b198)] := k223
      have k228 : Go p e below m W T223 111 #[.val (.int p1), .val (.int p2), .val (.int p3), .val (.int u21_S0), .val (.int u27_S0), .val (.int u33_S0), .val (.int u39_S0), .val .null, .val (.ref ro_195), .val (.ref b198), .val (.ref b198), .unset] [] := k223.astore X223 hx (hb hby at_109) rfl rfl
      have k229 : Go p e below m W T223 122 #[.val (.int p1), .val (.int p2), .val (.int p3), .val (.int u21_S0), .val (.int u27_S0), .val (.int u33_S0), .val (.int u39_S0), .val .null, .val (.ref ro_195), .val (.ref b198), .val (.ref b198), .unset] [(.ref b198)] := (((k228.aload X223 hx (hb hby at_111) rfl rfl).aload X223 hx (hb hby at_113) rfl rfl).acmpYes X223 hx (hb hby at_115) rfl rfl (XT.aa_eq_t rfl) (by decide) (by decide)).aload X223 hx (hb hby at_120) rfl rfl
      obtain ⟨T230, v230, L230, X230, Q230, k230⟩ := k229.virt (y := (⟨"com/example/ikat/ikat/core/LinkEdit", "changesMaxVisits", "()Z"⟩ : MethodName)) (z := (⟨"com/example/ikat/ikat/core/LinkEdit", "changesMaxVisits", "()Z"⟩ : MethodName)) (Wd := 0) (cells' := 2) (slots' := 7) (argsL := []) (rest := []) X223 hx hZ hown (by rw [hml]; rfl) (hv 25 rfl) (hv 26 rfl) (notFace_of_selects (args := #[]) (mvT hZ (hv 28 rfl))) (hv 28 rfl) (hv 27 rfl) (hv 29 rfl) (hv 9 rfl) (hb hby at_122) (by decide) (rmg4 l Z a0 hw [] b198 (1 : Int32) h223 n0 Z223 (Or.inr rfl) q223_5) e223 q223_0 rfl rfl pd_rm0_4 rfl (Nat.le_of_eq rfl) (by decide) (by decide) rfl rfl (by decide) (by decide)
      obtain ⟨rfl, Nq230, e230q⟩ := Q230
      have N230 := Fr.app N223 Nq230
      have e230 : T230.heap = h223 := e230q
      have k230 : Go p e below m W T230 125 #[.val (.int p1), .val (.int p2), .val (.int p3), .val (.int u21_S0), .val (.int u27_S0), .val (.int u33_S0), .val (.int u39_S0), .val .null, .val (.ref ro_195), .val (.ref b198), .val (.ref b198), .unset] [(.int (1 : Int32))] := k230
      have k231 : Go p e below m W T230 132 #[.val (.int p1), .val (.int p2), .val (.int p3), .val (.int u21_S0), .val (.int u27_S0), .val (.int u33_S0), .val (.int u39_S0), .val .null, .val (.ref ro_195), .val (.ref b198), .val (.ref b198), .unset] [(.ref b198)] := (k230.ifYes X230 hx (hb hby at_125) (XT.i0_ne_t (by decide)) (by decide) (by decide)).aload X230 hx (hb hby at_130) rfl rfl
      obtain ⟨T232, v232, L232, X232, Q232, k232⟩ := k231.virt (y := (⟨"com/example/ikat/ikat/core/LinkEdit", "maxVisits", "()Ljava/lang/Integer;"⟩ : MethodName)) (z := (⟨"com/example/ikat/ikat/core/LinkEdit", "maxVisits", "()Ljava/lang/Integer;"⟩ : MethodName)) (Wd := 0) (cells' := 2) (slots' := 7) (argsL := []) (rest := []) X230 hx hZ hown (by rw [hml]; rfl) (hv 30 rfl) (hv 31 rfl) (notFace_of_selects (args := #[]) (mvT hZ (hv 33 rfl))) (hv 33 rfl) (hv 32 rfl) (hv 34 rfl) (hv 9 rfl) (hb hby at_132) (by decide) (rmg5 l Z a0 hw [] b198 .null h223 n0 Z223 rfl q223_6) e230 q223_0 rfl rfl pd_rm0_5 rfl (Nat.le_of_eq rfl) (by decide) (by decide) rfl rfl (by decide) (by decide)
      obtain ⟨rfl, Nq232, e232q⟩ := Q232
      have N232 := Fr.app N230 Nq232
      have e232 : T232.heap = h223 := e232q
      have k232 : Go p e below m W T232 135 #[.val (.int p1), .val (.int p2), .val (.int p3), .val (.int u21_S0), .val (.int u27_S0), .val (.int u33_S0), .val (.int u39_S0), .val .null, .val (.ref ro_195), .val (.ref b198), .val (.ref b198), .unset] [.null] := k232
      have k233 : Go p e below m W T232 137 #[.val (.int p1), .val (.int p2), .val (.int p3), .val (.int u21_S0), .val (.int u27_S0), .val (.int u33_S0), .val (.int u39_S0), .val .null, .val (.ref ro_195), .val (.ref b198), .val (.ref b198), .unset] [(.int p1), (.int u21_S0), .null] := (k232.iloadN X232 hx (hb hby at_135) rfl).iloadN X232 hx (hb hby at_136) rfl
      obtain ⟨T234, v234, L234, X234, Q234, k234⟩ := k233.stat (y := (⟨"com/example/ikat/ikat/core/LinkEditMaxVisitsPinLaw", "matches", "(Ljava/lang/Integer;ZI)Z"⟩ : MethodName)) (Wd := 0) (cells' := 2) (slots' := 7) (argsL := [.null, (.int u21_S0), (.int p1)]) (rest := []) X232 hx hZ hown (by rw [hml]; rfl) (hv 35 rfl) (hv 36 rfl) (hv 38 rfl) (hv 37 rfl) (hb hby at_137) (by decide) (rmmN l Z a0 hw [] u21_S0 p1 h223 n0 Z223 hc53_45) e232 rfl rfl pd_rm0_6 rfl (Nat.le_of_eq rfl) (by decide) (by decide) rfl rfl (by decide) (by decide)
      obtain ⟨rfl, Nq234, e234q⟩ := Q234
      have N234 := Fr.app N232 Nq234
      have e234 : T234.heap = h223 := e234q
      have k234 : Go p e below m W T234 140 #[.val (.int p1), .val (.int p2), .val (.int p3), .val (.int u21_S0), .val (.int u27_S0), .val (.int u33_S0), .val (.int u39_S0), .val .null, .val (.ref ro_195), .val (.ref b198), .val (.ref b198), .unset] [(.int (1 : Int32))] := k234
      have k235 : Go p e below m W T234 147 #[.val (.int p1), .val (.int p2), .val (.int p3), .val (.int u21_S0), .val (.int u27_S0), .val (.int u33_S0), .val (.int u39_S0), .val .null, .val (.ref ro_195), .val (.ref b198), .val (.ref b198), .unset] [(.int u27_S0)] := (k234.ifYes X234 hx (hb hby at_140) (XT.i0_ne_t (by decide)) (by decide) (by decide)).iload X234 hx (hb hby at_145) rfl
      obtain ⟨h236, l236, T236, u236_L11, u236_fb198_maxVisits, X236, e236, N236, Z236, f236_4, f236_5, f236_6, f236_7, f236_8, f236_9, f236_10, f236_11, f236_12, f236_13, hd236, k236⟩ : ∃ (h236 : Heap) (l236 : List Loc) (T236 : State) (u236_L11 : Slot) (u236_fb198_maxVisits : Value), Stand p l e room_1 s m args_ below meth c T236 l236 2 7 ∧ T236.heap = h236 ∧ Fr n0 l236 ∧ n0 ≤ h236.size ∧ Old Z n0 h236 ∧ Exa Z h236 ro_195 "java/lang/Integer" ∧ Fld Z h236 ro_195 "java/lang/Integer" "value" "I" (.int p2) ∧ Exa Z h236 b198 "com/example/ikat/ikat/core/LinkEdit" ∧ Fld Z h236 b198 "com/example/ikat/ikat/core/LinkEdit" "destination" "Ljava/lang/String;" .null ∧ Fld Z h236 b198 "com/example/ikat/ikat/core/LinkEdit" "paused" "Ljava/lang/Boolean;" .null ∧ Fld Z h236 b198 "com/example/ikat/ikat/core/LinkEdit" "changesExpiry" "Z" (.int u212_fb198_changesExpiry) ∧ Fld Z h236 b198 "com/example/ikat/ikat/core/LinkEdit" "expiresAt" "Ljava/time/Instant;" .null ∧ Fld Z h236 b198 "com/example/ikat/ikat/core/LinkEdit" "changesMaxVisits" "Z" (.int (1 : Int32)) ∧ Fld Z h236 b198 "com/example/ikat/ikat/core/LinkEdit" "maxVisits" "Ljava/lang/Integer;" u236_fb198_maxVisits ∧ (((u27_S0 = (0 : Int32)) ∧ u236_L11 = .unset ∧ u236_fb198_maxVisits = .null) ∨ ((¬ (u27_S0 = (0 : Int32))) ∧ u236_L11 = .val (.ref b198) ∧ u236_fb198_maxVisits = (.ref ro_195))) ∧ Go p e below m W T236 184 #[.val (.int p1), .val (.int p2), .val (.int p3), .val (.int u21_S0), .val (.int u27_S0), .val (.int u33_S0), .val (.int u39_S0), .val .null, .val (.ref ro_195), .val (.ref b198), .val (.ref b198), u236_L11] [] := by
        by_cases hc147_237 : u27_S0 = (0 : Int32)
        ·
          have k238 : Go p e below m W T234 184 #[.val (.int p1), .val (.int p2), .val (.int p3), .val (.int u21_S0), .val (.int u27_S0), .val (.int u33_S0), .val (.int u39_S0), .val .null, .val (.ref ro_195), .val (.ref b198), .val (.ref b198), .unset] [] := k235.ifYes X234 hx (hb hby at_147) (XT.i0_eq_t hc147_237) (by decide) (by decide)
          exact ⟨h223, ((((l212 ++ L223) ++ L230) ++ L232) ++ L234), T234, .unset, .null, X234.more (by decide) (by decide), e234, N234, Z223, f224, f225, f226, q223_0, q223_1, q223_2, q223_3, q223_4, q223_5, q223_6, (Or.inl ⟨hc147_237, rfl, rfl⟩), k238⟩
        ·
          have k239 : Go p e below m W T234 154 #[.val (.int p1), .val (.int p2), .val (.int p3), .val (.int u21_S0), .val (.int u27_S0), .val (.int u33_S0), .val (.int u39_S0), .val .null, .val (.ref ro_195), .val (.ref b198), .val (.ref b198), .unset] [(.ref ro_195), (.ref b198)] := ((k235.ifNo X234 hx (hb hby at_147) (XT.i0_eq_f hc147_237)).aload X234 hx (hb hby at_150) rfl rfl).aload X234 hx (hb hby at_152) rfl rfl
          obtain ⟨T240, v240, L240, X240, Q240, k240⟩ := k239.virt (y := (⟨"com/example/ikat/ikat/core/LinkEdit", "maxVisits", "(Ljava/lang/Integer;)Lcom/example/ikat/ikat/core/LinkEdit;"⟩ : MethodName)) (z := (⟨"com/example/ikat/ikat/core/LinkEdit", "maxVisits", "(Ljava/lang/Integer;)Lcom/example/ikat/ikat/core/LinkEdit;"⟩ : MethodName)) (Wd := 0) (cells' := 2) (slots' := 7) (argsL := [(.ref ro_195)]) (rest := []) X234 hx hZ hown (by rw [hml]; rfl) (hv 16 rfl) (hv 17 rfl) (notFace_of_selects (args := #[]) (mvT hZ (hv 19 rfl))) (hv 19 rfl) (hv 18 rfl) (hv 20 rfl) (hv 9 rfl) (hb hby at_154) (by decide) (rms l Z a0 hw [] b198 (.ref ro_195) .null .null (.int u212_fb198_changesExpiry) .null (.int (1 : Int32)) .null h223 n0 Z223 q223_0 G198 rfl q223_1 q223_2 q223_3 q223_4 q223_5 q223_6) e234 q223_0 rfl rfl pd_rm0_3 rfl (Nat.le_of_eq rfl) (by decide) (by decide) rfl rfl (by decide) (by decide)
          obtain ⟨rfl, Nq240, Kq240, q240_0, q240_1, q240_2, q240_3, q240_4, q240_5, q240_6⟩ := Q240
          have N240 := Fr.app N234 Nq240
          obtain ⟨h240, e240⟩ : ∃ h, T240.heap = h := ⟨_, rfl⟩
          rw [e240] at Kq240 q240_0 q240_1 q240_2 q240_3 q240_4 q240_5 q240_6
          have Z240 : n0 ≤ h240.size := Nat.le_trans Z223 Kq240.1
          have f241 := f224.keep Kq240 (by intro x q; simp only [List.mem_cons, List.not_mem_nil, or_false] at q; rcases q with rfl; exact G198)
          have f242 := f225.keep Kq240
          have f243 := f226.keep Kq240 (by simp only [List.mem_cons, List.not_mem_nil, or_false, not_or]; exact ne198_ro_195)
          have f244 := q223_0.keep Kq240
          have k240 : Go p e below m W T240 157 #[.val (.int p1), .val (.int p2), .val (.int p3), .val (.int u21_S0), .val (.int u27_S0), .val (.int u33_S0), .val (.int u39_S0), .val .null, .val (.ref ro_195), .val (.ref b198), .val (.ref b198), .unset] [(.ref b198)] := k240
          have k245 : Go p e below m W T240 159 #[.val (.int p1), .val (.int p2), .val (.int p3), .val (.int u21_S0), .val (.int u27_S0), .val (.int u33_S0), .val (.int u39_S0), .val .null, .val (.ref ro_195), .val (.ref b198), .val (.ref b198), .val (.ref b198)] [] := k240.astore X240 hx (hb hby at_157) rfl rfl
          have k246 : Go p e below m W T240 170 #[.val (.int p1), .val (.int p2), .val (.int p3), .val (.int u21_S0), .val (.int u27_S0), .val (.int u33_S0), .val (.int u39_S0), .val .null, .val (.ref ro_195), .val (.ref b198), .val (.ref b198), .val (.ref b198)] [(.ref b198)] := (((k245.aload X240 hx (hb hby at_159) rfl rfl).aload X240 hx (hb hby at_161) rfl rfl).acmpYes X240 hx (hb hby at_163) rfl rfl (XT.aa_eq_t rfl) (by decide) (by decide)).aload X240 hx (hb hby at_168) rfl rfl
          obtain ⟨T247, v247, L247, X247, Q247, k247⟩ := k246.virt (y := (⟨"com/example/ikat/ikat/core/LinkEdit", "maxVisits", "()Ljava/lang/Integer;"⟩ : MethodName)) (z := (⟨"com/example/ikat/ikat/core/LinkEdit", "maxVisits", "()Ljava/lang/Integer;"⟩ : MethodName)) (Wd := 0) (cells' := 2) (slots' := 7) (argsL := []) (rest := []) X240 hx hZ hown (by rw [hml]; rfl) (hv 30 rfl) (hv 31 rfl) (notFace_of_selects (args := #[]) (mvT hZ (hv 33 rfl))) (hv 33 rfl) (hv 32 rfl) (hv 34 rfl) (hv 9 rfl) (hb hby at_170) (by decide) (rmg5 l Z a0 hw [] b198 (.ref ro_195) h240 n0 Z240 rfl q240_6) e240 q240_0 rfl rfl pd_rm0_5 rfl (Nat.le_of_eq rfl) (by decide) (by decide) rfl rfl (by decide) (by decide)
          obtain ⟨rfl, Nq247, e247q⟩ := Q247
          have N247 := Fr.app N240 Nq247
          have e247 : T247.heap = h240 := e247q
          have k247 : Go p e below m W T247 173 #[.val (.int p1), .val (.int p2), .val (.int p3), .val (.int u21_S0), .val (.int u27_S0), .val (.int u33_S0), .val (.int u39_S0), .val .null, .val (.ref ro_195), .val (.ref b198), .val (.ref b198), .val (.ref b198)] [(.ref ro_195)] := k247
          have k248 : Go p e below m W T247 176 #[.val (.int p1), .val (.int p2), .val (.int p3), .val (.int u21_S0), .val (.int u27_S0), .val (.int u33_S0), .val (.int u39_S0), .val .null, .val (.ref ro_195), .val (.ref b198), .val (.ref b198), .val (.ref b198)] [(.int p2), (.int u33_S0), (.ref ro_195)] := (k247.iload X247 hx (hb hby at_173) rfl).iloadN X247 hx (hb hby at_175) rfl
          obtain ⟨T249, v249, L249, X249, Q249, k249⟩ := k248.stat (y := (⟨"com/example/ikat/ikat/core/LinkEditMaxVisitsPinLaw", "matches", "(Ljava/lang/Integer;ZI)Z"⟩ : MethodName)) (Wd := 0) (cells' := 2) (slots' := 7) (argsL := [(.ref ro_195), (.int u33_S0), (.int p2)]) (rest := []) X247 hx hZ hown (by rw [hml]; rfl) (hv 35 rfl) (hv 36 rfl) (hv 38 rfl) (hv 37 rfl) (hb hby at_176) (by decide) (rmmR l Z a0 hw [] ro_195 u33_S0 p2 h240 n0 Z240 hc68_193 f242 f243) e247 rfl rfl pd_rm0_6 rfl (Nat.le_of_eq rfl) (by decide) (by decide) rfl rfl (by decide) (by decide)
          obtain ⟨rfl, Nq249, e249q⟩ := Q249
          have N249 := Fr.app N247 Nq249
          have e249 : T249.heap = h240 := e249q
          have k249 : Go p e below m W T249 179 #[.val (.int p1), .val (.int p2), .val (.int p3), .val (.int u21_S0), .val (.int u27_S0), .val (.int u33_S0), .val (.int u39_S0), .val .null, .val (.ref ro_195), .val (.ref b198), .val (.ref b198), .val (.ref b198)] [(.int (1 : Int32))] := k249
          have k250 : Go p e below m W T249 184 #[.val (.int p1), .val (.int p2), .val (.int p3), .val (.int u21_S0), .val (.int u27_S0), .val (.int u33_S0), .val (.int u39_S0), .val .null, .val (.ref ro_195), .val (.ref b198), .val (.ref b198), .val (.ref b198)] [] := k249.ifYes X249 hx (hb hby at_179) (XT.i0_ne_t (by decide)) (by decide) (by decide)
          exact ⟨h240, (((((((l212 ++ L223) ++ L230) ++ L232) ++ L234) ++ L240) ++ L247) ++ L249), T249, .val (.ref b198), (.ref ro_195), X249.more (by decide) (by decide), e249, N249, Z240, f241, f242, f243, q240_0, q240_1, q240_2, q240_3, q240_4, q240_5, q240_6, (Or.inr ⟨hc147_237, rfl, rfl⟩), k250⟩
      have k251 : Go p e below m W T236 186 #[.val (.int p1), .val (.int p2), .val (.int p3), .val (.int u21_S0), .val (.int u27_S0), .val (.int u33_S0), .val (.int u39_S0), .val .null, .val (.ref ro_195), .val (.ref b198), .val (.ref b198), u236_L11] [(.ref b198)] := k236.aload X236 hx (hb hby at_184) rfl rfl
      obtain ⟨T252, v252, L252, X252, Q252, k252⟩ := k251.virt (y := (⟨"com/example/ikat/ikat/core/LinkEdit", "destination", "()Ljava/lang/String;"⟩ : MethodName)) (z := (⟨"com/example/ikat/ikat/core/LinkEdit", "destination", "()Ljava/lang/String;"⟩ : MethodName)) (Wd := 0) (cells' := 2) (slots' := 7) (argsL := []) (rest := []) X236 hx hZ hown (by rw [hml]; rfl) (hv 46 rfl) (hv 47 rfl) (notFace_of_selects (args := #[]) (mvT hZ (hv 49 rfl))) (hv 49 rfl) (hv 48 rfl) (hv 50 rfl) (hv 9 rfl) (hb hby at_186) (by decide) (rmg0 l Z a0 hw [] b198 .null h236 n0 Z236 rfl f236_8) e236 f236_7 rfl rfl pd_rm0_7 rfl (Nat.le_of_eq rfl) (by decide) (by decide) rfl rfl (by decide) (by decide)
      obtain ⟨rfl, Nq252, e252q⟩ := Q252
      have N252 := Fr.app N236 Nq252
      have e252 : T252.heap = h236 := e252q
      have k252 : Go p e below m W T252 189 #[.val (.int p1), .val (.int p2), .val (.int p3), .val (.int u21_S0), .val (.int u27_S0), .val (.int u33_S0), .val (.int u39_S0), .val .null, .val (.ref ro_195), .val (.ref b198), .val (.ref b198), u236_L11] [.null] := k252
      have k253 : Go p e below m W T252 194 #[.val (.int p1), .val (.int p2), .val (.int p3), .val (.int u21_S0), .val (.int u27_S0), .val (.int u33_S0), .val (.int u39_S0), .val .null, .val (.ref ro_195), .val (.ref b198), .val (.ref b198), u236_L11] [(.ref b198)] := (k252.nonnullNo X252 hx (hb hby at_189) rfl).aload X252 hx (hb hby at_192) rfl rfl
      obtain ⟨T254, v254, L254, X254, Q254, k254⟩ := k253.virt (y := (⟨"com/example/ikat/ikat/core/LinkEdit", "paused", "()Ljava/lang/Boolean;"⟩ : MethodName)) (z := (⟨"com/example/ikat/ikat/core/LinkEdit", "paused", "()Ljava/lang/Boolean;"⟩ : MethodName)) (Wd := 0) (cells' := 2) (slots' := 7) (argsL := []) (rest := []) X252 hx hZ hown (by rw [hml]; rfl) (hv 53 rfl) (hv 54 rfl) (notFace_of_selects (args := #[]) (mvT hZ (hv 56 rfl))) (hv 56 rfl) (hv 55 rfl) (hv 57 rfl) (hv 9 rfl) (hb hby at_194) (by decide) (rmg1 l Z a0 hw [] b198 .null h236 n0 Z236 rfl f236_9) e252 f236_7 rfl rfl pd_rm0_8 rfl (Nat.le_of_eq rfl) (by decide) (by decide) rfl rfl (by decide) (by decide)
      obtain ⟨rfl, Nq254, e254q⟩ := Q254
      have N254 := Fr.app N252 Nq254
      have e254 : T254.heap = h236 := e254q
      have k254 : Go p e below m W T254 197 #[.val (.int p1), .val (.int p2), .val (.int p3), .val (.int u21_S0), .val (.int u27_S0), .val (.int u33_S0), .val (.int u39_S0), .val .null, .val (.ref ro_195), .val (.ref b198), .val (.ref b198), u236_L11] [.null] := k254
      have k255 : Go p e below m W T254 202 #[.val (.int p1), .val (.int p2), .val (.int p3), .val (.int u21_S0), .val (.int u27_S0), .val (.int u33_S0), .val (.int u39_S0), .val .null, .val (.ref ro_195), .val (.ref b198), .val (.ref b198), u236_L11] [(.ref b198)] := (k254.nonnullNo X254 hx (hb hby at_197) rfl).aload X254 hx (hb hby at_200) rfl rfl
      obtain ⟨T256, v256, L256, X256, Q256, k256⟩ := k255.virt (y := (⟨"com/example/ikat/ikat/core/LinkEdit", "changesExpiry", "()Z"⟩ : MethodName)) (z := (⟨"com/example/ikat/ikat/core/LinkEdit", "changesExpiry", "()Z"⟩ : MethodName)) (Wd := 0) (cells' := 2) (slots' := 7) (argsL := []) (rest := []) X254 hx hZ hown (by rw [hml]; rfl) (hv 60 rfl) (hv 61 rfl) (notFace_of_selects (args := #[]) (mvT hZ (hv 63 rfl))) (hv 63 rfl) (hv 62 rfl) (hv 64 rfl) (hv 9 rfl) (hb hby at_202) (by decide) (rmg2 l Z a0 hw [] b198 u212_fb198_changesExpiry h236 n0 Z236 (by rcases hd212 with ⟨_, q⟩ | ⟨_, q⟩ <;> first | exact Or.inl q | exact Or.inr q) f236_10) e254 f236_7 rfl rfl pd_rm0_4 rfl (Nat.le_of_eq rfl) (by decide) (by decide) rfl rfl (by decide) (by decide)
      obtain ⟨rfl, Nq256, e256q⟩ := Q256
      have N256 := Fr.app N254 Nq256
      have e256 : T256.heap = h236 := e256q
      have k256 : Go p e below m W T256 205 #[.val (.int p1), .val (.int p2), .val (.int p3), .val (.int u21_S0), .val (.int u27_S0), .val (.int u33_S0), .val (.int u39_S0), .val .null, .val (.ref ro_195), .val (.ref b198), .val (.ref b198), u236_L11] [(.int u212_fb198_changesExpiry)] := k256
      have k257 : Go p e below m W T256 212 #[.val (.int p1), .val (.int p2), .val (.int p3), .val (.int u21_S0), .val (.int u27_S0), .val (.int u33_S0), .val (.int u39_S0), .val .null, .val (.ref ro_195), .val (.ref b198), .val (.ref b198), u236_L11] [(.ref b198)] := ((k256.iload X256 hx (hb hby at_205) rfl).icmpNo X256 hx (hb hby at_207) (XT.ii_ne_f (by have q1 := hd39; have q2 := hd212; rcases q1 with ⟨_, q⟩ | ⟨_, q⟩ <;> simp_all))).aload X256 hx (hb hby at_210) rfl rfl
      obtain ⟨T258, v258, L258, X258, Q258, k258⟩ := k257.virt (y := (⟨"com/example/ikat/ikat/core/LinkEdit", "expiresAt", "()Ljava/time/Instant;"⟩ : MethodName)) (z := (⟨"com/example/ikat/ikat/core/LinkEdit", "expiresAt", "()Ljava/time/Instant;"⟩ : MethodName)) (Wd := 0) (cells' := 2) (slots' := 7) (argsL := []) (rest := []) X256 hx hZ hown (by rw [hml]; rfl) (hv 67 rfl) (hv 68 rfl) (notFace_of_selects (args := #[]) (mvT hZ (hv 70 rfl))) (hv 70 rfl) (hv 69 rfl) (hv 71 rfl) (hv 9 rfl) (hb hby at_212) (by decide) (rmg3 l Z a0 hw [] b198 .null h236 n0 Z236 rfl f236_11) e256 f236_7 rfl rfl pd_rm0_9 rfl (Nat.le_of_eq rfl) (by decide) (by decide) rfl rfl (by decide) (by decide)
      obtain ⟨rfl, Nq258, e258q⟩ := Q258
      have N258 := Fr.app N256 Nq258
      have e258 : T258.heap = h236 := e258q
      have k258 : Go p e below m W T258 215 #[.val (.int p1), .val (.int p2), .val (.int p3), .val (.int u21_S0), .val (.int u27_S0), .val (.int u33_S0), .val (.int u39_S0), .val .null, .val (.ref ro_195), .val (.ref b198), .val (.ref b198), u236_L11] [.null] := k258
      have k259 : Go p e below m W T258 223 #[.val (.int p1), .val (.int p2), .val (.int p3), .val (.int u21_S0), .val (.int u27_S0), .val (.int u33_S0), .val (.int u39_S0), .val .null, .val (.ref ro_195), .val (.ref b198), .val (.ref b198), u236_L11] [(.int (1 : Int32))] := ((k258.nonnullNo X258 hx (hb hby at_215) rfl).iconst X258 hx (hb hby at_218) (v := (1 : Int32)) rfl).goto X258 hx (hb hby at_219) (by decide) (by decide)
      exact k259.ireturnN X258 hx (t := .boolean) Bd.returns (by simp) rfl (hb hby at_223) (BodyLoose.notSynchronized Bd) (by rw [e258]; exact ⟨rfl, N258⟩) (by decide) (by decide)
    ·
      have k260 : Go p e below m W s₁ 81 #[.val (.int p1), .val (.int p2), .val (.int p3), .val (.int u21_S0), .val (.int u27_S0), .val (.int u33_S0), .val (.int u39_S0), .val .null, .val .null, .unset, .unset, .unset] [] := (((k192.ifNo X0 hx (hb hby at_68) (XT.i0_eq_f hc68_193)).aconstNull X0 hx (hb hby at_71)).goto X0 hx (hb hby at_72) (by decide) (by decide)).astore X0 hx (hb hby at_79) rfl rfl
      obtain ⟨T261, h261, b261, X261, e261, g261, E261, A261, D261, k261⟩ := k260.newO (cells' := 1) (slots' := 6) X0 hx hZ hown (hv 7 rfl) (hv 8 rfl) (hv 9 rfl) e0 (hb hby at_81) rfl rfl (by decide) (by decide)
      have k261 : Go p e below m W T261 84 #[.val (.int p1), .val (.int p2), .val (.int p3), .val (.int u21_S0), .val (.int u27_S0), .val (.int u33_S0), .val (.int u39_S0), .val .null, .val .null, .unset, .unset, .unset] [(.ref b261)] := k261
      have Z261 : n0 ≤ h261.size := Nat.le_trans Z0 E261.1
      have f262 := O0.ext E261
      have G261 : n0 ≤ b261 := g261 ▸ Z0
      have f263 : Fld Z h261 b261 "com/example/ikat/ikat/core/LinkEdit" "changesMaxVisits" "Z" (.int (0 : Int32)) := D261 (Or.inl (hv 22 rfl)) (ty := .boolean) (by decide)
      have f264 : Fld Z h261 b261 "com/example/ikat/ikat/core/LinkEdit" "maxVisits" "Ljava/lang/Integer;" .null := D261 (Or.inl (hv 24 rfl)) (ty := (.object "java/lang/Integer")) (by decide)
      have f265 : Fld Z h261 b261 "com/example/ikat/ikat/core/LinkEdit" "destination" "Ljava/lang/String;" .null := D261 (Or.inl (hv 52 rfl)) (ty := (.object "java/lang/String")) (by decide)
      have f266 : Fld Z h261 b261 "com/example/ikat/ikat/core/LinkEdit" "paused" "Ljava/lang/Boolean;" .null := D261 (Or.inl (hv 59 rfl)) (ty := (.object "java/lang/Boolean")) (by decide)
      have f267 : Fld Z h261 b261 "com/example/ikat/ikat/core/LinkEdit" "changesExpiry" "Z" (.int (0 : Int32)) := D261 (Or.inl (hv 66 rfl)) (ty := .boolean) (by decide)
      have f268 : Fld Z h261 b261 "com/example/ikat/ikat/core/LinkEdit" "expiresAt" "Ljava/time/Instant;" .null := D261 (Or.inl (hv 73 rfl)) (ty := (.object "java/time/Instant")) (by decide)
      have k269 : Go p e below m W T261 85 #[.val (.int p1), .val (.int p2), .val (.int p3), .val (.int u21_S0), .val (.int u27_S0), .val (.int u33_S0), .val (.int u39_S0), .val .null, .val .null, .unset, .unset, .unset] [(.ref b261), (.ref b261)] := k261.dup X261 hx (hb hby at_84) rfl
      obtain ⟨T270, v270, L270, X270, Q270, k270⟩ := k269.spec (y := (⟨"com/example/ikat/ikat/core/LinkEdit", "<init>", "()V"⟩ : MethodName)) (b := b261) (Wd := 1) (cells' := 1) (slots' := 6) (argsL := []) (rest := [(.ref b261)]) X261 hx hZ hown (by rw [hml]; rfl) rfl (hv 10 rfl) (hv 11 rfl) (hv 12 rfl) (hv 9 rfl) (hb hby at_85) (by decide) (rme l Z a0 hw [] b261 h261 n0 Z261) e261 rfl rfl pd_rm0_1 rfl (Nat.le_of_eq rfl) (by decide) (by decide) rfl rfl (by decide) (by decide)
      obtain ⟨rfl, Nq270, e270q⟩ := Q270
      have N270 := Fr.app N0 Nq270
      have e270 : T270.heap = h261 := e270q
      have k270 : Go p e below m W T270 88 #[.val (.int p1), .val (.int p2), .val (.int p3), .val (.int u21_S0), .val (.int u27_S0), .val (.int u33_S0), .val (.int u39_S0), .val .null, .val .null, .unset, .unset, .unset] [(.ref b261)] := k270
      have k271 : Go p e below m W T270 90 #[.val (.int p1), .val (.int p2), .val (.int p3), .val (.int u21_S0), .val (.int u27_S0), .val (.int u33_S0), .val (.int u39_S0), .val .null, .val .null, .val (.ref b261), .unset, .unset] [] := k270.astore X270 hx (hb hby at_88) rfl rfl
      have k272 : Go p e below m W T270 92 #[.val (.int p1), .val (.int p2), .val (.int p3), .val (.int u21_S0), .val (.int u27_S0), .val (.int u33_S0), .val (.int u39_S0), .val .null, .val .null, .val (.ref b261), .unset, .unset] [(.int u39_S0)] := k271.iload X270 hx (hb hby at_90) rfl
      obtain ⟨h273, l273, T273, u273_fb261_changesExpiry, X273, e273, N273, Z273, f273_4, f273_5, f273_6, f273_7, f273_8, f273_9, f273_10, f273_11, hd273, k273⟩ : ∃ (h273 : Heap) (l273 : List Loc) (T273 : State) (u273_fb261_changesExpiry : Int32), Stand p l e room_1 s m args_ below meth c T273 l273 1 6 ∧ T273.heap = h273 ∧ Fr n0 l273 ∧ n0 ≤ h273.size ∧ Old Z n0 h273 ∧ Exa Z h273 b261 "com/example/ikat/ikat/core/LinkEdit" ∧ Fld Z h273 b261 "com/example/ikat/ikat/core/LinkEdit" "changesMaxVisits" "Z" (.int (0 : Int32)) ∧ Fld Z h273 b261 "com/example/ikat/ikat/core/LinkEdit" "maxVisits" "Ljava/lang/Integer;" .null ∧ Fld Z h273 b261 "com/example/ikat/ikat/core/LinkEdit" "destination" "Ljava/lang/String;" .null ∧ Fld Z h273 b261 "com/example/ikat/ikat/core/LinkEdit" "paused" "Ljava/lang/Boolean;" .null ∧ Fld Z h273 b261 "com/example/ikat/ikat/core/LinkEdit" "changesExpiry" "Z" (.int u273_fb261_changesExpiry) ∧ Fld Z h273 b261 "com/example/ikat/ikat/core/LinkEdit" "expiresAt" "Ljava/time/Instant;" .null ∧ (((u39_S0 = (0 : Int32)) ∧ u273_fb261_changesExpiry = (0 : Int32)) ∨ ((¬ (u39_S0 = (0 : Int32))) ∧ u273_fb261_changesExpiry = (1 : Int32))) ∧ Go p e below m W T273 102 #[.val (.int p1), .val (.int p2), .val (.int p3), .val (.int u21_S0), .val (.int u27_S0), .val (.int u33_S0), .val (.int u39_S0), .val .null, .val .null, .val (.ref b261), .unset, .unset] [] := by
        by_cases hc92_274 : u39_S0 = (0 : Int32)
        ·
          have k275 : Go p e below m W T270 102 #[.val (.int p1), .val (.int p2), .val (.int p3), .val (.int u21_S0), .val (.int u27_S0), .val (.int u33_S0), .val (.int u39_S0), .val .null, .val .null, .val (.ref b261), .unset, .unset] [] := k272.ifYes X270 hx (hb hby at_92) (XT.i0_eq_t hc92_274) (by decide) (by decide)
          exact ⟨h261, ([] ++ L270), T270, (0 : Int32), X270.more (by decide) (by decide), e270, N270, Z261, f262, A261, f263, f264, f265, f266, f267, f268, (Or.inl ⟨hc92_274, rfl⟩), k275⟩
        ·
          have k276 : Go p e below m W T270 98 #[.val (.int p1), .val (.int p2), .val (.int p3), .val (.int u21_S0), .val (.int u27_S0), .val (.int u33_S0), .val (.int u39_S0), .val .null, .val .null, .val (.ref b261), .unset, .unset] [.null, (.ref b261)] := ((k272.ifNo X270 hx (hb hby at_92) (XT.i0_eq_f hc92_274)).aload X270 hx (hb hby at_95) rfl rfl).aconstNull X270 hx (hb hby at_97)
          obtain ⟨T277, v277, L277, X277, Q277, k277⟩ := k276.virt (y := (⟨"com/example/ikat/ikat/core/LinkEdit", "expiresAt", "(Ljava/time/Instant;)Lcom/example/ikat/ikat/core/LinkEdit;"⟩ : MethodName)) (z := (⟨"com/example/ikat/ikat/core/LinkEdit", "expiresAt", "(Ljava/time/Instant;)Lcom/example/ikat/ikat/core/LinkEdit;"⟩ : MethodName)) (Wd := 0) (cells' := 1) (slots' := 6) (argsL := [.null]) (rest := []) X270 hx hZ hown (by rw [hml]; rfl) (hv 74 rfl) (hv 75 rfl) (notFace_of_selects (args := #[]) (mvT hZ (hv 77 rfl))) (hv 77 rfl) (hv 76 rfl) (hv 78 rfl) (hv 9 rfl) (hb hby at_98) (by decide) (rmx l Z a0 hw [] b261 .null .null .null (.int (0 : Int32)) .null (.int (0 : Int32)) .null h261 n0 Z261 A261 G261 rfl f265 f266 f267 f268 f263 f264) e270 A261 rfl rfl pd_rm0_2 rfl (Nat.le_of_eq rfl) (by decide) (by decide) rfl rfl (by decide) (by decide)
          obtain ⟨rfl, Nq277, Kq277, q277_0, q277_1, q277_2, q277_3, q277_4, q277_5, q277_6⟩ := Q277
          have N277 := Fr.app N270 Nq277
          obtain ⟨h277, e277⟩ : ∃ h, T277.heap = h := ⟨_, rfl⟩
          rw [e277] at Kq277 q277_0 q277_1 q277_2 q277_3 q277_4 q277_5 q277_6
          have Z277 : n0 ≤ h277.size := Nat.le_trans Z261 Kq277.1
          have f278 := f262.keep Kq277 (by intro x q; simp only [List.mem_cons, List.not_mem_nil, or_false] at q; rcases q with rfl; exact G261)
          have f279 := A261.keep Kq277
          have k277 : Go p e below m W T277 101 #[.val (.int p1), .val (.int p2), .val (.int p3), .val (.int u21_S0), .val (.int u27_S0), .val (.int u33_S0), .val (.int u39_S0), .val .null, .val .null, .val (.ref b261), .unset, .unset] [(.ref b261)] := k277
          have k280 : Go p e below m W T277 102 #[.val (.int p1), .val (.int p2), .val (.int p3), .val (.int u21_S0), .val (.int u27_S0), .val (.int u33_S0), .val (.int u39_S0), .val .null, .val .null, .val (.ref b261), .unset, .unset] [] := k277.pop X277 hx (hb hby at_101) rfl
          exact ⟨h277, (([] ++ L270) ++ L277), T277, (1 : Int32), X277.more (by decide) (by decide), e277, N277, Z277, f278, q277_0, q277_5, q277_6, q277_1, q277_2, q277_3, q277_4, (Or.inr ⟨hc92_274, rfl⟩), k280⟩
      have k281 : Go p e below m W T273 106 #[.val (.int p1), .val (.int p2), .val (.int p3), .val (.int u21_S0), .val (.int u27_S0), .val (.int u33_S0), .val (.int u39_S0), .val .null, .val .null, .val (.ref b261), .unset, .unset] [.null, (.ref b261)] := (k273.aload X273 hx (hb hby at_102) rfl rfl).aload X273 hx (hb hby at_104) rfl rfl
      obtain ⟨T282, v282, L282, X282, Q282, k282⟩ := k281.virt (y := (⟨"com/example/ikat/ikat/core/LinkEdit", "maxVisits", "(Ljava/lang/Integer;)Lcom/example/ikat/ikat/core/LinkEdit;"⟩ : MethodName)) (z := (⟨"com/example/ikat/ikat/core/LinkEdit", "maxVisits", "(Ljava/lang/Integer;)Lcom/example/ikat/ikat/core/LinkEdit;"⟩ : MethodName)) (Wd := 0) (cells' := 1) (slots' := 6) (argsL := [.null]) (rest := []) X273 hx hZ hown (by rw [hml]; rfl) (hv 16 rfl) (hv 17 rfl) (notFace_of_selects (args := #[]) (mvT hZ (hv 19 rfl))) (hv 19 rfl) (hv 18 rfl) (hv 20 rfl) (hv 9 rfl) (hb hby at_106) (by decide) (rms l Z a0 hw [] b261 .null .null .null (.int u273_fb261_changesExpiry) .null (.int (0 : Int32)) .null h273 n0 Z273 f273_5 G261 rfl f273_8 f273_9 f273_10 f273_11 f273_6 f273_7) e273 f273_5 rfl rfl pd_rm0_3 rfl (Nat.le_of_eq rfl) (by decide) (by decide) rfl rfl (by decide) (by decide)
      obtain ⟨rfl, Nq282, Kq282, q282_0, q282_1, q282_2, q282_3, q282_4, q282_5, q282_6⟩ := Q282
      have N282 := Fr.app N273 Nq282
      obtain ⟨h282, e282⟩ : ∃ h, T282.heap = h := ⟨_, rfl⟩
      rw [e282] at Kq282 q282_0 q282_1 q282_2 q282_3 q282_4 q282_5 q282_6
      have Z282 : n0 ≤ h282.size := Nat.le_trans Z273 Kq282.1
      have f283 := f273_4.keep Kq282 (by intro x q; simp only [List.mem_cons, List.not_mem_nil, or_false] at q; rcases q with rfl; exact G261)
      have f284 := f273_5.keep Kq282
      have k282 : Go p e below m W T282 109 #[.val (.int p1), .val (.int p2), .val (.int p3), .val (.int u21_S0), .val (.int u27_S0), .val (.int u33_S0), .val (.int u39_S0), .val .null, .val .null, .val (.ref b261), .unset, .unset] [(.ref b261)] := k282
      have k285 : Go p e below m W T282 111 #[.val (.int p1), .val (.int p2), .val (.int p3), .val (.int u21_S0), .val (.int u27_S0), .val (.int u33_S0), .val (.int u39_S0), .val .null, .val .null, .val (.ref b261), .val (.ref b261), .unset] [] := k282.astore X282 hx (hb hby at_109) rfl rfl
      have k286 : Go p e below m W T282 122 #[.val (.int p1), .val (.int p2), .val (.int p3), .val (.int u21_S0), .val (.int u27_S0), .val (.int u33_S0), .val (.int u39_S0), .val .null, .val .null, .val (.ref b261), .val (.ref b261), .unset] [(.ref b261)] := (((k285.aload X282 hx (hb hby at_111) rfl rfl).aload X282 hx (hb hby at_113) rfl rfl).acmpYes X282 hx (hb hby at_115) rfl rfl (XT.aa_eq_t rfl) (by decide) (by decide)).aload X282 hx (hb hby at_120) rfl rfl
      obtain ⟨T287, v287, L287, X287, Q287, k287⟩ := k286.virt (y := (⟨"com/example/ikat/ikat/core/LinkEdit", "changesMaxVisits", "()Z"⟩ : MethodName)) (z := (⟨"com/example/ikat/ikat/core/LinkEdit", "changesMaxVisits", "()Z"⟩ : MethodName)) (Wd := 0) (cells' := 1) (slots' := 6) (argsL := []) (rest := []) X282 hx hZ hown (by rw [hml]; rfl) (hv 25 rfl) (hv 26 rfl) (notFace_of_selects (args := #[]) (mvT hZ (hv 28 rfl))) (hv 28 rfl) (hv 27 rfl) (hv 29 rfl) (hv 9 rfl) (hb hby at_122) (by decide) (rmg4 l Z a0 hw [] b261 (1 : Int32) h282 n0 Z282 (Or.inr rfl) q282_5) e282 q282_0 rfl rfl pd_rm0_4 rfl (Nat.le_of_eq rfl) (by decide) (by decide) rfl rfl (by decide) (by decide)
      obtain ⟨rfl, Nq287, e287q⟩ := Q287
      have N287 := Fr.app N282 Nq287
      have e287 : T287.heap = h282 := e287q
      have k287 : Go p e below m W T287 125 #[.val (.int p1), .val (.int p2), .val (.int p3), .val (.int u21_S0), .val (.int u27_S0), .val (.int u33_S0), .val (.int u39_S0), .val .null, .val .null, .val (.ref b261), .val (.ref b261), .unset] [(.int (1 : Int32))] := k287
      have k288 : Go p e below m W T287 132 #[.val (.int p1), .val (.int p2), .val (.int p3), .val (.int u21_S0), .val (.int u27_S0), .val (.int u33_S0), .val (.int u39_S0), .val .null, .val .null, .val (.ref b261), .val (.ref b261), .unset] [(.ref b261)] := (k287.ifYes X287 hx (hb hby at_125) (XT.i0_ne_t (by decide)) (by decide) (by decide)).aload X287 hx (hb hby at_130) rfl rfl
      obtain ⟨T289, v289, L289, X289, Q289, k289⟩ := k288.virt (y := (⟨"com/example/ikat/ikat/core/LinkEdit", "maxVisits", "()Ljava/lang/Integer;"⟩ : MethodName)) (z := (⟨"com/example/ikat/ikat/core/LinkEdit", "maxVisits", "()Ljava/lang/Integer;"⟩ : MethodName)) (Wd := 0) (cells' := 1) (slots' := 6) (argsL := []) (rest := []) X287 hx hZ hown (by rw [hml]; rfl) (hv 30 rfl) (hv 31 rfl) (notFace_of_selects (args := #[]) (mvT hZ (hv 33 rfl))) (hv 33 rfl) (hv 32 rfl) (hv 34 rfl) (hv 9 rfl) (hb hby at_132) (by decide) (rmg5 l Z a0 hw [] b261 .null h282 n0 Z282 rfl q282_6) e287 q282_0 rfl rfl pd_rm0_5 rfl (Nat.le_of_eq rfl) (by decide) (by decide) rfl rfl (by decide) (by decide)
      obtain ⟨rfl, Nq289, e289q⟩ := Q289
      have N289 := Fr.app N287 Nq289
      have e289 : T289.heap = h282 := e289q
      have k289 : Go p e below m W T289 135 #[.val (.int p1), .val (.int p2), .val (.int p3), .val (.int u21_S0), .val (.int u27_S0), .val (.int u33_S0), .val (.int u39_S0), .val .null, .val .null, .val (.ref b261), .val (.ref b261), .unset] [.null] := k289
      have k290 : Go p e below m W T289 137 #[.val (.int p1), .val (.int p2), .val (.int p3), .val (.int u21_S0), .val (.int u27_S0), .val (.int u33_S0), .val (.int u39_S0), .val .null, .val .null, .val (.ref b261), .val (.ref b261), .unset] [(.int p1), (.int u21_S0), .null] := (k289.iloadN X289 hx (hb hby at_135) rfl).iloadN X289 hx (hb hby at_136) rfl
      obtain ⟨T291, v291, L291, X291, Q291, k291⟩ := k290.stat (y := (⟨"com/example/ikat/ikat/core/LinkEditMaxVisitsPinLaw", "matches", "(Ljava/lang/Integer;ZI)Z"⟩ : MethodName)) (Wd := 0) (cells' := 1) (slots' := 6) (argsL := [.null, (.int u21_S0), (.int p1)]) (rest := []) X289 hx hZ hown (by rw [hml]; rfl) (hv 35 rfl) (hv 36 rfl) (hv 38 rfl) (hv 37 rfl) (hb hby at_137) (by decide) (rmmN l Z a0 hw [] u21_S0 p1 h282 n0 Z282 hc53_45) e289 rfl rfl pd_rm0_6 rfl (Nat.le_of_eq rfl) (by decide) (by decide) rfl rfl (by decide) (by decide)
      obtain ⟨rfl, Nq291, e291q⟩ := Q291
      have N291 := Fr.app N289 Nq291
      have e291 : T291.heap = h282 := e291q
      have k291 : Go p e below m W T291 140 #[.val (.int p1), .val (.int p2), .val (.int p3), .val (.int u21_S0), .val (.int u27_S0), .val (.int u33_S0), .val (.int u39_S0), .val .null, .val .null, .val (.ref b261), .val (.ref b261), .unset] [(.int (1 : Int32))] := k291
      have k292 : Go p e below m W T291 147 #[.val (.int p1), .val (.int p2), .val (.int p3), .val (.int u21_S0), .val (.int u27_S0), .val (.int u33_S0), .val (.int u39_S0), .val .null, .val .null, .val (.ref b261), .val (.ref b261), .unset] [(.int u27_S0)] := (k291.ifYes X291 hx (hb hby at_140) (XT.i0_ne_t (by decide)) (by decide) (by decide)).iload X291 hx (hb hby at_145) rfl
      obtain ⟨h293, l293, T293, u293_L11, X293, e293, N293, Z293, f293_4, f293_5, f293_6, f293_7, f293_8, f293_9, f293_10, f293_11, hd293, k293⟩ : ∃ (h293 : Heap) (l293 : List Loc) (T293 : State) (u293_L11 : Slot), Stand p l e room_1 s m args_ below meth c T293 l293 1 6 ∧ T293.heap = h293 ∧ Fr n0 l293 ∧ n0 ≤ h293.size ∧ Old Z n0 h293 ∧ Exa Z h293 b261 "com/example/ikat/ikat/core/LinkEdit" ∧ Fld Z h293 b261 "com/example/ikat/ikat/core/LinkEdit" "destination" "Ljava/lang/String;" .null ∧ Fld Z h293 b261 "com/example/ikat/ikat/core/LinkEdit" "paused" "Ljava/lang/Boolean;" .null ∧ Fld Z h293 b261 "com/example/ikat/ikat/core/LinkEdit" "changesExpiry" "Z" (.int u273_fb261_changesExpiry) ∧ Fld Z h293 b261 "com/example/ikat/ikat/core/LinkEdit" "expiresAt" "Ljava/time/Instant;" .null ∧ Fld Z h293 b261 "com/example/ikat/ikat/core/LinkEdit" "changesMaxVisits" "Z" (.int (1 : Int32)) ∧ Fld Z h293 b261 "com/example/ikat/ikat/core/LinkEdit" "maxVisits" "Ljava/lang/Integer;" .null ∧ (((u27_S0 = (0 : Int32)) ∧ u293_L11 = .unset) ∨ ((¬ (u27_S0 = (0 : Int32))) ∧ u293_L11 = .val (.ref b261))) ∧ Go p e below m W T293 184 #[.val (.int p1), .val (.int p2), .val (.int p3), .val (.int u21_S0), .val (.int u27_S0), .val (.int u33_S0), .val (.int u39_S0), .val .null, .val .null, .val (.ref b261), .val (.ref b261), u293_L11] [] := by
        by_cases hc147_294 : u27_S0 = (0 : Int32)
        ·
          have k295 : Go p e below m W T291 184 #[.val (.int p1), .val (.int p2), .val (.int p3), .val (.int u21_S0), .val (.int u27_S0), .val (.int u33_S0), .val (.int u39_S0), .val .null, .val .null, .val (.ref b261), .val (.ref b261), .unset] [] := k292.ifYes X291 hx (hb hby at_147) (XT.i0_eq_t hc147_294) (by decide) (by decide)
          exact ⟨h282, ((((l273 ++ L282) ++ L287) ++ L289) ++ L291), T291, .unset, X291.more (by decide) (by decide), e291, N291, Z282, f283, q282_0, q282_1, q282_2, q282_3, q282_4, q282_5, q282_6, (Or.inl ⟨hc147_294, rfl⟩), k295⟩
        ·
          have k296 : Go p e below m W T291 154 #[.val (.int p1), .val (.int p2), .val (.int p3), .val (.int u21_S0), .val (.int u27_S0), .val (.int u33_S0), .val (.int u39_S0), .val .null, .val .null, .val (.ref b261), .val (.ref b261), .unset] [.null, (.ref b261)] := ((k292.ifNo X291 hx (hb hby at_147) (XT.i0_eq_f hc147_294)).aload X291 hx (hb hby at_150) rfl rfl).aload X291 hx (hb hby at_152) rfl rfl
          obtain ⟨T297, v297, L297, X297, Q297, k297⟩ := k296.virt (y := (⟨"com/example/ikat/ikat/core/LinkEdit", "maxVisits", "(Ljava/lang/Integer;)Lcom/example/ikat/ikat/core/LinkEdit;"⟩ : MethodName)) (z := (⟨"com/example/ikat/ikat/core/LinkEdit", "maxVisits", "(Ljava/lang/Integer;)Lcom/example/ikat/ikat/core/LinkEdit;"⟩ : MethodName)) (Wd := 0) (cells' := 1) (slots' := 6) (argsL := [.null]) (rest := []) X291 hx hZ hown (by rw [hml]; rfl) (hv 16 rfl) (hv 17 rfl) (notFace_of_selects (args := #[]) (mvT hZ (hv 19 rfl))) (hv 19 rfl) (hv 18 rfl) (hv 20 rfl) (hv 9 rfl) (hb hby at_154) (by decide) (rms l Z a0 hw [] b261 .null .null .null (.int u273_fb261_changesExpiry) .null (.int (1 : Int32)) .null h282 n0 Z282 q282_0 G261 rfl q282_1 q282_2 q282_3 q282_4 q282_5 q282_6) e291 q282_0 rfl rfl pd_rm0_3 rfl (Nat.le_of_eq rfl) (by decide) (by decide) rfl rfl (by decide) (by decide)
          obtain ⟨rfl, Nq297, Kq297, q297_0, q297_1, q297_2, q297_3, q297_4, q297_5, q297_6⟩ := Q297
          have N297 := Fr.app N291 Nq297
          obtain ⟨h297, e297⟩ : ∃ h, T297.heap = h := ⟨_, rfl⟩
          rw [e297] at Kq297 q297_0 q297_1 q297_2 q297_3 q297_4 q297_5 q297_6
          have Z297 : n0 ≤ h297.size := Nat.le_trans Z282 Kq297.1
          have f298 := f283.keep Kq297 (by intro x q; simp only [List.mem_cons, List.not_mem_nil, or_false] at q; rcases q with rfl; exact G261)
          have f299 := q282_0.keep Kq297
          have k297 : Go p e below m W T297 157 #[.val (.int p1), .val (.int p2), .val (.int p3), .val (.int u21_S0), .val (.int u27_S0), .val (.int u33_S0), .val (.int u39_S0), .val .null, .val .null, .val (.ref b261), .val (.ref b261), .unset] [(.ref b261)] := k297
          have k300 : Go p e below m W T297 159 #[.val (.int p1), .val (.int p2), .val (.int p3), .val (.int u21_S0), .val (.int u27_S0), .val (.int u33_S0), .val (.int u39_S0), .val .null, .val .null, .val (.ref b261), .val (.ref b261), .val (.ref b261)] [] := k297.astore X297 hx (hb hby at_157) rfl rfl
          have k301 : Go p e below m W T297 170 #[.val (.int p1), .val (.int p2), .val (.int p3), .val (.int u21_S0), .val (.int u27_S0), .val (.int u33_S0), .val (.int u39_S0), .val .null, .val .null, .val (.ref b261), .val (.ref b261), .val (.ref b261)] [(.ref b261)] := (((k300.aload X297 hx (hb hby at_159) rfl rfl).aload X297 hx (hb hby at_161) rfl rfl).acmpYes X297 hx (hb hby at_163) rfl rfl (XT.aa_eq_t rfl) (by decide) (by decide)).aload X297 hx (hb hby at_168) rfl rfl
          obtain ⟨T302, v302, L302, X302, Q302, k302⟩ := k301.virt (y := (⟨"com/example/ikat/ikat/core/LinkEdit", "maxVisits", "()Ljava/lang/Integer;"⟩ : MethodName)) (z := (⟨"com/example/ikat/ikat/core/LinkEdit", "maxVisits", "()Ljava/lang/Integer;"⟩ : MethodName)) (Wd := 0) (cells' := 1) (slots' := 6) (argsL := []) (rest := []) X297 hx hZ hown (by rw [hml]; rfl) (hv 30 rfl) (hv 31 rfl) (notFace_of_selects (args := #[]) (mvT hZ (hv 33 rfl))) (hv 33 rfl) (hv 32 rfl) (hv 34 rfl) (hv 9 rfl) (hb hby at_170) (by decide) (rmg5 l Z a0 hw [] b261 .null h297 n0 Z297 rfl q297_6) e297 q297_0 rfl rfl pd_rm0_5 rfl (Nat.le_of_eq rfl) (by decide) (by decide) rfl rfl (by decide) (by decide)
          obtain ⟨rfl, Nq302, e302q⟩ := Q302
          have N302 := Fr.app N297 Nq302
          have e302 : T302.heap = h297 := e302q
          have k302 : Go p e below m W T302 173 #[.val (.int p1), .val (.int p2), .val (.int p3), .val (.int u21_S0), .val (.int u27_S0), .val (.int u33_S0), .val (.int u39_S0), .val .null, .val .null, .val (.ref b261), .val (.ref b261), .val (.ref b261)] [.null] := k302
          have k303 : Go p e below m W T302 176 #[.val (.int p1), .val (.int p2), .val (.int p3), .val (.int u21_S0), .val (.int u27_S0), .val (.int u33_S0), .val (.int u39_S0), .val .null, .val .null, .val (.ref b261), .val (.ref b261), .val (.ref b261)] [(.int p2), (.int u33_S0), .null] := (k302.iload X302 hx (hb hby at_173) rfl).iloadN X302 hx (hb hby at_175) rfl
          obtain ⟨T304, v304, L304, X304, Q304, k304⟩ := k303.stat (y := (⟨"com/example/ikat/ikat/core/LinkEditMaxVisitsPinLaw", "matches", "(Ljava/lang/Integer;ZI)Z"⟩ : MethodName)) (Wd := 0) (cells' := 1) (slots' := 6) (argsL := [.null, (.int u33_S0), (.int p2)]) (rest := []) X302 hx hZ hown (by rw [hml]; rfl) (hv 35 rfl) (hv 36 rfl) (hv 38 rfl) (hv 37 rfl) (hb hby at_176) (by decide) (rmmN l Z a0 hw [] u33_S0 p2 h297 n0 Z297 hc68_193) e302 rfl rfl pd_rm0_6 rfl (Nat.le_of_eq rfl) (by decide) (by decide) rfl rfl (by decide) (by decide)
          obtain ⟨rfl, Nq304, e304q⟩ := Q304
          have N304 := Fr.app N302 Nq304
          have e304 : T304.heap = h297 := e304q
          have k304 : Go p e below m W T304 179 #[.val (.int p1), .val (.int p2), .val (.int p3), .val (.int u21_S0), .val (.int u27_S0), .val (.int u33_S0), .val (.int u39_S0), .val .null, .val .null, .val (.ref b261), .val (.ref b261), .val (.ref b261)] [(.int (1 : Int32))] := k304
          have k305 : Go p e below m W T304 184 #[.val (.int p1), .val (.int p2), .val (.int p3), .val (.int u21_S0), .val (.int u27_S0), .val (.int u33_S0), .val (.int u39_S0), .val .null, .val .null, .val (.ref b261), .val (.ref b261), .val (.ref b261)] [] := k304.ifYes X304 hx (hb hby at_179) (XT.i0_ne_t (by decide)) (by decide) (by decide)
          exact ⟨h297, (((((((l273 ++ L282) ++ L287) ++ L289) ++ L291) ++ L297) ++ L302) ++ L304), T304, .val (.ref b261), X304.more (by decide) (by decide), e304, N304, Z297, f298, q297_0, q297_1, q297_2, q297_3, q297_4, q297_5, q297_6, (Or.inr ⟨hc147_294, rfl⟩), k305⟩
      have k306 : Go p e below m W T293 186 #[.val (.int p1), .val (.int p2), .val (.int p3), .val (.int u21_S0), .val (.int u27_S0), .val (.int u33_S0), .val (.int u39_S0), .val .null, .val .null, .val (.ref b261), .val (.ref b261), u293_L11] [(.ref b261)] := k293.aload X293 hx (hb hby at_184) rfl rfl
      obtain ⟨T307, v307, L307, X307, Q307, k307⟩ := k306.virt (y := (⟨"com/example/ikat/ikat/core/LinkEdit", "destination", "()Ljava/lang/String;"⟩ : MethodName)) (z := (⟨"com/example/ikat/ikat/core/LinkEdit", "destination", "()Ljava/lang/String;"⟩ : MethodName)) (Wd := 0) (cells' := 1) (slots' := 6) (argsL := []) (rest := []) X293 hx hZ hown (by rw [hml]; rfl) (hv 46 rfl) (hv 47 rfl) (notFace_of_selects (args := #[]) (mvT hZ (hv 49 rfl))) (hv 49 rfl) (hv 48 rfl) (hv 50 rfl) (hv 9 rfl) (hb hby at_186) (by decide) (rmg0 l Z a0 hw [] b261 .null h293 n0 Z293 rfl f293_6) e293 f293_5 rfl rfl pd_rm0_7 rfl (Nat.le_of_eq rfl) (by decide) (by decide) rfl rfl (by decide) (by decide)
      obtain ⟨rfl, Nq307, e307q⟩ := Q307
      have N307 := Fr.app N293 Nq307
      have e307 : T307.heap = h293 := e307q
      have k307 : Go p e below m W T307 189 #[.val (.int p1), .val (.int p2), .val (.int p3), .val (.int u21_S0), .val (.int u27_S0), .val (.int u33_S0), .val (.int u39_S0), .val .null, .val .null, .val (.ref b261), .val (.ref b261), u293_L11] [.null] := k307
      have k308 : Go p e below m W T307 194 #[.val (.int p1), .val (.int p2), .val (.int p3), .val (.int u21_S0), .val (.int u27_S0), .val (.int u33_S0), .val (.int u39_S0), .val .null, .val .null, .val (.ref b261), .val (.ref b261), u293_L11] [(.ref b261)] := (k307.nonnullNo X307 hx (hb hby at_189) rfl).aload X307 hx (hb hby at_192) rfl rfl
      obtain ⟨T309, v309, L309, X309, Q309, k309⟩ := k308.virt (y := (⟨"com/example/ikat/ikat/core/LinkEdit", "paused", "()Ljava/lang/Boolean;"⟩ : MethodName)) (z := (⟨"com/example/ikat/ikat/core/LinkEdit", "paused", "()Ljava/lang/Boolean;"⟩ : MethodName)) (Wd := 0) (cells' := 1) (slots' := 6) (argsL := []) (rest := []) X307 hx hZ hown (by rw [hml]; rfl) (hv 53 rfl) (hv 54 rfl) (notFace_of_selects (args := #[]) (mvT hZ (hv 56 rfl))) (hv 56 rfl) (hv 55 rfl) (hv 57 rfl) (hv 9 rfl) (hb hby at_194) (by decide) (rmg1 l Z a0 hw [] b261 .null h293 n0 Z293 rfl f293_7) e307 f293_5 rfl rfl pd_rm0_8 rfl (Nat.le_of_eq rfl) (by decide) (by decide) rfl rfl (by decide) (by decide)
      obtain ⟨rfl, Nq309, e309q⟩ := Q309
      have N309 := Fr.app N307 Nq309
      have e309 : T309.heap = h293 := e309q
      have k309 : Go p e below m W T309 197 #[.val (.int p1), .val (.int p2), .val (.int p3), .val (.int u21_S0), .val (.int u27_S0), .val (.int u33_S0), .val (.int u39_S0), .val .null, .val .null, .val (.ref b261), .val (.ref b261), u293_L11] [.null] := k309
      have k310 : Go p e below m W T309 202 #[.val (.int p1), .val (.int p2), .val (.int p3), .val (.int u21_S0), .val (.int u27_S0), .val (.int u33_S0), .val (.int u39_S0), .val .null, .val .null, .val (.ref b261), .val (.ref b261), u293_L11] [(.ref b261)] := (k309.nonnullNo X309 hx (hb hby at_197) rfl).aload X309 hx (hb hby at_200) rfl rfl
      obtain ⟨T311, v311, L311, X311, Q311, k311⟩ := k310.virt (y := (⟨"com/example/ikat/ikat/core/LinkEdit", "changesExpiry", "()Z"⟩ : MethodName)) (z := (⟨"com/example/ikat/ikat/core/LinkEdit", "changesExpiry", "()Z"⟩ : MethodName)) (Wd := 0) (cells' := 1) (slots' := 6) (argsL := []) (rest := []) X309 hx hZ hown (by rw [hml]; rfl) (hv 60 rfl) (hv 61 rfl) (notFace_of_selects (args := #[]) (mvT hZ (hv 63 rfl))) (hv 63 rfl) (hv 62 rfl) (hv 64 rfl) (hv 9 rfl) (hb hby at_202) (by decide) (rmg2 l Z a0 hw [] b261 u273_fb261_changesExpiry h293 n0 Z293 (by rcases hd273 with ⟨_, q⟩ | ⟨_, q⟩ <;> first | exact Or.inl q | exact Or.inr q) f293_8) e309 f293_5 rfl rfl pd_rm0_4 rfl (Nat.le_of_eq rfl) (by decide) (by decide) rfl rfl (by decide) (by decide)
      obtain ⟨rfl, Nq311, e311q⟩ := Q311
      have N311 := Fr.app N309 Nq311
      have e311 : T311.heap = h293 := e311q
      have k311 : Go p e below m W T311 205 #[.val (.int p1), .val (.int p2), .val (.int p3), .val (.int u21_S0), .val (.int u27_S0), .val (.int u33_S0), .val (.int u39_S0), .val .null, .val .null, .val (.ref b261), .val (.ref b261), u293_L11] [(.int u273_fb261_changesExpiry)] := k311
      have k312 : Go p e below m W T311 212 #[.val (.int p1), .val (.int p2), .val (.int p3), .val (.int u21_S0), .val (.int u27_S0), .val (.int u33_S0), .val (.int u39_S0), .val .null, .val .null, .val (.ref b261), .val (.ref b261), u293_L11] [(.ref b261)] := ((k311.iload X311 hx (hb hby at_205) rfl).icmpNo X311 hx (hb hby at_207) (XT.ii_ne_f (by have q1 := hd39; have q2 := hd273; rcases q1 with ⟨_, q⟩ | ⟨_, q⟩ <;> simp_all))).aload X311 hx (hb hby at_210) rfl rfl
      obtain ⟨T313, v313, L313, X313, Q313, k313⟩ := k312.virt (y := (⟨"com/example/ikat/ikat/core/LinkEdit", "expiresAt", "()Ljava/time/Instant;"⟩ : MethodName)) (z := (⟨"com/example/ikat/ikat/core/LinkEdit", "expiresAt", "()Ljava/time/Instant;"⟩ : MethodName)) (Wd := 0) (cells' := 1) (slots' := 6) (argsL := []) (rest := []) X311 hx hZ hown (by rw [hml]; rfl) (hv 67 rfl) (hv 68 rfl) (notFace_of_selects (args := #[]) (mvT hZ (hv 70 rfl))) (hv 70 rfl) (hv 69 rfl) (hv 71 rfl) (hv 9 rfl) (hb hby at_212) (by decide) (rmg3 l Z a0 hw [] b261 .null h293 n0 Z293 rfl f293_9) e311 f293_5 rfl rfl pd_rm0_9 rfl (Nat.le_of_eq rfl) (by decide) (by decide) rfl rfl (by decide) (by decide)
      obtain ⟨rfl, Nq313, e313q⟩ := Q313
      have N313 := Fr.app N311 Nq313
      have e313 : T313.heap = h293 := e313q
      have k313 : Go p e below m W T313 215 #[.val (.int p1), .val (.int p2), .val (.int p3), .val (.int u21_S0), .val (.int u27_S0), .val (.int u33_S0), .val (.int u39_S0), .val .null, .val .null, .val (.ref b261), .val (.ref b261), u293_L11] [.null] := k313
      have k314 : Go p e below m W T313 223 #[.val (.int p1), .val (.int p2), .val (.int p3), .val (.int u21_S0), .val (.int u27_S0), .val (.int u33_S0), .val (.int u39_S0), .val .null, .val .null, .val (.ref b261), .val (.ref b261), u293_L11] [(.int (1 : Int32))] := ((k313.nonnullNo X313 hx (hb hby at_215) rfl).iconst X313 hx (hb hby at_218) (v := (1 : Int32)) rfl).goto X313 hx (hb hby at_219) (by decide) (by decide)
      exact k314.ireturnN X313 hx (t := .boolean) Bd.returns (by simp) rfl (hb hby at_223) (BodyLoose.notSynchronized Bd) (by rw [e313]; exact ⟨rfl, N313⟩) (by decide) (by decide)

set_option maxRecDepth 65536 in
set_option maxHeartbeats 40000000 in
theorem comes_1 {Post : Tables → Env → Array Value → State → Outcome → State → Prop} (hpost : ∀ tb e args s v u, (limb_1_1.after args s (.returned v) u = true ∧ limb_1_2.after args s (.returned v) u = true ∧ True) → FrameEnd s (.returned v) u (Jvm.fieldLocs frame_1_writes args s ++ Jvm.arrayLocs frame_1_arrays args s ++ Jvm.staticLocs frame_1_statics s) 16 128 → Post tb e args s (.returned v) u) :
    ArmFor flags0 classFile x code maxLocals ret World_1 tables_1 room_1 Calls_1 rest_1 Pre_1 Post := by
  intro l hfl _ _ p e ha hc hk s m args below hf hA hF happ hP
  obtain ⟨hcalls, hrest, hpre⟩ := hP
  obtain ⟨-, -, -, hnamed, -, -, -, hat⟩ := (Spec.applies_iff hf).mp happ
  obtain ⟨hg, hn⟩ := and_e (Cond.before_iff.mp (show (Jvm.Cond.and given_1 narrow_1).before args s = true from hpre))
  obtain ⟨ga, gb⟩ := and_e hg
  obtain ⟨w0, w1, w2, rfl⟩ : ∃ w0 w1 w2 : Value, args = #[w0, w1, w2] := by
    have hs : args.size = 3 := by simpa [Cond.value, given_1] using ga
    obtain ⟨L⟩ := args
    match L, hs with
    | [w0, w1, w2], _ => exact ⟨w0, w1, w2, rfl⟩
  have hw := fun d (hd : d ∈ tables_1) => atoms_spec (ws := Jvm.Cond.code x code maxLocals ret :: tables_1) hat d (List.mem_cons_of_mem _ hd)
  have hv : ∀ (i : Nat) {d : Jvm.Cond}, tables_1[i]? = some d → d.before _ s = true := fun i d q => hw d (List.mem_of_getElem? q)
  have hfit : Fit s := fun {y c} hc i hi => by
    obtain ⟨ha, rfl⟩ := Array.getElem?_eq_some_iff.mp hc
    have q := List.all_eq_true.mp ((Array.all_eq_true_iff_forall_mem.mp hF) _ (Array.getElem_mem ha)) i (List.mem_range.mpr hi)
    simpa [Array.getElem?_eq_getElem hi] using q
  obtain ⟨gi0, gr0⟩ := and_e gb
  obtain ⟨i0, ei0⟩ := is_v gi0
  obtain rfl : w0 = (.int i0) := Option.some.inj ei0
  obtain ⟨gi1, gr1⟩ := and_e gr0
  obtain ⟨i1, ei1⟩ := is_v gi1
  obtain rfl : w1 = (.int i1) := Option.some.inj ei1
  obtain ⟨i2, ei2⟩ := is_v gr1
  obtain rfl : w2 = (.int i2) := Option.some.inj ei2
  have O0 : Old s s.heap.size s.heap := Old.start s
  obtain ⟨hsets, hown0⟩ := atoms_of _ (rest_1_c_eq ▸ (show rest_1_c.before _ s = true from hrest))
  have eh := own_eqi (Cond.before_iff.mp (hsets _ (List.mem_of_getElem? (i := 3) rfl)))
  obtain ⟨ca, eca⟩ := arr_v (Cond.before_iff.mp (hsets _ (List.mem_of_getElem? (i := 4) rfl)))
  obtain ⟨cc, Ac⟩ := Arr.start eca (Cond.before_iff.mp (hsets _ (List.mem_of_getElem? (i := 4) rfl)))
  have el := own_eqi (Cond.before_iff.mp (hsets _ (List.mem_of_getElem? (i := 6) rfl)))
  obtain ⟨hlt, hle⟩ := own_len eca Ac el
  have HB : Bxs s ca cc "java/lang/Integer" "I" (256 : Int32) (fun j => .int (j - 128)) := Bxs.start (fun _ => eca) Ac hlt hle (by decide) (Cond.before_iff.mp (hsets _ (List.mem_of_getElem? (i := 7) rfl))) (fun X j nn hX => eqv_i (own_sub (idx_at nn)) hX)
  have SH : Sta s s.heap "java/lang/Integer$IntegerCache" "high" "I" (.int (127 : Int32)) := Sta.start eh (Or.inl (hsets _ (List.mem_of_getElem? (i := 1) rfl)))
  have SC : Sta s s.heap "java/lang/Integer$IntegerCache" "cache" "[Ljava/lang/Integer;" (.ref ca) := Sta.start eca (Or.inr ⟨(hv 5 rfl), (hsets _ (List.mem_of_getElem? (i := 2) rfl))⟩)
  obtain ⟨n, o, h1, h2, h3, _, L, rfl, ⟨rfl, N⟩, hq⟩ := rm0 l s _ hw tables_1 i0 i1 i2 ca cc s.heap s.heap.size (Nat.le_refl _) O0 SH SC HB p e ha hc hk s m _ below hf ((Spec.applies_iff_loose hf).mp happ).1 ⟨rfl, State.Warmed39.refl s, rfl⟩ trivial
  refine ⟨n, _, h1, h2, h3, hpost _ _ _ _ _ _ ⟨Cond.after_iff.mpr rfl, Cond.after_iff.mpr (eq_i res_at (Term.int_eval (1)) rfl), trivial⟩ ⟨hq.1, hq.2.1, (hq.2.2.sift fun y hy => Or.inr (N y hy)).mono (by decide) (by decide)⟩⟩
theorem main_1_1 : Claimed_1_1 := comes_1 fun _ _ _ _ _ _ h hF => ⟨h.1, hF⟩
theorem main_1_2 : Claimed_1_2 := comes_1 fun _ _ _ _ _ _ h hF => ⟨h.2.1, hF⟩
end Jvm.Pilot.@@N@@
namespace Jvm.Pilot.@@N@@
open Jvm Jvm.ClassFile Sem Op Lib Jvm.Free Jvm.Stand Jvm.Pilot.@@N@@.Jvm.D
/-! MADE BY PROGRAM (witnessworld.py) out of the Statement's table words and the real class files: 16 classes; the members and pool entries that the words name. The judged class is class 1, her method 2. -/
namespace start1
open Jvm.ClassFile
def u (s : String) : CpInfo := .utf8 (stringToUtf16 s)
/-- a pool by its gaps: so many unusable entries, then the entry; so many at the end -/
def gap : Nat → List CpInfo → List CpInfo
  | 0, r => r
  | n + 1, r => .unusable :: gap n r
def poolList (es : List (Nat × CpInfo)) (last : Nat) : List CpInfo := es.foldr (fun e r => gap e.1 (e.2 :: r)) (gap last [])
def pool (es : List (Nat × CpInfo)) (last : Nat) : Array CpInfo := ⟨poolList es last⟩
def fileOf (pool : Array CpInfo) (this : Nat) (attrs : Array Attribute := #[]) (ms : Array MethodInfo := #[]) (fl : Nat := 33) (sup : Nat := 0) (ifs : Array Nat := #[]) (fds : Array FieldInfo := #[]) : ClassFile where
  minorVersion := 0
  majorVersion := 65
  constantPool := pool
  accessFlags := fl
  thisClass := this
  superClass := sup
  interfaces := ifs
  fields := fds
  methods := ms
  attributes := attrs
def plain (name : String) (sup : Option ClassId) : Class where
  name := name
  kind := .ordinary
  loader := none
  accessFlags := 33
  super := sup
  interfaces := #[]
  cf := none
  fields := #[]
  methods := #[]
  instanceTypes := #[]
  staticTypes := #[]
  resolved := #[]
  callSites := []
  init := .initialized
  statics := none
  mirror := none

def pool0 : Array CpInfo := pool [(5, u "<init>"), (0, u "()V"), (1, .class_ 10), (1, u "java/lang/Object")] 113

def k0c0 : Code := { maxStack := 0, maxLocals := 1, code := object_method_1_code, exceptionTable := #[], attributes := #[] }
def k0m0 : Method := { name := "<init>", desc := "()V", sig := { parameters := [], returnType := none }, accessFlags := 1, code := some k0c0 }
/-- java/lang/Object -/
def k0 : Class := { plain "java/lang/Object" none with
  accessFlags := 33
  interfaces := #[]
  cf := some (fileOf pool0 8 #[] #[{ accessFlags := 1, nameIndex := 5, descriptorIndex := 6, attributes := #[] }] 33 0 #[] #[])
  fields := #[]
  methods := #[k0m0]
  instanceTypes := #[]
  staticTypes := #[]
  resolved := Array.replicate 124 none
  statics := none }

def pool1 : Array CpInfo := pool [(2, .class_ 4), (0, .nameAndType 5 6), (0, u "java/lang/Object"), (0, u "<init>"), (0, u "()V"), (0, .methodref 8 9), (0, .class_ 10), (0, .nameAndType 11 12), (0, u "java/lang/Integer"), (0, u "intValue"), (0, u "()I"), (0, .methodref 8 14), (0, .nameAndType 15 16), (0, u "valueOf"), (0, u "(I)Ljava/lang/Integer;"), (0, .class_ 18), (0, u "com/example/ikat/ikat/core/LinkEdit"), (0, .methodref 17 3), (0, .methodref 17 21), (0, .nameAndType 22 23), (0, u "expiresAt"), (0, u "(Ljava/time/Instant;)Lcom/example/ikat/ikat/core/LinkEdit;"), (0, .methodref 17 25), (0, .nameAndType 26 27), (0, u "maxVisits"), (0, u "(Ljava/lang/Integer;)Lcom/example/ikat/ikat/core/LinkEdit;"), (0, .methodref 17 29), (0, .nameAndType 30 31), (0, u "changesMaxVisits"), (0, u "()Z"), (0, .methodref 17 33), (0, .nameAndType 26 34), (0, u "()Ljava/lang/Integer;"), (0, .methodref 36 37), (0, .class_ 38), (0, .nameAndType 39 40), (0, u "com/example/ikat/ikat/core/LinkEditMaxVisitsPinLaw"), (0, u "matches"), (0, u "(Ljava/lang/Integer;ZI)Z"), (0, .methodref 17 42), (0, .nameAndType 43 44), (0, u "destination"), (0, u "()Ljava/lang/String;"), (0, .methodref 17 46), (0, .nameAndType 47 48), (0, u "paused"), (0, u "()Ljava/lang/Boolean;"), (0, .methodref 17 50), (0, .nameAndType 51 31), (0, u "changesExpiry"), (0, .methodref 17 53), (0, .nameAndType 22 54), (0, u "()Ljava/time/Instant;"), (3, u "law"), (0, u "(III)Z")] 2

def k1m0 : Method := { name := "<init>", desc := "()V", sig := { parameters := [], returnType := none }, accessFlags := 2, code := none }
def k1c1 : Code := { maxStack := 2, maxLocals := 3, code := method_2_code, exceptionTable := #[], attributes := #[] }
def k1m1 : Method := { name := "matches", desc := "(Ljava/lang/Integer;ZI)Z", sig := { parameters := [(.object "java/lang/Integer"), .boolean, .int], returnType := some .boolean }, accessFlags := 10, code := some k1c1 }
def k1c2 : Code := { maxStack := 3, maxLocals := 12, code := code, exceptionTable := #[], attributes := #[] }
def k1m2 : Method := { name := "law", desc := "(III)Z", sig := { parameters := [.int, .int, .int], returnType := some .boolean }, accessFlags := 9, code := some k1c2 }
/-- com/example/ikat/ikat/core/LinkEditMaxVisitsPinLaw -/
def k1 : Class := { plain "com/example/ikat/ikat/core/LinkEditMaxVisitsPinLaw" (some 0) with
  accessFlags := 49
  interfaces := #[]
  cf := some (fileOf pool1 36 #[] #[{ accessFlags := 2, nameIndex := 5, descriptorIndex := 6, attributes := #[] }, { accessFlags := 10, nameIndex := 39, descriptorIndex := 40, attributes := #[] }, { accessFlags := 9, nameIndex := 58, descriptorIndex := 59, attributes := #[] }] 49 2 #[] #[])
  fields := #[]
  methods := #[k1m0, k1m1, k1m2]
  instanceTypes := #[]
  staticTypes := #[]
  resolved := Array.replicate 62 none
  statics := none }

def pool2 : Array CpInfo := pool [(1, .class_ 2), (0, u "java/io/Serializable"), (0, .class_ 4), (0, u "java/lang/Object")] 2

/-- java/io/Serializable -/
def k2 : Class := { plain "java/io/Serializable" (some 0) with
  accessFlags := 1537
  interfaces := #[]
  cf := some (fileOf pool2 1 #[] #[] 1537 3 #[] #[])
  fields := #[]
  methods := #[]
  instanceTypes := #[]
  staticTypes := #[]
  resolved := Array.replicate 7 none
  statics := none }

def pool3 : Array CpInfo := pool [(1, .methodref 2 3), (0, .class_ 4), (0, .nameAndType 5 6), (0, u "java/lang/Object"), (0, u "<init>"), (0, u "()V"), (1, .class_ 10), (1, u "java/lang/Number"), (2, .class_ 14), (0, u "java/io/Serializable"), (0, u "serialVersionUID"), (0, u "J")] 20

def k3c0 : Code := { maxStack := 1, maxLocals := 1, code := jdk_18_method_1_code, exceptionTable := #[], attributes := #[] }
def k3m0 : Method := { name := "<init>", desc := "()V", sig := { parameters := [], returnType := none }, accessFlags := 1, code := some k3c0 }
/-- java/lang/Number -/
def k3 : Class := { plain "java/lang/Number" (some 0) with
  accessFlags := 1057
  interfaces := #[2]
  cf := some (fileOf pool3 8 #[] #[{ accessFlags := 1, nameIndex := 5, descriptorIndex := 6, attributes := #[] }] 1057 2 #[13] #[{ accessFlags := 26, nameIndex := 15, descriptorIndex := 16, attributes := #[] }])
  fields := #[{ name := "serialVersionUID", type := .long, accessFlags := 26, slot := 0, constantValue := 0 }]
  methods := #[k3m0]
  instanceTypes := #[]
  staticTypes := #[.long]
  resolved := Array.replicate 37 none
  statics := none }

def pool4 : Array CpInfo := pool [(1, .class_ 2), (0, u "java/lang/Comparable"), (0, .class_ 4), (0, u "java/lang/Object")] 7

/-- java/lang/Comparable -/
def k4 : Class := { plain "java/lang/Comparable" (some 0) with
  accessFlags := 1537
  interfaces := #[]
  cf := some (fileOf pool4 1 #[] #[] 1537 3 #[] #[])
  fields := #[]
  methods := #[]
  instanceTypes := #[]
  staticTypes := #[]
  resolved := Array.replicate 12 none
  statics := none }

def pool5 : Array CpInfo := pool [(1, .class_ 2), (0, u "java/lang/constant/Constable"), (0, .class_ 4), (0, u "java/lang/Object")] 6

/-- java/lang/constant/Constable -/
def k5 : Class := { plain "java/lang/constant/Constable" (some 0) with
  accessFlags := 1537
  interfaces := #[]
  cf := some (fileOf pool5 1 #[] #[] 1537 3 #[] #[])
  fields := #[]
  methods := #[]
  instanceTypes := #[]
  staticTypes := #[]
  resolved := Array.replicate 11 none
  statics := none }

def pool6 : Array CpInfo := pool [(1, .class_ 2), (0, u "java/lang/constant/ConstantDesc"), (0, .class_ 4), (0, u "java/lang/Object")] 32

/-- java/lang/constant/ConstantDesc -/
def k6 : Class := { plain "java/lang/constant/ConstantDesc" (some 0) with
  accessFlags := 1537
  interfaces := #[]
  cf := some (fileOf pool6 1 #[] #[] 1537 3 #[] #[])
  fields := #[]
  methods := #[]
  instanceTypes := #[]
  staticTypes := #[]
  resolved := Array.replicate 37 none
  statics := none }

def pool7 : Array CpInfo := pool [(1, .class_ 2), (0, u "java/lang/Integer"), (16, u "digits"), (0, u "[C"), (46, u "<init>"), (17, u "DigitOnes"), (0, u "[B"), (2, u "DigitTens"), (10, .nameAndType 67 101), (0, u "()V"), (19, u "()I"), (65, u "valueOf"), (0, u "(I)Ljava/lang/Integer;"), (0, .class_ 190), (0, u "java/lang/Integer$IntegerCache"), (0, .fieldref 189 192), (0, .nameAndType 193 194), (0, u "high"), (0, u "I"), (0, .fieldref 189 196), (0, .nameAndType 197 198), (0, u "cache"), (0, u "[Ljava/lang/Integer;"), (0, .methodref 1 200), (0, .nameAndType 67 201), (0, u "(I)V"), (0, .methodref 203 100), (0, .class_ 204), (0, u "java/lang/Number"), (0, .fieldref 1 206), (0, .nameAndType 207 194), (0, u "value"), (5, u "intValue"), (88, u "TYPE"), (0, u "Ljava/lang/Class;"), (0, .class_ 305), (0, u "java/lang/Comparable"), (0, .class_ 307), (0, u "java/lang/constant/Constable"), (0, .class_ 309), (0, u "java/lang/constant/ConstantDesc"), (0, u "MIN_VALUE"), (1, u "MAX_VALUE"), (3, u "SIZE"), (1, u "BYTES"), (1, u "serialVersionUID"), (0, u "J")] 131

def k7c0 : Code := { maxStack := 3, maxLocals := 1, code := jdk_33_method_22_code, exceptionTable := #[], attributes := #[] }
def k7m0 : Method := { name := "valueOf", desc := "(I)Ljava/lang/Integer;", sig := { parameters := [.int], returnType := some (.object "java/lang/Integer") }, accessFlags := 9, code := some k7c0 }
def k7c1 : Code := { maxStack := 2, maxLocals := 2, code := jdk_33_method_23_code, exceptionTable := #[], attributes := #[] }
def k7m1 : Method := { name := "<init>", desc := "(I)V", sig := { parameters := [.int], returnType := none }, accessFlags := 1, code := some k7c1 }
def k7c2 : Code := { maxStack := 1, maxLocals := 1, code := jdk_33_method_27_code, exceptionTable := #[], attributes := #[] }
def k7m2 : Method := { name := "intValue", desc := "()I", sig := { parameters := [], returnType := some .int }, accessFlags := 1, code := some k7c2 }
/-- java/lang/Integer -/
def k7 : Class := { plain "java/lang/Integer" (some 3) with
  accessFlags := 49
  interfaces := #[4, 5, 6]
  cf := some (fileOf pool7 1 #[.nestMembers #[189]] #[{ accessFlags := 9, nameIndex := 187, descriptorIndex := 188, attributes := #[] }, { accessFlags := 1, nameIndex := 67, descriptorIndex := 201, attributes := #[] }, { accessFlags := 1, nameIndex := 213, descriptorIndex := 121, attributes := #[] }] 49 203 #[304, 306, 308] #[{ accessFlags := 25, nameIndex := 310, descriptorIndex := 194, attributes := #[] }, { accessFlags := 25, nameIndex := 312, descriptorIndex := 194, attributes := #[] }, { accessFlags := 25, nameIndex := 302, descriptorIndex := 303, attributes := #[] }, { accessFlags := 24, nameIndex := 19, descriptorIndex := 20, attributes := #[] }, { accessFlags := 24, nameIndex := 89, descriptorIndex := 86, attributes := #[] }, { accessFlags := 24, nameIndex := 85, descriptorIndex := 86, attributes := #[] }, { accessFlags := 18, nameIndex := 207, descriptorIndex := 194, attributes := #[] }, { accessFlags := 25, nameIndex := 316, descriptorIndex := 194, attributes := #[] }, { accessFlags := 25, nameIndex := 318, descriptorIndex := 194, attributes := #[] }, { accessFlags := 26, nameIndex := 320, descriptorIndex := 321, attributes := #[] }])
  fields := #[{ name := "MIN_VALUE", type := .int, accessFlags := 25, slot := 0, constantValue := 0 }, { name := "MAX_VALUE", type := .int, accessFlags := 25, slot := 1, constantValue := 0 }, { name := "TYPE", type := (.object "java/lang/Class"), accessFlags := 25, slot := 2, constantValue := 0 }, { name := "digits", type := (.array .char), accessFlags := 24, slot := 3, constantValue := 0 }, { name := "DigitTens", type := (.array .byte), accessFlags := 24, slot := 4, constantValue := 0 }, { name := "DigitOnes", type := (.array .byte), accessFlags := 24, slot := 5, constantValue := 0 }, { name := "value", type := .int, accessFlags := 18, slot := 0, constantValue := 0 }, { name := "SIZE", type := .int, accessFlags := 25, slot := 6, constantValue := 0 }, { name := "BYTES", type := .int, accessFlags := 25, slot := 7, constantValue := 0 }, { name := "serialVersionUID", type := .long, accessFlags := 26, slot := 8, constantValue := 0 }]
  methods := #[k7m0, k7m1, k7m2]
  instanceTypes := #[.int]
  staticTypes := #[.int, .int, (.object "java/lang/Class"), (.array .char), (.array .byte), (.array .byte), .int, .int, .long]
  resolved := Array.replicate 453 none
  statics := none }

def pool8 : Array CpInfo := pool [(2, .class_ 4), (1, u "java/lang/Object"), (0, u "<init>"), (0, u "()V"), (0, .class_ 8), (0, u "java/lang/Integer"), (7, .class_ 18), (1, u "java/lang/Integer$IntegerCache"), (0, u "$assertionsDisabled"), (0, u "Z"), (26, u "high"), (0, u "I"), (8, u "archivedCache"), (0, u "[Ljava/lang/Integer;"), (12, u "cache"), (0, u "low")] 27

def k8m0 : Method := { name := "<init>", desc := "()V", sig := { parameters := [], returnType := none }, accessFlags := 2, code := none }
/-- java/lang/Integer$IntegerCache -/
def k8 : Class := { plain "java/lang/Integer$IntegerCache" (some 0) with
  accessFlags := 48
  interfaces := #[]
  cf := some (fileOf pool8 16 #[.nestHost 7] #[{ accessFlags := 2, nameIndex := 5, descriptorIndex := 6, attributes := #[] }] 48 2 #[] #[{ accessFlags := 24, nameIndex := 72, descriptorIndex := 48, attributes := #[] }, { accessFlags := 24, nameIndex := 47, descriptorIndex := 48, attributes := #[] }, { accessFlags := 24, nameIndex := 71, descriptorIndex := 58, attributes := #[] }, { accessFlags := 8, nameIndex := 57, descriptorIndex := 58, attributes := #[] }, { accessFlags := 4120, nameIndex := 19, descriptorIndex := 20, attributes := #[] }])
  fields := #[{ name := "low", type := .int, accessFlags := 24, slot := 0, constantValue := 0 }, { name := "high", type := .int, accessFlags := 24, slot := 1, constantValue := 0 }, { name := "cache", type := (.array (.object "java/lang/Integer")), accessFlags := 24, slot := 2, constantValue := 0 }, { name := "archivedCache", type := (.array (.object "java/lang/Integer")), accessFlags := 8, slot := 3, constantValue := 0 }, { name := "$assertionsDisabled", type := .boolean, accessFlags := 4120, slot := 4, constantValue := 0 }]
  methods := #[k8m0]
  instanceTypes := #[]
  staticTypes := #[.int, .int, (.array (.object "java/lang/Integer")), (.array (.object "java/lang/Integer")), .boolean]
  resolved := Array.replicate 100 none
  statics := some 0 }

def pool9 : Array CpInfo := pool [(1, .methodref 2 3), (0, .class_ 4), (0, .nameAndType 5 6), (0, u "java/lang/Object"), (0, u "<init>"), (0, u "()V"), (1, u "destination"), (8, .fieldref 18 19), (0, .class_ 20), (0, .nameAndType 8 21), (0, u "com/example/ikat/ikat/core/LinkEdit"), (0, u "Ljava/lang/String;"), (6, .fieldref 18 29), (0, .nameAndType 30 31), (0, u "paused"), (0, u "Ljava/lang/Boolean;"), (0, .fieldref 18 33), (0, .nameAndType 34 35), (0, u "changesExpiry"), (0, u "Z"), (0, .fieldref 18 37), (0, .nameAndType 38 39), (0, u "expiresAt"), (0, u "Ljava/time/Instant;"), (0, .fieldref 18 41), (0, .nameAndType 42 35), (0, u "changesMaxVisits"), (0, .fieldref 18 44), (0, .nameAndType 45 46), (0, u "maxVisits"), (0, u "Ljava/lang/Integer;"), (4, u "(Ljava/time/Instant;)Lcom/example/ikat/ikat/core/LinkEdit;"), (0, u "(Ljava/lang/Integer;)Lcom/example/ikat/ikat/core/LinkEdit;"), (0, u "()Ljava/lang/String;"), (0, u "()Ljava/lang/Boolean;"), (0, u "()Z"), (0, u "()Ljava/time/Instant;"), (0, u "()Ljava/lang/Integer;")] 2

def k9c0 : Code := { maxStack := 1, maxLocals := 1, code := prog_5_method_1_code, exceptionTable := #[], attributes := #[] }
def k9m0 : Method := { name := "<init>", desc := "()V", sig := { parameters := [], returnType := none }, accessFlags := 1, code := some k9c0 }
def k9c1 : Code := { maxStack := 2, maxLocals := 2, code := prog_5_method_4_code, exceptionTable := #[], attributes := #[] }
def k9m1 : Method := { name := "expiresAt", desc := "(Ljava/time/Instant;)Lcom/example/ikat/ikat/core/LinkEdit;", sig := { parameters := [(.object "java/time/Instant")], returnType := some (.object "com/example/ikat/ikat/core/LinkEdit") }, accessFlags := 1, code := some k9c1 }
def k9c2 : Code := { maxStack := 2, maxLocals := 2, code := prog_5_method_5_code, exceptionTable := #[], attributes := #[] }
def k9m2 : Method := { name := "maxVisits", desc := "(Ljava/lang/Integer;)Lcom/example/ikat/ikat/core/LinkEdit;", sig := { parameters := [(.object "java/lang/Integer")], returnType := some (.object "com/example/ikat/ikat/core/LinkEdit") }, accessFlags := 1, code := some k9c2 }
def k9c3 : Code := { maxStack := 1, maxLocals := 1, code := prog_5_method_6_code, exceptionTable := #[], attributes := #[] }
def k9m3 : Method := { name := "destination", desc := "()Ljava/lang/String;", sig := { parameters := [], returnType := some (.object "java/lang/String") }, accessFlags := 0, code := some k9c3 }
def k9c4 : Code := { maxStack := 1, maxLocals := 1, code := prog_5_method_7_code, exceptionTable := #[], attributes := #[] }
def k9m4 : Method := { name := "paused", desc := "()Ljava/lang/Boolean;", sig := { parameters := [], returnType := some (.object "java/lang/Boolean") }, accessFlags := 0, code := some k9c4 }
def k9c5 : Code := { maxStack := 1, maxLocals := 1, code := prog_5_method_8_code, exceptionTable := #[], attributes := #[] }
def k9m5 : Method := { name := "changesExpiry", desc := "()Z", sig := { parameters := [], returnType := some .boolean }, accessFlags := 0, code := some k9c5 }
def k9c6 : Code := { maxStack := 1, maxLocals := 1, code := prog_5_method_9_code, exceptionTable := #[], attributes := #[] }
def k9m6 : Method := { name := "expiresAt", desc := "()Ljava/time/Instant;", sig := { parameters := [], returnType := some (.object "java/time/Instant") }, accessFlags := 0, code := some k9c6 }
def k9c7 : Code := { maxStack := 1, maxLocals := 1, code := prog_5_method_10_code, exceptionTable := #[], attributes := #[] }
def k9m7 : Method := { name := "changesMaxVisits", desc := "()Z", sig := { parameters := [], returnType := some .boolean }, accessFlags := 0, code := some k9c7 }
def k9c8 : Code := { maxStack := 1, maxLocals := 1, code := prog_5_method_11_code, exceptionTable := #[], attributes := #[] }
def k9m8 : Method := { name := "maxVisits", desc := "()Ljava/lang/Integer;", sig := { parameters := [], returnType := some (.object "java/lang/Integer") }, accessFlags := 0, code := some k9c8 }
/-- com/example/ikat/ikat/core/LinkEdit -/
def k9 : Class := { plain "com/example/ikat/ikat/core/LinkEdit" (some 0) with
  accessFlags := 33
  interfaces := #[]
  cf := some (fileOf pool9 18 #[] #[{ accessFlags := 1, nameIndex := 5, descriptorIndex := 6, attributes := #[] }, { accessFlags := 1, nameIndex := 38, descriptorIndex := 51, attributes := #[] }, { accessFlags := 1, nameIndex := 45, descriptorIndex := 52, attributes := #[] }, { accessFlags := 0, nameIndex := 8, descriptorIndex := 53, attributes := #[] }, { accessFlags := 0, nameIndex := 30, descriptorIndex := 54, attributes := #[] }, { accessFlags := 0, nameIndex := 34, descriptorIndex := 55, attributes := #[] }, { accessFlags := 0, nameIndex := 38, descriptorIndex := 56, attributes := #[] }, { accessFlags := 0, nameIndex := 42, descriptorIndex := 55, attributes := #[] }, { accessFlags := 0, nameIndex := 45, descriptorIndex := 57, attributes := #[] }] 33 2 #[] #[{ accessFlags := 2, nameIndex := 8, descriptorIndex := 21, attributes := #[] }, { accessFlags := 2, nameIndex := 30, descriptorIndex := 31, attributes := #[] }, { accessFlags := 2, nameIndex := 34, descriptorIndex := 35, attributes := #[] }, { accessFlags := 2, nameIndex := 38, descriptorIndex := 39, attributes := #[] }, { accessFlags := 2, nameIndex := 42, descriptorIndex := 35, attributes := #[] }, { accessFlags := 2, nameIndex := 45, descriptorIndex := 46, attributes := #[] }])
  fields := #[{ name := "destination", type := (.object "java/lang/String"), accessFlags := 2, slot := 0, constantValue := 0 }, { name := "paused", type := (.object "java/lang/Boolean"), accessFlags := 2, slot := 1, constantValue := 0 }, { name := "changesExpiry", type := .boolean, accessFlags := 2, slot := 2, constantValue := 0 }, { name := "expiresAt", type := (.object "java/time/Instant"), accessFlags := 2, slot := 3, constantValue := 0 }, { name := "changesMaxVisits", type := .boolean, accessFlags := 2, slot := 4, constantValue := 0 }, { name := "maxVisits", type := (.object "java/lang/Integer"), accessFlags := 2, slot := 5, constantValue := 0 }]
  methods := #[k9m0, k9m1, k9m2, k9m3, k9m4, k9m5, k9m6, k9m7, k9m8]
  instanceTypes := #[(.object "java/lang/String"), (.object "java/lang/Boolean"), .boolean, (.object "java/time/Instant"), .boolean, (.object "java/lang/Integer")]
  staticTypes := #[]
  resolved := Array.replicate 60 none
  statics := none }

def pool10 : Array CpInfo := pool [(1, u "java/lang/Cloneable"), (0, .class_ 1), (0, u "java/lang/Object"), (0, .class_ 3)] 3

/-- java/lang/Cloneable -/
def k10 : Class := { plain "java/lang/Cloneable" (some 0) with
  accessFlags := 1537
  interfaces := #[]
  cf := some (fileOf pool10 2 #[] #[] 1537 4 #[] #[])
  fields := #[]
  methods := #[]
  instanceTypes := #[]
  staticTypes := #[]
  resolved := Array.replicate 8 none
  statics := none }

/-- the primitive byte -/
def k11 : Class := { plain "byte" none with kind := .primitive 'B', accessFlags := 0x411 }
/-- [B -/
def k12 : Class := { plain "[B" (some 0) with kind := .array 11 .byte, interfaces := #[10, 2], accessFlags := 1041 }

/-- the primitive int -/
def k13 : Class := { plain "int" none with kind := .primitive 'I', accessFlags := 0x411 }
/-- [I -/
def k14 : Class := { plain "[I" (some 0) with kind := .array 13 .int, interfaces := #[10, 2], accessFlags := 1041 }

/-- [Ljava/lang/Integer; -/
def k15 : Class := { plain "[Ljava/lang/Integer;" (some 0) with kind := .array 7 (.object "java/lang/Integer"), interfaces := #[10, 2], accessFlags := 1041 }

def heap : Heap := #[{ cls := 8, slots := #[.int 0, .int 127, .ref 1, .null, .int 0], vm := .statics 8 },
  { cls := 15, slots := #[.ref 2, .ref 3, .ref 4, .ref 5, .ref 6, .ref 7, .ref 8, .ref 9, .ref 10, .ref 11, .ref 12, .ref 13, .ref 14, .ref 15, .ref 16, .ref 17, .ref 18, .ref 19, .ref 20, .ref 21, .ref 22, .ref 23, .ref 24, .ref 25, .ref 26, .ref 27, .ref 28, .ref 29, .ref 30, .ref 31, .ref 32, .ref 33, .ref 34, .ref 35, .ref 36, .ref 37, .ref 38, .ref 39, .ref 40, .ref 41, .ref 42, .ref 43, .ref 44, .ref 45, .ref 46, .ref 47, .ref 48, .ref 49, .ref 50, .ref 51, .ref 52, .ref 53, .ref 54, .ref 55, .ref 56, .ref 57, .ref 58, .ref 59, .ref 60, .ref 61, .ref 62, .ref 63, .ref 64, .ref 65, .ref 66, .ref 67, .ref 68, .ref 69, .ref 70, .ref 71, .ref 72, .ref 73, .ref 74, .ref 75, .ref 76, .ref 77, .ref 78, .ref 79, .ref 80, .ref 81, .ref 82, .ref 83, .ref 84, .ref 85, .ref 86, .ref 87, .ref 88, .ref 89, .ref 90, .ref 91, .ref 92, .ref 93, .ref 94, .ref 95, .ref 96, .ref 97, .ref 98, .ref 99, .ref 100, .ref 101, .ref 102, .ref 103, .ref 104, .ref 105, .ref 106, .ref 107, .ref 108, .ref 109, .ref 110, .ref 111, .ref 112, .ref 113, .ref 114, .ref 115, .ref 116, .ref 117, .ref 118, .ref 119, .ref 120, .ref 121, .ref 122, .ref 123, .ref 124, .ref 125, .ref 126, .ref 127, .ref 128, .ref 129, .ref 130, .ref 131, .ref 132, .ref 133, .ref 134, .ref 135, .ref 136, .ref 137, .ref 138, .ref 139, .ref 140, .ref 141, .ref 142, .ref 143, .ref 144, .ref 145, .ref 146, .ref 147, .ref 148, .ref 149, .ref 150, .ref 151, .ref 152, .ref 153, .ref 154, .ref 155, .ref 156, .ref 157, .ref 158, .ref 159, .ref 160, .ref 161, .ref 162, .ref 163, .ref 164, .ref 165, .ref 166, .ref 167, .ref 168, .ref 169, .ref 170, .ref 171, .ref 172, .ref 173, .ref 174, .ref 175, .ref 176, .ref 177, .ref 178, .ref 179, .ref 180, .ref 181, .ref 182, .ref 183, .ref 184, .ref 185, .ref 186, .ref 187, .ref 188, .ref 189, .ref 190, .ref 191, .ref 192, .ref 193, .ref 194, .ref 195, .ref 196, .ref 197, .ref 198, .ref 199, .ref 200, .ref 201, .ref 202, .ref 203, .ref 204, .ref 205, .ref 206, .ref 207, .ref 208, .ref 209, .ref 210, .ref 211, .ref 212, .ref 213, .ref 214, .ref 215, .ref 216, .ref 217, .ref 218, .ref 219, .ref 220, .ref 221, .ref 222, .ref 223, .ref 224, .ref 225, .ref 226, .ref 227, .ref 228, .ref 229, .ref 230, .ref 231, .ref 232, .ref 233, .ref 234, .ref 235, .ref 236, .ref 237, .ref 238, .ref 239, .ref 240, .ref 241, .ref 242, .ref 243, .ref 244, .ref 245, .ref 246, .ref 247, .ref 248, .ref 249, .ref 250, .ref 251, .ref 252, .ref 253, .ref 254, .ref 255, .ref 256, .ref 257], vm := .none },
  { cls := 7, slots := #[.int (-128)], vm := .none },
  { cls := 7, slots := #[.int (-127)], vm := .none },
  { cls := 7, slots := #[.int (-126)], vm := .none },
  { cls := 7, slots := #[.int (-125)], vm := .none },
  { cls := 7, slots := #[.int (-124)], vm := .none },
  { cls := 7, slots := #[.int (-123)], vm := .none },
  { cls := 7, slots := #[.int (-122)], vm := .none },
  { cls := 7, slots := #[.int (-121)], vm := .none },
  { cls := 7, slots := #[.int (-120)], vm := .none },
  { cls := 7, slots := #[.int (-119)], vm := .none },
  { cls := 7, slots := #[.int (-118)], vm := .none },
  { cls := 7, slots := #[.int (-117)], vm := .none },
  { cls := 7, slots := #[.int (-116)], vm := .none },
  { cls := 7, slots := #[.int (-115)], vm := .none },
  { cls := 7, slots := #[.int (-114)], vm := .none },
  { cls := 7, slots := #[.int (-113)], vm := .none },
  { cls := 7, slots := #[.int (-112)], vm := .none },
  { cls := 7, slots := #[.int (-111)], vm := .none },
  { cls := 7, slots := #[.int (-110)], vm := .none },
  { cls := 7, slots := #[.int (-109)], vm := .none },
  { cls := 7, slots := #[.int (-108)], vm := .none },
  { cls := 7, slots := #[.int (-107)], vm := .none },
  { cls := 7, slots := #[.int (-106)], vm := .none },
  { cls := 7, slots := #[.int (-105)], vm := .none },
  { cls := 7, slots := #[.int (-104)], vm := .none },
  { cls := 7, slots := #[.int (-103)], vm := .none },
  { cls := 7, slots := #[.int (-102)], vm := .none },
  { cls := 7, slots := #[.int (-101)], vm := .none },
  { cls := 7, slots := #[.int (-100)], vm := .none },
  { cls := 7, slots := #[.int (-99)], vm := .none },
  { cls := 7, slots := #[.int (-98)], vm := .none },
  { cls := 7, slots := #[.int (-97)], vm := .none },
  { cls := 7, slots := #[.int (-96)], vm := .none },
  { cls := 7, slots := #[.int (-95)], vm := .none },
  { cls := 7, slots := #[.int (-94)], vm := .none },
  { cls := 7, slots := #[.int (-93)], vm := .none },
  { cls := 7, slots := #[.int (-92)], vm := .none },
  { cls := 7, slots := #[.int (-91)], vm := .none },
  { cls := 7, slots := #[.int (-90)], vm := .none },
  { cls := 7, slots := #[.int (-89)], vm := .none },
  { cls := 7, slots := #[.int (-88)], vm := .none },
  { cls := 7, slots := #[.int (-87)], vm := .none },
  { cls := 7, slots := #[.int (-86)], vm := .none },
  { cls := 7, slots := #[.int (-85)], vm := .none },
  { cls := 7, slots := #[.int (-84)], vm := .none },
  { cls := 7, slots := #[.int (-83)], vm := .none },
  { cls := 7, slots := #[.int (-82)], vm := .none },
  { cls := 7, slots := #[.int (-81)], vm := .none },
  { cls := 7, slots := #[.int (-80)], vm := .none },
  { cls := 7, slots := #[.int (-79)], vm := .none },
  { cls := 7, slots := #[.int (-78)], vm := .none },
  { cls := 7, slots := #[.int (-77)], vm := .none },
  { cls := 7, slots := #[.int (-76)], vm := .none },
  { cls := 7, slots := #[.int (-75)], vm := .none },
  { cls := 7, slots := #[.int (-74)], vm := .none },
  { cls := 7, slots := #[.int (-73)], vm := .none },
  { cls := 7, slots := #[.int (-72)], vm := .none },
  { cls := 7, slots := #[.int (-71)], vm := .none },
  { cls := 7, slots := #[.int (-70)], vm := .none },
  { cls := 7, slots := #[.int (-69)], vm := .none },
  { cls := 7, slots := #[.int (-68)], vm := .none },
  { cls := 7, slots := #[.int (-67)], vm := .none },
  { cls := 7, slots := #[.int (-66)], vm := .none },
  { cls := 7, slots := #[.int (-65)], vm := .none },
  { cls := 7, slots := #[.int (-64)], vm := .none },
  { cls := 7, slots := #[.int (-63)], vm := .none },
  { cls := 7, slots := #[.int (-62)], vm := .none },
  { cls := 7, slots := #[.int (-61)], vm := .none },
  { cls := 7, slots := #[.int (-60)], vm := .none },
  { cls := 7, slots := #[.int (-59)], vm := .none },
  { cls := 7, slots := #[.int (-58)], vm := .none },
  { cls := 7, slots := #[.int (-57)], vm := .none },
  { cls := 7, slots := #[.int (-56)], vm := .none },
  { cls := 7, slots := #[.int (-55)], vm := .none },
  { cls := 7, slots := #[.int (-54)], vm := .none },
  { cls := 7, slots := #[.int (-53)], vm := .none },
  { cls := 7, slots := #[.int (-52)], vm := .none },
  { cls := 7, slots := #[.int (-51)], vm := .none },
  { cls := 7, slots := #[.int (-50)], vm := .none },
  { cls := 7, slots := #[.int (-49)], vm := .none },
  { cls := 7, slots := #[.int (-48)], vm := .none },
  { cls := 7, slots := #[.int (-47)], vm := .none },
  { cls := 7, slots := #[.int (-46)], vm := .none },
  { cls := 7, slots := #[.int (-45)], vm := .none },
  { cls := 7, slots := #[.int (-44)], vm := .none },
  { cls := 7, slots := #[.int (-43)], vm := .none },
  { cls := 7, slots := #[.int (-42)], vm := .none },
  { cls := 7, slots := #[.int (-41)], vm := .none },
  { cls := 7, slots := #[.int (-40)], vm := .none },
  { cls := 7, slots := #[.int (-39)], vm := .none },
  { cls := 7, slots := #[.int (-38)], vm := .none },
  { cls := 7, slots := #[.int (-37)], vm := .none },
  { cls := 7, slots := #[.int (-36)], vm := .none },
  { cls := 7, slots := #[.int (-35)], vm := .none },
  { cls := 7, slots := #[.int (-34)], vm := .none },
  { cls := 7, slots := #[.int (-33)], vm := .none },
  { cls := 7, slots := #[.int (-32)], vm := .none },
  { cls := 7, slots := #[.int (-31)], vm := .none },
  { cls := 7, slots := #[.int (-30)], vm := .none },
  { cls := 7, slots := #[.int (-29)], vm := .none },
  { cls := 7, slots := #[.int (-28)], vm := .none },
  { cls := 7, slots := #[.int (-27)], vm := .none },
  { cls := 7, slots := #[.int (-26)], vm := .none },
  { cls := 7, slots := #[.int (-25)], vm := .none },
  { cls := 7, slots := #[.int (-24)], vm := .none },
  { cls := 7, slots := #[.int (-23)], vm := .none },
  { cls := 7, slots := #[.int (-22)], vm := .none },
  { cls := 7, slots := #[.int (-21)], vm := .none },
  { cls := 7, slots := #[.int (-20)], vm := .none },
  { cls := 7, slots := #[.int (-19)], vm := .none },
  { cls := 7, slots := #[.int (-18)], vm := .none },
  { cls := 7, slots := #[.int (-17)], vm := .none },
  { cls := 7, slots := #[.int (-16)], vm := .none },
  { cls := 7, slots := #[.int (-15)], vm := .none },
  { cls := 7, slots := #[.int (-14)], vm := .none },
  { cls := 7, slots := #[.int (-13)], vm := .none },
  { cls := 7, slots := #[.int (-12)], vm := .none },
  { cls := 7, slots := #[.int (-11)], vm := .none },
  { cls := 7, slots := #[.int (-10)], vm := .none },
  { cls := 7, slots := #[.int (-9)], vm := .none },
  { cls := 7, slots := #[.int (-8)], vm := .none },
  { cls := 7, slots := #[.int (-7)], vm := .none },
  { cls := 7, slots := #[.int (-6)], vm := .none },
  { cls := 7, slots := #[.int (-5)], vm := .none },
  { cls := 7, slots := #[.int (-4)], vm := .none },
  { cls := 7, slots := #[.int (-3)], vm := .none },
  { cls := 7, slots := #[.int (-2)], vm := .none },
  { cls := 7, slots := #[.int (-1)], vm := .none },
  { cls := 7, slots := #[.int 0], vm := .none },
  { cls := 7, slots := #[.int 1], vm := .none },
  { cls := 7, slots := #[.int 2], vm := .none },
  { cls := 7, slots := #[.int 3], vm := .none },
  { cls := 7, slots := #[.int 4], vm := .none },
  { cls := 7, slots := #[.int 5], vm := .none },
  { cls := 7, slots := #[.int 6], vm := .none },
  { cls := 7, slots := #[.int 7], vm := .none },
  { cls := 7, slots := #[.int 8], vm := .none },
  { cls := 7, slots := #[.int 9], vm := .none },
  { cls := 7, slots := #[.int 10], vm := .none },
  { cls := 7, slots := #[.int 11], vm := .none },
  { cls := 7, slots := #[.int 12], vm := .none },
  { cls := 7, slots := #[.int 13], vm := .none },
  { cls := 7, slots := #[.int 14], vm := .none },
  { cls := 7, slots := #[.int 15], vm := .none },
  { cls := 7, slots := #[.int 16], vm := .none },
  { cls := 7, slots := #[.int 17], vm := .none },
  { cls := 7, slots := #[.int 18], vm := .none },
  { cls := 7, slots := #[.int 19], vm := .none },
  { cls := 7, slots := #[.int 20], vm := .none },
  { cls := 7, slots := #[.int 21], vm := .none },
  { cls := 7, slots := #[.int 22], vm := .none },
  { cls := 7, slots := #[.int 23], vm := .none },
  { cls := 7, slots := #[.int 24], vm := .none },
  { cls := 7, slots := #[.int 25], vm := .none },
  { cls := 7, slots := #[.int 26], vm := .none },
  { cls := 7, slots := #[.int 27], vm := .none },
  { cls := 7, slots := #[.int 28], vm := .none },
  { cls := 7, slots := #[.int 29], vm := .none },
  { cls := 7, slots := #[.int 30], vm := .none },
  { cls := 7, slots := #[.int 31], vm := .none },
  { cls := 7, slots := #[.int 32], vm := .none },
  { cls := 7, slots := #[.int 33], vm := .none },
  { cls := 7, slots := #[.int 34], vm := .none },
  { cls := 7, slots := #[.int 35], vm := .none },
  { cls := 7, slots := #[.int 36], vm := .none },
  { cls := 7, slots := #[.int 37], vm := .none },
  { cls := 7, slots := #[.int 38], vm := .none },
  { cls := 7, slots := #[.int 39], vm := .none },
  { cls := 7, slots := #[.int 40], vm := .none },
  { cls := 7, slots := #[.int 41], vm := .none },
  { cls := 7, slots := #[.int 42], vm := .none },
  { cls := 7, slots := #[.int 43], vm := .none },
  { cls := 7, slots := #[.int 44], vm := .none },
  { cls := 7, slots := #[.int 45], vm := .none },
  { cls := 7, slots := #[.int 46], vm := .none },
  { cls := 7, slots := #[.int 47], vm := .none },
  { cls := 7, slots := #[.int 48], vm := .none },
  { cls := 7, slots := #[.int 49], vm := .none },
  { cls := 7, slots := #[.int 50], vm := .none },
  { cls := 7, slots := #[.int 51], vm := .none },
  { cls := 7, slots := #[.int 52], vm := .none },
  { cls := 7, slots := #[.int 53], vm := .none },
  { cls := 7, slots := #[.int 54], vm := .none },
  { cls := 7, slots := #[.int 55], vm := .none },
  { cls := 7, slots := #[.int 56], vm := .none },
  { cls := 7, slots := #[.int 57], vm := .none },
  { cls := 7, slots := #[.int 58], vm := .none },
  { cls := 7, slots := #[.int 59], vm := .none },
  { cls := 7, slots := #[.int 60], vm := .none },
  { cls := 7, slots := #[.int 61], vm := .none },
  { cls := 7, slots := #[.int 62], vm := .none },
  { cls := 7, slots := #[.int 63], vm := .none },
  { cls := 7, slots := #[.int 64], vm := .none },
  { cls := 7, slots := #[.int 65], vm := .none },
  { cls := 7, slots := #[.int 66], vm := .none },
  { cls := 7, slots := #[.int 67], vm := .none },
  { cls := 7, slots := #[.int 68], vm := .none },
  { cls := 7, slots := #[.int 69], vm := .none },
  { cls := 7, slots := #[.int 70], vm := .none },
  { cls := 7, slots := #[.int 71], vm := .none },
  { cls := 7, slots := #[.int 72], vm := .none },
  { cls := 7, slots := #[.int 73], vm := .none },
  { cls := 7, slots := #[.int 74], vm := .none },
  { cls := 7, slots := #[.int 75], vm := .none },
  { cls := 7, slots := #[.int 76], vm := .none },
  { cls := 7, slots := #[.int 77], vm := .none },
  { cls := 7, slots := #[.int 78], vm := .none },
  { cls := 7, slots := #[.int 79], vm := .none },
  { cls := 7, slots := #[.int 80], vm := .none },
  { cls := 7, slots := #[.int 81], vm := .none },
  { cls := 7, slots := #[.int 82], vm := .none },
  { cls := 7, slots := #[.int 83], vm := .none },
  { cls := 7, slots := #[.int 84], vm := .none },
  { cls := 7, slots := #[.int 85], vm := .none },
  { cls := 7, slots := #[.int 86], vm := .none },
  { cls := 7, slots := #[.int 87], vm := .none },
  { cls := 7, slots := #[.int 88], vm := .none },
  { cls := 7, slots := #[.int 89], vm := .none },
  { cls := 7, slots := #[.int 90], vm := .none },
  { cls := 7, slots := #[.int 91], vm := .none },
  { cls := 7, slots := #[.int 92], vm := .none },
  { cls := 7, slots := #[.int 93], vm := .none },
  { cls := 7, slots := #[.int 94], vm := .none },
  { cls := 7, slots := #[.int 95], vm := .none },
  { cls := 7, slots := #[.int 96], vm := .none },
  { cls := 7, slots := #[.int 97], vm := .none },
  { cls := 7, slots := #[.int 98], vm := .none },
  { cls := 7, slots := #[.int 99], vm := .none },
  { cls := 7, slots := #[.int 100], vm := .none },
  { cls := 7, slots := #[.int 101], vm := .none },
  { cls := 7, slots := #[.int 102], vm := .none },
  { cls := 7, slots := #[.int 103], vm := .none },
  { cls := 7, slots := #[.int 104], vm := .none },
  { cls := 7, slots := #[.int 105], vm := .none },
  { cls := 7, slots := #[.int 106], vm := .none },
  { cls := 7, slots := #[.int 107], vm := .none },
  { cls := 7, slots := #[.int 108], vm := .none },
  { cls := 7, slots := #[.int 109], vm := .none },
  { cls := 7, slots := #[.int 110], vm := .none },
  { cls := 7, slots := #[.int 111], vm := .none },
  { cls := 7, slots := #[.int 112], vm := .none },
  { cls := 7, slots := #[.int 113], vm := .none },
  { cls := 7, slots := #[.int 114], vm := .none },
  { cls := 7, slots := #[.int 115], vm := .none },
  { cls := 7, slots := #[.int 116], vm := .none },
  { cls := 7, slots := #[.int 117], vm := .none },
  { cls := 7, slots := #[.int 118], vm := .none },
  { cls := 7, slots := #[.int 119], vm := .none },
  { cls := 7, slots := #[.int 120], vm := .none },
  { cls := 7, slots := #[.int 121], vm := .none },
  { cls := 7, slots := #[.int 122], vm := .none },
  { cls := 7, slots := #[.int 123], vm := .none },
  { cls := 7, slots := #[.int 124], vm := .none },
  { cls := 7, slots := #[.int 125], vm := .none },
  { cls := 7, slots := #[.int 126], vm := .none },
  { cls := 7, slots := #[.int 127], vm := .none }]
def classes : Array Class := #[k0, k1, k2, k3, k4, k5, k6, k7, k8, k9, k10, k11, k12, k13, k14, k15]
def interned : List (Array UInt16 × Addr) := []
def slotsUsed : Nat := 517
def theMethod : MethodId := ⟨1, 2⟩
def args0 : Array Value := #[.int 5, .int 300, .int 2]
def aboutOver (below : List Frame) : State where
  vm := { classes := classes, interned := interned.toArray }
  heap := heap
  slotsUsed := slotsUsed
  threads := #[{ frames := .invoking theMethod args0 :: below }]
def below0 : List Frame := [.native { method := ⟨0, 0⟩, args := #[] }]
def about1 : State := aboutOver below0
def p0 : Program := .bare "" "" ""
def e0 : Env := launch0.env 0 0 0
theorem w_frames : about1.frames = Frame.invoking theMethod args0 :: below0 := rfl
set_option maxRecDepth 65536 in
theorem w_args : argsFit about1.vm theMethod args0 = true := by decide +kernel
set_option maxRecDepth 65536 in
theorem w_heap : heapFits about1 = true := by decide +kernel
set_option maxRecDepth 65536 in
theorem w_runnable : about1.curStatus? = some .runnable := by decide +kernel
set_option maxRecDepth 65536 in
theorem w_alone : about1.alone = true := by decide +kernel
set_option maxRecDepth 65536 in
theorem w_named : about1.methodNamed? x = some theMethod := by decide +kernel
set_option maxRecDepth 65536 in
theorem w_hears : about1.hears theMethod below0 = true := by decide +kernel
set_option maxRecDepth 65536 in
theorem w_ripe : about1.ripe theMethod args0 below0 = true := by decide +kernel
theorem w_running : about1.status = .running := rfl
set_option maxRecDepth 65536 in
theorem w_room : about1.hasRoom e0.platform room_1 = true :=
  launch0.hasRoom_least _ room_1 (by decide +kernel) (by decide +kernel) (by decide +kernel) (by decide +kernel) (by decide +kernel) (by decide +kernel)
theorem allAtoms_all (ts : List Jvm.Cond) (a : Array Jvm.Value) (st : Jvm.State) : (allAtoms ts).before a st = ts.all (fun c => c.before a st) := by
  induction ts with
  | nil => rfl
  | cons c t ih =>
    show (Jvm.Cond.and c (allAtoms t)).before a st = _
    rw [Jvm.Cond.before_and, ih, List.all_cons]
def words1 : List Jvm.Cond := Jvm.Cond.code x code maxLocals ret :: tables_1
/-- a 'code' word, met by the world's own term for the bytes: nothing is compared byte by byte -/
theorem code_word {y : MethodName} {bytes : ByteArray} {mx : Nat} {rt : Option FieldType} {a : Array Value} {s : State} {m : MethodId} {meth : Method} {c : Code} (h1 : s.methodNamed? y = some m) (h2 : s.vm.method? m = some meth) (h3 : meth.code = some c) (h4 : c.code = bytes)
    (h5 : (c.maxLocals == mx && c.exceptionTable.isEmpty && decide (c.maxStack ≤ mostOperands) && decide (meth.sig.returnType = rt) && !meth.locks && decide (parseMethodDescriptor y.desc = some meth.sig)) = true) : (Jvm.Cond.code y bytes mx rt).before a s = true := by
  simp only [Bool.and_eq_true, beq_iff_eq, Bool.not_eq_true', decide_eq_true_eq] at h5
  obtain ⟨⟨⟨⟨⟨g1, g2⟩, g3⟩, g4⟩, g5⟩, g6⟩ := h5
  simp [Cond.before, Cond.holds, Cond.value, h1, h2, h3, h4, g1, g2, g3, g4, g5, g6]
def isCode : Jvm.Cond → Bool
  | .code _ _ _ _ => true
  | _ => false
theorem all_split {L : List Jvm.Cond} {P : Jvm.Cond → Bool} (h1 : L.all (fun c => isCode c || P c) = true) (h2 : ∀ c ∈ L.filter isCode, P c = true) : L.all P = true := by
  refine List.all_eq_true.mpr fun c hc => ?_
  have h := List.all_eq_true.mp h1 c hc
  rcases Bool.eq_false_or_eq_true (isCode c) with hi | hi
  · exact h2 c (List.mem_filter.mpr ⟨hc, hi⟩)
  · simpa [hi] using h
set_option maxRecDepth 65536 in
theorem w_c0 : (Jvm.Cond.code x code maxLocals ret).before args0 about1 = true := code_word (m := ⟨1, 2⟩) (meth := k1m2) (c := k1c2) (by decide +kernel) rfl rfl rfl (by decide +kernel)
set_option maxRecDepth 65536 in
theorem w_c1 : (Jvm.Cond.code ({ cls := "java/lang/Integer", name := "valueOf", desc := "(I)Ljava/lang/Integer;" } : Jvm.MethodName) jdk_33_method_22_code (1 : Nat) (Option.some (Jvm.ClassFile.FieldType.object "java/lang/Integer"))).before args0 about1 = true := code_word (m := ⟨7, 0⟩) (meth := k7m0) (c := k7c0) (by decide +kernel) rfl rfl rfl (by decide +kernel)
set_option maxRecDepth 65536 in
theorem w_c2 : (Jvm.Cond.code ({ cls := "com/example/ikat/ikat/core/LinkEdit", name := "<init>", desc := "()V" } : Jvm.MethodName) prog_5_method_1_code (1 : Nat) (Option.none : Option Jvm.ClassFile.FieldType)).before args0 about1 = true := code_word (m := ⟨9, 0⟩) (meth := k9m0) (c := k9c0) (by decide +kernel) rfl rfl rfl (by decide +kernel)
set_option maxRecDepth 65536 in
theorem w_c3 : (Jvm.Cond.code ({ cls := "java/lang/Object", name := "<init>", desc := "()V" } : Jvm.MethodName) object_method_1_code (1 : Nat) (Option.none : Option Jvm.ClassFile.FieldType)).before args0 about1 = true := code_word (m := ⟨0, 0⟩) (meth := k0m0) (c := k0c0) (by decide +kernel) rfl rfl rfl (by decide +kernel)
set_option maxRecDepth 65536 in
theorem w_c4 : (Jvm.Cond.code ({ cls := "com/example/ikat/ikat/core/LinkEdit", name := "maxVisits", desc := "(Ljava/lang/Integer;)Lcom/example/ikat/ikat/core/LinkEdit;" } : Jvm.MethodName) prog_5_method_5_code (2 : Nat) (Option.some (Jvm.ClassFile.FieldType.object "com/example/ikat/ikat/core/LinkEdit"))).before args0 about1 = true := code_word (m := ⟨9, 2⟩) (meth := k9m2) (c := k9c2) (by decide +kernel) rfl rfl rfl (by decide +kernel)
set_option maxRecDepth 65536 in
theorem w_c5 : (Jvm.Cond.code ({ cls := "com/example/ikat/ikat/core/LinkEdit", name := "changesMaxVisits", desc := "()Z" } : Jvm.MethodName) prog_5_method_10_code (1 : Nat) (Option.some Jvm.ClassFile.FieldType.boolean)).before args0 about1 = true := code_word (m := ⟨9, 7⟩) (meth := k9m7) (c := k9c7) (by decide +kernel) rfl rfl rfl (by decide +kernel)
set_option maxRecDepth 65536 in
theorem w_c6 : (Jvm.Cond.code ({ cls := "com/example/ikat/ikat/core/LinkEdit", name := "maxVisits", desc := "()Ljava/lang/Integer;" } : Jvm.MethodName) prog_5_method_11_code (1 : Nat) (Option.some (Jvm.ClassFile.FieldType.object "java/lang/Integer"))).before args0 about1 = true := code_word (m := ⟨9, 8⟩) (meth := k9m8) (c := k9c8) (by decide +kernel) rfl rfl rfl (by decide +kernel)
set_option maxRecDepth 65536 in
theorem w_c7 : (Jvm.Cond.code ({ cls := "com/example/ikat/ikat/core/LinkEditMaxVisitsPinLaw", name := "matches", desc := "(Ljava/lang/Integer;ZI)Z" } : Jvm.MethodName) method_2_code (3 : Nat) (Option.some Jvm.ClassFile.FieldType.boolean)).before args0 about1 = true := code_word (m := ⟨1, 1⟩) (meth := k1m1) (c := k1c1) (by decide +kernel) rfl rfl rfl (by decide +kernel)
set_option maxRecDepth 65536 in
theorem w_c8 : (Jvm.Cond.code ({ cls := "java/lang/Integer", name := "intValue", desc := "()I" } : Jvm.MethodName) jdk_33_method_27_code (1 : Nat) (Option.some Jvm.ClassFile.FieldType.int)).before args0 about1 = true := code_word (m := ⟨7, 2⟩) (meth := k7m2) (c := k7c2) (by decide +kernel) rfl rfl rfl (by decide +kernel)
set_option maxRecDepth 65536 in
theorem w_c9 : (Jvm.Cond.code ({ cls := "com/example/ikat/ikat/core/LinkEdit", name := "destination", desc := "()Ljava/lang/String;" } : Jvm.MethodName) prog_5_method_6_code (1 : Nat) (Option.some (Jvm.ClassFile.FieldType.object "java/lang/String"))).before args0 about1 = true := code_word (m := ⟨9, 3⟩) (meth := k9m3) (c := k9c3) (by decide +kernel) rfl rfl rfl (by decide +kernel)
set_option maxRecDepth 65536 in
theorem w_c10 : (Jvm.Cond.code ({ cls := "com/example/ikat/ikat/core/LinkEdit", name := "paused", desc := "()Ljava/lang/Boolean;" } : Jvm.MethodName) prog_5_method_7_code (1 : Nat) (Option.some (Jvm.ClassFile.FieldType.object "java/lang/Boolean"))).before args0 about1 = true := code_word (m := ⟨9, 4⟩) (meth := k9m4) (c := k9c4) (by decide +kernel) rfl rfl rfl (by decide +kernel)
set_option maxRecDepth 65536 in
theorem w_c11 : (Jvm.Cond.code ({ cls := "com/example/ikat/ikat/core/LinkEdit", name := "changesExpiry", desc := "()Z" } : Jvm.MethodName) prog_5_method_8_code (1 : Nat) (Option.some Jvm.ClassFile.FieldType.boolean)).before args0 about1 = true := code_word (m := ⟨9, 5⟩) (meth := k9m5) (c := k9c5) (by decide +kernel) rfl rfl rfl (by decide +kernel)
set_option maxRecDepth 65536 in
theorem w_c12 : (Jvm.Cond.code ({ cls := "com/example/ikat/ikat/core/LinkEdit", name := "expiresAt", desc := "()Ljava/time/Instant;" } : Jvm.MethodName) prog_5_method_9_code (1 : Nat) (Option.some (Jvm.ClassFile.FieldType.object "java/time/Instant"))).before args0 about1 = true := code_word (m := ⟨9, 6⟩) (meth := k9m6) (c := k9c6) (by decide +kernel) rfl rfl rfl (by decide +kernel)
set_option maxRecDepth 65536 in
theorem w_c13 : (Jvm.Cond.code ({ cls := "com/example/ikat/ikat/core/LinkEdit", name := "expiresAt", desc := "(Ljava/time/Instant;)Lcom/example/ikat/ikat/core/LinkEdit;" } : Jvm.MethodName) prog_5_method_4_code (2 : Nat) (Option.some (Jvm.ClassFile.FieldType.object "com/example/ikat/ikat/core/LinkEdit"))).before args0 about1 = true := code_word (m := ⟨9, 1⟩) (meth := k9m1) (c := k9c1) (by decide +kernel) rfl rfl rfl (by decide +kernel)
set_option maxRecDepth 65536 in
theorem w_c14 : (Jvm.Cond.code ({ cls := "java/lang/Integer", name := "<init>", desc := "(I)V" } : Jvm.MethodName) jdk_33_method_23_code (2 : Nat) (Option.none : Option Jvm.ClassFile.FieldType)).before args0 about1 = true := code_word (m := ⟨7, 1⟩) (meth := k7m1) (c := k7c1) (by decide +kernel) rfl rfl rfl (by decide +kernel)
set_option maxRecDepth 65536 in
theorem w_c15 : (Jvm.Cond.code ({ cls := "java/lang/Number", name := "<init>", desc := "()V" } : Jvm.MethodName) jdk_18_method_1_code (1 : Nat) (Option.none : Option Jvm.ClassFile.FieldType)).before args0 about1 = true := code_word (m := ⟨3, 0⟩) (meth := k3m0) (c := k3c0) (by decide +kernel) rfl rfl rfl (by decide +kernel)
def codes1 : List Jvm.Cond := [Jvm.Cond.code x code maxLocals ret, Jvm.Cond.code ({ cls := "java/lang/Integer", name := "valueOf", desc := "(I)Ljava/lang/Integer;" } : Jvm.MethodName) jdk_33_method_22_code (1 : Nat) (Option.some (Jvm.ClassFile.FieldType.object "java/lang/Integer")), Jvm.Cond.code ({ cls := "com/example/ikat/ikat/core/LinkEdit", name := "<init>", desc := "()V" } : Jvm.MethodName) prog_5_method_1_code (1 : Nat) (Option.none : Option Jvm.ClassFile.FieldType), Jvm.Cond.code ({ cls := "java/lang/Object", name := "<init>", desc := "()V" } : Jvm.MethodName) object_method_1_code (1 : Nat) (Option.none : Option Jvm.ClassFile.FieldType), Jvm.Cond.code ({ cls := "com/example/ikat/ikat/core/LinkEdit", name := "maxVisits", desc := "(Ljava/lang/Integer;)Lcom/example/ikat/ikat/core/LinkEdit;" } : Jvm.MethodName) prog_5_method_5_code (2 : Nat) (Option.some (Jvm.ClassFile.FieldType.object "com/example/ikat/ikat/core/LinkEdit")), Jvm.Cond.code ({ cls := "com/example/ikat/ikat/core/LinkEdit", name := "changesMaxVisits", desc := "()Z" } : Jvm.MethodName) prog_5_method_10_code (1 : Nat) (Option.some Jvm.ClassFile.FieldType.boolean), Jvm.Cond.code ({ cls := "com/example/ikat/ikat/core/LinkEdit", name := "maxVisits", desc := "()Ljava/lang/Integer;" } : Jvm.MethodName) prog_5_method_11_code (1 : Nat) (Option.some (Jvm.ClassFile.FieldType.object "java/lang/Integer")), Jvm.Cond.code ({ cls := "com/example/ikat/ikat/core/LinkEditMaxVisitsPinLaw", name := "matches", desc := "(Ljava/lang/Integer;ZI)Z" } : Jvm.MethodName) method_2_code (3 : Nat) (Option.some Jvm.ClassFile.FieldType.boolean), Jvm.Cond.code ({ cls := "java/lang/Integer", name := "intValue", desc := "()I" } : Jvm.MethodName) jdk_33_method_27_code (1 : Nat) (Option.some Jvm.ClassFile.FieldType.int), Jvm.Cond.code ({ cls := "com/example/ikat/ikat/core/LinkEdit", name := "destination", desc := "()Ljava/lang/String;" } : Jvm.MethodName) prog_5_method_6_code (1 : Nat) (Option.some (Jvm.ClassFile.FieldType.object "java/lang/String")), Jvm.Cond.code ({ cls := "com/example/ikat/ikat/core/LinkEdit", name := "paused", desc := "()Ljava/lang/Boolean;" } : Jvm.MethodName) prog_5_method_7_code (1 : Nat) (Option.some (Jvm.ClassFile.FieldType.object "java/lang/Boolean")), Jvm.Cond.code ({ cls := "com/example/ikat/ikat/core/LinkEdit", name := "changesExpiry", desc := "()Z" } : Jvm.MethodName) prog_5_method_8_code (1 : Nat) (Option.some Jvm.ClassFile.FieldType.boolean), Jvm.Cond.code ({ cls := "com/example/ikat/ikat/core/LinkEdit", name := "expiresAt", desc := "()Ljava/time/Instant;" } : Jvm.MethodName) prog_5_method_9_code (1 : Nat) (Option.some (Jvm.ClassFile.FieldType.object "java/time/Instant")), Jvm.Cond.code ({ cls := "com/example/ikat/ikat/core/LinkEdit", name := "expiresAt", desc := "(Ljava/time/Instant;)Lcom/example/ikat/ikat/core/LinkEdit;" } : Jvm.MethodName) prog_5_method_4_code (2 : Nat) (Option.some (Jvm.ClassFile.FieldType.object "com/example/ikat/ikat/core/LinkEdit")), Jvm.Cond.code ({ cls := "java/lang/Integer", name := "<init>", desc := "(I)V" } : Jvm.MethodName) jdk_33_method_23_code (2 : Nat) (Option.none : Option Jvm.ClassFile.FieldType), Jvm.Cond.code ({ cls := "java/lang/Number", name := "<init>", desc := "()V" } : Jvm.MethodName) jdk_18_method_1_code (1 : Nat) (Option.none : Option Jvm.ClassFile.FieldType)]
set_option maxRecDepth 65536 in
theorem codes_eq : words1.filter isCode = codes1 := rfl
theorem w_codes : ∀ c ∈ words1.filter isCode, c.before args0 about1 = true := by
  rw [codes_eq]
  intro c hc
  simp only [codes1, List.mem_cons, List.not_mem_nil, or_false] at hc
  rcases hc with rfl | rfl | rfl | rfl | rfl | rfl | rfl | rfl | rfl | rfl | rfl | rfl | rfl | rfl | rfl | rfl
  · exact w_c0
  · exact w_c1
  · exact w_c2
  · exact w_c3
  · exact w_c4
  · exact w_c5
  · exact w_c6
  · exact w_c7
  · exact w_c8
  · exact w_c9
  · exact w_c10
  · exact w_c11
  · exact w_c12
  · exact w_c13
  · exact w_c14
  · exact w_c15
set_option maxRecDepth 65536 in
theorem w_t1 : (words1.take 24).all (fun c => isCode c || c.before args0 about1) = true := by decide +kernel
set_option maxRecDepth 65536 in
theorem w_t2 : ((words1.drop 24).take 24).all (fun c => isCode c || c.before args0 about1) = true := by decide +kernel
set_option maxRecDepth 65536 in
theorem w_t3 : (((words1.drop 24).drop 24).take 24).all (fun c => isCode c || c.before args0 about1) = true := by decide +kernel
set_option maxRecDepth 65536 in
theorem w_t4 : (((words1.drop 24).drop 24).drop 24).all (fun c => isCode c || c.before args0 about1) = true := by decide +kernel
theorem w_tables : (allAtoms (Jvm.Cond.code x code maxLocals ret :: tables_1)).before args0 about1 = true := by
  rw [allAtoms_all]
  show words1.all (fun c => c.before args0 about1) = true
  refine all_split ?_ w_codes
  rw [← List.take_append_drop 24 words1, List.all_append, w_t1, ← List.take_append_drop 24 (words1.drop 24), List.all_append, w_t2, ← List.take_append_drop 24 ((words1.drop 24).drop 24), List.all_append, w_t3, w_t4]
  rfl
set_option maxRecDepth 65536 in
theorem w_rest : rest_1_c.before args0 about1 = true := by decide +kernel
set_option maxRecDepth 65536 in
theorem w_case : (Jvm.Cond.and given_1 narrow_1).before args0 about1 = true := by decide +kernel
theorem w_applies : (headSpec (Jvm.Cond.code x code maxLocals ret :: tables_1) room_1).applies x e0.platform about1 = true :=
  (Spec.applies_iff w_frames).mpr ⟨w_running, w_runnable, w_alone, w_named, w_hears, w_ripe, w_room, w_tables⟩
theorem atStart : AtStart classFile x code maxLocals ret World_1 tables_1 room_1 Calls_1 rest_1 Pre_1 launch0 p0 e0 about1 theMethod args0 below0 :=
  ⟨lists_1, trivial, launch0.admits_env _ _ _, launch0.least_env, fairChoices_fair.cas, fairChoices_fair.clock, w_frames, w_args, w_heap, w_applies, trivial, w_rest, w_case⟩
end start1
theorem witness_1 : WitnessClaimed_1 := ⟨start1.p0, start1.e0, start1.about1, start1.theMethod, start1.args0, start1.below0, start1.atStart⟩
end Jvm.Pilot.@@N@@
