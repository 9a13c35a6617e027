import JvmDerived
import JvmDerived.Pilot.@@N@@Statement
import JvmDerived.Pilot.@@N@@Code
set_option linter.unusedVariables false
set_option linter.unusedSimpArgs false
namespace Jvm.RoadKit
open Sem ClassFile Op Lib Jvm.Stand Jvm.Free Jvm.LawKit
section New
variable {p : Program} {l : Launch} {e : Env} {R : Room} {s : State} {m : MethodId} {args : Array Value} {below : List Frame} {meth : Method} {c : Code} {T : State} {locs : List Loc} {cells slots : Nat}
theorem retI (X : Stand p l e R s m args below meth c T locs cells slots) (hx : p.tables.exec = Jvm.exec) {pc : Nat} {Ls : Array Slot} {z : Int32} {rest : List Value} (hret : meth.sig.returnType = some .int) (hd : decode c.code pc = .ok (.ireturn, 1)) {fs : List Frame}
    (hl : ∀ (f : JFrame) (acts : List Action), f.method = m → f.locked = none → f.entered = [] → (doReturn e (T.setTop f) acts (some (.int z))).1 = T.setFrames fs) : Steps p.tables e below (T.setTop (mkF m pc Ls (.int z :: rest))) (T.setFrames fs) := by
  have hm' : T.vm.method? m = some meth := X.method'
  have hn : narrow .int (.int z) = .int z := rfl
  show Steps p.tables e below (T.setTop { method := m, pc := pc, locals := Ls, stack := _ :: rest, locked := none }) _
  jvm_step X.here [X.here.top, hx, hd, hm', hret, hn]
  first | (intro acts; rw [hl _ acts rfl rfl rfl]) | rw [hl _ _ rfl rfl rfl]
  exact Steps.refl _
end New
end Jvm.RoadKit
namespace Jvm.Pilot.@@N@@
open Jvm Jvm.ClassFile Sem Op Lib Jvm.Free Jvm.Stand Jvm.LawKit Jvm.RoadKit Bundle Jvm.Pilot.@@N@@.Jvm.D
section OwnKit
variable {p : Program} {l : Launch} {e : Env} {R : Room} {s : State} {m : MethodId} {args : Array Value} {below : List Frame} {meth : Method} {c : Code} {T W : State} {locs : List Loc} {cells slots : Nat} {Z : State} {a0 : Array Value} {h : Heap} {pc : Nat} {L : Array Slot} {S : List Value}
def Go (p : Program) (e : Env) (below : List Frame) (m : MethodId) (W T : State) (pc : Nat) (L : Array Slot) (S : List Value) : Prop := ∀ t, Steps p.tables e below (T.setTop (mkF m pc L S)) t → Steps p.tables e below W t
theorem Go.iloadN {n : Fin 4} {v : Int32} (k : Go p e below m W T pc L S) (X : Stand p l e R s m args below meth c T locs cells slots) (hx : p.tables.exec = Jvm.exec) (hd : decode c.code pc = .ok (.iload_n n, 1)) (hl : L[n.val]? = some (.val (.int v))) : Go p e below m W T (pc + 1) L (.int v :: S) := fun t kt => k t (Jvm.Free.XS.iloadN X.here hx rfl hd hl kt)
theorem Go.iload {n : Nat} {v : Int32} (k : Go p e below m W T pc L S) (X : Stand p l e R s m args below meth c T locs cells slots) (hx : p.tables.exec = Jvm.exec) (hd : decode c.code pc = .ok (.iload n, 2)) (hl : L[n]? = some (.val (.int v))) : Go p e below m W T (pc + 2) L (.int v :: S) := fun t kt => k t (Jvm.Free.XS.iload X.here hx rfl hd hl kt)
theorem Go.lloadN {n : Fin 4} {v : Int64} (k : Go p e below m W T pc L S) (X : Stand p l e R s m args below meth c T locs cells slots) (hx : p.tables.exec = Jvm.exec) (hd : decode c.code pc = .ok (.lload_n n, 1)) (hl : L[n.val]? = some (.val (.long v))) : Go p e below m W T (pc + 1) L (.long v :: S) := fun t kt => k t (Jvm.Free.XT.lloadN X.here hx rfl hd hl kt)
theorem Go.lload {n : Nat} {v : Int64} (k : Go p e below m W T pc L S) (X : Stand p l e R s m args below meth c T locs cells slots) (hx : p.tables.exec = Jvm.exec) (hd : decode c.code pc = .ok (.lload n, 2)) (hl : L[n]? = some (.val (.long v))) : Go p e below m W T (pc + 2) L (.long v :: S) := fun t kt => k t (Jvm.Free.XT.lload X.here hx rfl hd hl kt)
theorem Go.aloadN {n : Fin 4} {v : Value} (k : Go p e below m W T pc L S) (X : Stand p l e R s m args below meth c T locs cells slots) (hx : p.tables.exec = Jvm.exec) (hd : decode c.code pc = .ok (.aload_n n, 1)) (hl : L[n.val]? = some (.val v)) (hv : v.isRef = true) : Go p e below m W T (pc + 1) L (v :: S) := fun t kt => k t (Jvm.Free.XS.aloadN X.here hx rfl hd hl hv kt)
theorem Go.aload {n : Nat} {v : Value} (k : Go p e below m W T pc L S) (X : Stand p l e R s m args below meth c T locs cells slots) (hx : p.tables.exec = Jvm.exec) (hd : decode c.code pc = .ok (.aload n, 2)) (hl : L[n]? = some (.val v)) (hv : v.isRef = true) : Go p e below m W T (pc + 2) L (v :: S) := fun t kt => k t (Jvm.Free.XS.aload X.here hx rfl hd hl hv kt)
theorem Go.iconst {i : Int} {v : Int32} (k : Go p e below m W T pc L S) (X : Stand p l e R s m args below meth c T locs cells slots) (hx : p.tables.exec = Jvm.exec) (hd : decode c.code pc = .ok (.iconst i, 1)) (hv : Int32.ofInt i = v) : Go p e below m W T (pc + 1) L (.int v :: S) := fun t kt => k t (Jvm.Free.XT.iconstV X.here hx rfl v hd hv kt)
theorem Go.bipush {i : Int} {v : Int32} (k : Go p e below m W T pc L S) (X : Stand p l e R s m args below meth c T locs cells slots) (hx : p.tables.exec = Jvm.exec) (hd : decode c.code pc = .ok (.bipush i, 2)) (hv : (Int8.ofInt i).toInt32 = v) : Go p e below m W T (pc + 2) L (.int v :: S) := fun t kt => k t (Jvm.Free.XT.bipushV X.here hx rfl v hd hv kt)
theorem Go.sipush {i : Int} {v : Int32} (k : Go p e below m W T pc L S) (X : Stand p l e R s m args below meth c T locs cells slots) (hx : p.tables.exec = Jvm.exec) (hd : decode c.code pc = .ok (.sipush i, 3)) (hv : (Int16.ofInt i).toInt32 = v) : Go p e below m W T (pc + 3) L (.int v :: S) := fun t kt => k t (Jvm.Free.XT.sipushV X.here hx rfl v hd hv kt)
theorem Go.lconst {i : Fin 2} {v : Int64} (k : Go p e below m W T pc L S) (X : Stand p l e R s m args below meth c T locs cells slots) (hx : p.tables.exec = Jvm.exec) (hd : decode c.code pc = .ok (.lconst i, 1)) (hv : Int64.ofNat i = v) : Go p e below m W T (pc + 1) L (.long v :: S) := fun t kt => k t (Jvm.Free.XT.lconstV X.here hx rfl v hd hv kt)
theorem Go.aconstNull  (k : Go p e below m W T pc L S) (X : Stand p l e R s m args below meth c T locs cells slots) (hx : p.tables.exec = Jvm.exec) (hd : decode c.code pc = .ok (.aconst_null, 1)) : Go p e below m W T (pc + 1) L (.null :: S) := fun t kt => k t (Jvm.Free.XS.aconstNull X.here hx rfl hd kt)
theorem Go.istoreN {n : Fin 4} {x : Int32} {L' : Array Slot} (k : Go p e below m W T pc L (.int x :: S)) (X : Stand p l e R s m args below meth c T locs cells slots) (hx : p.tables.exec = Jvm.exec) (hd : decode c.code pc = .ok (.istore_n n, 1)) (hl : storeLocals L n.val (.int x) = some L') : Go p e below m W T (pc + 1) L' S := fun t kt => k t (Jvm.Free.XS.istoreN X.here hx rfl hd rfl hl kt)
theorem Go.istore {n : Nat} {x : Int32} {L' : Array Slot} (k : Go p e below m W T pc L (.int x :: S)) (X : Stand p l e R s m args below meth c T locs cells slots) (hx : p.tables.exec = Jvm.exec) (hd : decode c.code pc = .ok (.istore n, 2)) (hl : storeLocals L n (.int x) = some L') : Go p e below m W T (pc + 2) L' S := fun t kt => k t (Jvm.Free.XS.istore X.here hx rfl hd rfl hl kt)
theorem Go.lstoreN {n : Fin 4} {x : Int64} {L' : Array Slot} (k : Go p e below m W T pc L (.long x :: S)) (X : Stand p l e R s m args below meth c T locs cells slots) (hx : p.tables.exec = Jvm.exec) (hd : decode c.code pc = .ok (.lstore_n n, 1)) (hl : storeLocals L n.val (.long x) = some L') : Go p e below m W T (pc + 1) L' S := fun t kt => k t (Jvm.Free.XT.lstoreN X.here hx rfl hd rfl hl kt)
theorem Go.lstore {n : Nat} {x : Int64} {L' : Array Slot} (k : Go p e below m W T pc L (.long x :: S)) (X : Stand p l e R s m args below meth c T locs cells slots) (hx : p.tables.exec = Jvm.exec) (hd : decode c.code pc = .ok (.lstore n, 2)) (hl : storeLocals L n (.long x) = some L') : Go p e below m W T (pc + 2) L' S := fun t kt => k t (Jvm.Free.XT.lstore X.here hx rfl hd rfl hl kt)
theorem Go.astoreN {n : Fin 4} {x : Value} {L' : Array Slot} (k : Go p e below m W T pc L (x :: S)) (X : Stand p l e R s m args below meth c T locs cells slots) (hx : p.tables.exec = Jvm.exec) (hd : decode c.code pc = .ok (.astore_n n, 1)) (hv : x.isRef = true) (hl : storeLocals L n.val x = some L') : Go p e below m W T (pc + 1) L' S := fun t kt => k t (Jvm.Free.XS.astoreN X.here hx rfl hd rfl hv hl kt)
theorem Go.astore {n : Nat} {x : Value} {L' : Array Slot} (k : Go p e below m W T pc L (x :: S)) (X : Stand p l e R s m args below meth c T locs cells slots) (hx : p.tables.exec = Jvm.exec) (hd : decode c.code pc = .ok (.astore n, 2)) (hv : x.isRef = true) (hl : storeLocals L n x = some L') : Go p e below m W T (pc + 2) L' S := fun t kt => k t (Jvm.Free.XS.astore X.here hx rfl hd rfl hv hl kt)
theorem Go.iinc {n : Nat} {i : Int} {x v : Int32} {L' : Array Slot} (k : Go p e below m W T pc L S) (X : Stand p l e R s m args below meth c T locs cells slots) (hx : p.tables.exec = Jvm.exec) (hd : decode c.code pc = .ok (.iinc n i, 3)) (hv : Int32.ofInt i = v) (hl : L[n]? = some (.val (.int x))) (hl' : storeLocals L n (.int (x + v)) = some L') : Go p e below m W T (pc + 3) L' S := fun t kt => k t (Jvm.Free.XT.iincV X.here hx rfl v hd hv hl hl' kt)
theorem Go.iadd {x y : Int32} (k : Go p e below m W T pc L (.int y :: .int x :: S)) (X : Stand p l e R s m args below meth c T locs cells slots) (hx : p.tables.exec = Jvm.exec) (hd : decode c.code pc = .ok (.iadd, 1)) : Go p e below m W T (pc + 1) L (.int (x + y) :: S) := fun t kt => k t (Jvm.Free.XS.iadd X.here hx rfl hd rfl kt)
theorem Go.isub {x y : Int32} (k : Go p e below m W T pc L (.int y :: .int x :: S)) (X : Stand p l e R s m args below meth c T locs cells slots) (hx : p.tables.exec = Jvm.exec) (hd : decode c.code pc = .ok (.isub, 1)) : Go p e below m W T (pc + 1) L (.int (x - y) :: S) := fun t kt => k t (Jvm.Free.XS.isub X.here hx rfl hd rfl kt)
theorem Go.iand {x y : Int32} (k : Go p e below m W T pc L (.int y :: .int x :: S)) (X : Stand p l e R s m args below meth c T locs cells slots) (hx : p.tables.exec = Jvm.exec) (hd : decode c.code pc = .ok (.iand, 1)) : Go p e below m W T (pc + 1) L (.int (x &&& y) :: S) := fun t kt => k t (Jvm.Free.XS.iand X.here hx rfl hd rfl kt)
theorem Go.imul {x y : Int32} (k : Go p e below m W T pc L (.int y :: .int x :: S)) (X : Stand p l e R s m args below meth c T locs cells slots) (hx : p.tables.exec = Jvm.exec) (hd : decode c.code pc = .ok (.imul, 1)) : Go p e below m W T (pc + 1) L (.int (x * y) :: S) := fun t kt => k t (Jvm.Free.XS.imul X.here hx rfl hd rfl kt)
theorem Go.ixor {x y : Int32} (k : Go p e below m W T pc L (.int y :: .int x :: S)) (X : Stand p l e R s m args below meth c T locs cells slots) (hx : p.tables.exec = Jvm.exec) (hd : decode c.code pc = .ok (.ixor, 1)) : Go p e below m W T (pc + 1) L (.int (x ^^^ y) :: S) := fun t kt => k t (Jvm.Free.XT.ixor X.here hx rfl hd rfl kt)
theorem Go.ior {x y : Int32} (k : Go p e below m W T pc L (.int y :: .int x :: S)) (X : Stand p l e R s m args below meth c T locs cells slots) (hx : p.tables.exec = Jvm.exec) (hd : decode c.code pc = .ok (.ior, 1)) : Go p e below m W T (pc + 1) L (.int (x ||| y) :: S) := fun t kt => k t (Jvm.Free.XT.ior X.here hx rfl hd rfl kt)
theorem Go.ishl {x y : Int32} (k : Go p e below m W T pc L (.int y :: .int x :: S)) (X : Stand p l e R s m args below meth c T locs cells slots) (hx : p.tables.exec = Jvm.exec) (hd : decode c.code pc = .ok (.ishl, 1)) : Go p e below m W T (pc + 1) L (.int (x <<< (y &&& 31)) :: S) := fun t kt => k t (Jvm.Free.XT.ishl X.here hx rfl hd rfl kt)
theorem Go.ishr {x y : Int32} (k : Go p e below m W T pc L (.int y :: .int x :: S)) (X : Stand p l e R s m args below meth c T locs cells slots) (hx : p.tables.exec = Jvm.exec) (hd : decode c.code pc = .ok (.ishr, 1)) : Go p e below m W T (pc + 1) L (.int (x >>> (y &&& 31)) :: S) := fun t kt => k t (Jvm.Free.XT.ishr X.here hx rfl hd rfl kt)
theorem Go.iushr {x y : Int32} (k : Go p e below m W T pc L (.int y :: .int x :: S)) (X : Stand p l e R s m args below meth c T locs cells slots) (hx : p.tables.exec = Jvm.exec) (hd : decode c.code pc = .ok (.iushr, 1)) : Go p e below m W T (pc + 1) L (.int (XT.ushr x y) :: S) := fun t kt => k t (Jvm.Free.XT.iushr X.here hx rfl hd rfl kt)
theorem Go.idiv {x y : Int32} (k : Go p e below m W T pc L (.int y :: .int x :: S)) (X : Stand p l e R s m args below meth c T locs cells slots) (hx : p.tables.exec = Jvm.exec) (hd : decode c.code pc = .ok (.idiv, 1)) (hy : y ≠ 0) : Go p e below m W T (pc + 1) L (.int (x / y) :: S) := fun t kt => k t (Jvm.Free.XS.idiv X.here hx rfl hd rfl hy kt)
theorem Go.irem {x y : Int32} (k : Go p e below m W T pc L (.int y :: .int x :: S)) (X : Stand p l e R s m args below meth c T locs cells slots) (hx : p.tables.exec = Jvm.exec) (hd : decode c.code pc = .ok (.irem, 1)) (hy : y ≠ 0) : Go p e below m W T (pc + 1) L (.int (x % y) :: S) := fun t kt => k t (Jvm.RoadKit.iremM X hx rfl hd rfl hy kt)
theorem Go.ineg {x : Int32} (k : Go p e below m W T pc L (.int x :: S)) (X : Stand p l e R s m args below meth c T locs cells slots) (hx : p.tables.exec = Jvm.exec) (hd : decode c.code pc = .ok (.ineg, 1)) : Go p e below m W T (pc + 1) L (.int (-x) :: S) := fun t kt => k t (Jvm.Free.XS.ineg X.here hx rfl hd rfl kt)
theorem Go.ladd {x y : Int64} (k : Go p e below m W T pc L (.long y :: .long x :: S)) (X : Stand p l e R s m args below meth c T locs cells slots) (hx : p.tables.exec = Jvm.exec) (hd : decode c.code pc = .ok (.ladd, 1)) : Go p e below m W T (pc + 1) L (.long (x + y) :: S) := fun t kt => k t (Jvm.Free.XT.ladd X.here hx rfl hd rfl kt)
theorem Go.lsub {x y : Int64} (k : Go p e below m W T pc L (.long y :: .long x :: S)) (X : Stand p l e R s m args below meth c T locs cells slots) (hx : p.tables.exec = Jvm.exec) (hd : decode c.code pc = .ok (.lsub, 1)) : Go p e below m W T (pc + 1) L (.long (x - y) :: S) := fun t kt => k t (Jvm.Free.XT.lsub X.here hx rfl hd rfl kt)
theorem Go.lmul {x y : Int64} (k : Go p e below m W T pc L (.long y :: .long x :: S)) (X : Stand p l e R s m args below meth c T locs cells slots) (hx : p.tables.exec = Jvm.exec) (hd : decode c.code pc = .ok (.lmul, 1)) : Go p e below m W T (pc + 1) L (.long (x * y) :: S) := fun t kt => k t (Jvm.Free.XT.lmul X.here hx rfl hd rfl kt)
theorem Go.land {x y : Int64} (k : Go p e below m W T pc L (.long y :: .long x :: S)) (X : Stand p l e R s m args below meth c T locs cells slots) (hx : p.tables.exec = Jvm.exec) (hd : decode c.code pc = .ok (.land, 1)) : Go p e below m W T (pc + 1) L (.long (x &&& y) :: S) := fun t kt => k t (Jvm.Free.XT.land X.here hx rfl hd rfl kt)
theorem Go.lor {x y : Int64} (k : Go p e below m W T pc L (.long y :: .long x :: S)) (X : Stand p l e R s m args below meth c T locs cells slots) (hx : p.tables.exec = Jvm.exec) (hd : decode c.code pc = .ok (.lor, 1)) : Go p e below m W T (pc + 1) L (.long (x ||| y) :: S) := fun t kt => k t (Jvm.Free.XT.lor X.here hx rfl hd rfl kt)
theorem Go.lxor {x y : Int64} (k : Go p e below m W T pc L (.long y :: .long x :: S)) (X : Stand p l e R s m args below meth c T locs cells slots) (hx : p.tables.exec = Jvm.exec) (hd : decode c.code pc = .ok (.lxor, 1)) : Go p e below m W T (pc + 1) L (.long (x ^^^ y) :: S) := fun t kt => k t (Jvm.Free.XT.lxor X.here hx rfl hd rfl kt)
theorem Go.lshl {x : Int64} {y : Int32} (k : Go p e below m W T pc L (.int y :: .long x :: S)) (X : Stand p l e R s m args below meth c T locs cells slots) (hx : p.tables.exec = Jvm.exec) (hd : decode c.code pc = .ok (.lshl, 1)) : Go p e below m W T (pc + 1) L (.long (x <<< (y.toInt64 &&& 63)) :: S) := fun t kt => k t (Jvm.Free.XT.lshl X.here hx rfl hd rfl kt)
theorem Go.lshr {x : Int64} {y : Int32} (k : Go p e below m W T pc L (.int y :: .long x :: S)) (X : Stand p l e R s m args below meth c T locs cells slots) (hx : p.tables.exec = Jvm.exec) (hd : decode c.code pc = .ok (.lshr, 1)) : Go p e below m W T (pc + 1) L (.long (x >>> (y.toInt64 &&& 63)) :: S) := fun t kt => k t (Jvm.Free.XT.lshr X.here hx rfl hd rfl kt)
theorem Go.lushr {x : Int64} {y : Int32} (k : Go p e below m W T pc L (.int y :: .long x :: S)) (X : Stand p l e R s m args below meth c T locs cells slots) (hx : p.tables.exec = Jvm.exec) (hd : decode c.code pc = .ok (.lushr, 1)) : Go p e below m W T (pc + 1) L (.long (XT.ushrL x y) :: S) := fun t kt => k t (Jvm.Free.XT.lushr X.here hx rfl hd rfl kt)
theorem Go.i2l {x : Int32} (k : Go p e below m W T pc L (.int x :: S)) (X : Stand p l e R s m args below meth c T locs cells slots) (hx : p.tables.exec = Jvm.exec) (hd : decode c.code pc = .ok (.i2l, 1)) : Go p e below m W T (pc + 1) L (.long x.toInt64 :: S) := fun t kt => k t (Jvm.Free.XT.i2l X.here hx rfl hd rfl kt)
theorem Go.l2i {x : Int64} (k : Go p e below m W T pc L (.long x :: S)) (X : Stand p l e R s m args below meth c T locs cells slots) (hx : p.tables.exec = Jvm.exec) (hd : decode c.code pc = .ok (.l2i, 1)) : Go p e below m W T (pc + 1) L (.int x.toInt32 :: S) := fun t kt => k t (Jvm.Free.XT.l2i X.here hx rfl hd rfl kt)
theorem Go.i2b {x : Int32} (k : Go p e below m W T pc L (.int x :: S)) (X : Stand p l e R s m args below meth c T locs cells slots) (hx : p.tables.exec = Jvm.exec) (hd : decode c.code pc = .ok (.i2b, 1)) : Go p e below m W T (pc + 1) L (.int x.toInt8.toInt32 :: S) := fun t kt => k t (Jvm.Free.XT.i2b X.here hx rfl hd rfl kt)
theorem Go.i2c {x : Int32} (k : Go p e below m W T pc L (.int x :: S)) (X : Stand p l e R s m args below meth c T locs cells slots) (hx : p.tables.exec = Jvm.exec) (hd : decode c.code pc = .ok (.i2c, 1)) : Go p e below m W T (pc + 1) L (.int x.toUInt32.toUInt16.toUInt32.toInt32 :: S) := fun t kt => k t (Jvm.Free.XT.i2c X.here hx rfl hd rfl kt)
theorem Go.lcmp {x y : Int64} (k : Go p e below m W T pc L (.long y :: .long x :: S)) (X : Stand p l e R s m args below meth c T locs cells slots) (hx : p.tables.exec = Jvm.exec) (hd : decode c.code pc = .ok (.lcmp, 1)) : Go p e below m W T (pc + 1) L (.int (XT.cmpL x y) :: S) := fun t kt => k t (Jvm.Free.XT.lcmp X.here hx rfl hd rfl kt)
theorem Go.dup {x : Value} (k : Go p e below m W T pc L (x :: S)) (X : Stand p l e R s m args below meth c T locs cells slots) (hx : p.tables.exec = Jvm.exec) (hd : decode c.code pc = .ok (.dup, 1)) (h1 : x.category = 1) : Go p e below m W T (pc + 1) L (x :: x :: S) := fun t kt => k t (Jvm.Free.XS.dup X.here hx rfl hd rfl h1 kt)
theorem Go.pop {x : Value} (k : Go p e below m W T pc L (x :: S)) (X : Stand p l e R s m args below meth c T locs cells slots) (hx : p.tables.exec = Jvm.exec) (hd : decode c.code pc = .ok (.pop, 1)) (h1 : x.category = 1) : Go p e below m W T (pc + 1) L S := fun t kt => k t (Jvm.Free.XT.pop X.here hx rfl hd rfl h1 kt)
theorem Go.dupX1 {x y : Value} (k : Go p e below m W T pc L (x :: y :: S)) (X : Stand p l e R s m args below meth c T locs cells slots) (hx : p.tables.exec = Jvm.exec) (hd : decode c.code pc = .ok (.dup_x1, 1)) (h1 : x.category = 1) (h2 : y.category = 1) : Go p e below m W T (pc + 1) L (x :: y :: x :: S) := fun t kt => k t (Jvm.Free.XT.dupX1 X.here hx rfl hd rfl h1 h2 kt)
theorem Go.dup2 {x y : Value} (k : Go p e below m W T pc L (x :: y :: S)) (X : Stand p l e R s m args below meth c T locs cells slots) (hx : p.tables.exec = Jvm.exec) (hd : decode c.code pc = .ok (.dup2, 1)) (h1 : x.category = 1) (h2 : y.category = 1) : Go p e below m W T (pc + 1) L (x :: y :: x :: y :: S) := fun t kt => k t (Jvm.Free.XT.dup2 X.here hx rfl hd rfl h1 h2 kt)
theorem Go.goto {o : Int} {pc' : Nat} (k : Go p e below m W T pc L S) (X : Stand p l e R s m args below meth c T locs cells slots) (hx : p.tables.exec = Jvm.exec) (hd : decode c.code pc = .ok (.goto o, 3)) (ho : 0 ≤ (pc : Int) + o) (hp : ((pc : Int) + o).toNat = pc') : Go p e below m W T pc' L S := fun t kt => k t (Jvm.Free.XS.goto X.here hx rfl rfl hd ho hp kt)
theorem Go.ifYes {cd : ClassFile.Cond} {o : Int} {pc' : Nat} {x : Int32} (k : Go p e below m W T pc L (.int x :: S)) (X : Stand p l e R s m args below meth c T locs cells slots) (hx : p.tables.exec = Jvm.exec) (hd : decode c.code pc = .ok (.ifCond cd o, 3)) (hc : ifCond.holds cd x = true) (ho : 0 ≤ (pc : Int) + o) (hp : ((pc : Int) + o).toNat = pc') : Go p e below m W T pc' L S := fun t kt => k t (Jvm.Free.XS.ifYes X.here hx rfl rfl hd rfl hc ho hp kt)
theorem Go.ifNo {cd : ClassFile.Cond} {o : Int} {x : Int32} (k : Go p e below m W T pc L (.int x :: S)) (X : Stand p l e R s m args below meth c T locs cells slots) (hx : p.tables.exec = Jvm.exec) (hd : decode c.code pc = .ok (.ifCond cd o, 3)) (hc : ifCond.holds cd x = false) : Go p e below m W T (pc + 3) L S := fun t kt => k t (Jvm.Free.XS.ifNo X.here hx rfl hd rfl hc kt)
theorem Go.icmpYes {cd : ClassFile.Cond} {o : Int} {pc' : Nat} {x y : Int32} (k : Go p e below m W T pc L (.int y :: .int x :: S)) (X : Stand p l e R s m args below meth c T locs cells slots) (hx : p.tables.exec = Jvm.exec) (hd : decode c.code pc = .ok (.if_icmp cd o, 3)) (hc : if_icmp.holds cd x y = true) (ho : 0 ≤ (pc : Int) + o) (hp : ((pc : Int) + o).toNat = pc') : Go p e below m W T pc' L S := fun t kt => k t (Jvm.Free.XS.icmpYes X.here hx rfl rfl hd rfl hc ho hp kt)
theorem Go.icmpNo {cd : ClassFile.Cond} {o : Int} {x y : Int32} (k : Go p e below m W T pc L (.int y :: .int x :: S)) (X : Stand p l e R s m args below meth c T locs cells slots) (hx : p.tables.exec = Jvm.exec) (hd : decode c.code pc = .ok (.if_icmp cd o, 3)) (hc : if_icmp.holds cd x y = false) : Go p e below m W T (pc + 3) L S := fun t kt => k t (Jvm.Free.XS.icmpNo X.here hx rfl hd rfl hc kt)
theorem Go.nullYes {o : Int} {pc' : Nat} {v : Value} (k : Go p e below m W T pc L (v :: S)) (X : Stand p l e R s m args below meth c T locs cells slots) (hx : p.tables.exec = Jvm.exec) (hd : decode c.code pc = .ok (.ifnull o, 3)) (hv : v = .null) (ho : 0 ≤ (pc : Int) + o) (hp : ((pc : Int) + o).toNat = pc') : Go p e below m W T pc' L S := fun t kt => k t (Jvm.Free.XT.nullYes X.here hx rfl rfl hd rfl hv ho hp kt)
theorem Go.nullNo {o : Int} {v : Value} (k : Go p e below m W T pc L (v :: S)) (X : Stand p l e R s m args below meth c T locs cells slots) (hx : p.tables.exec = Jvm.exec) (hd : decode c.code pc = .ok (.ifnull o, 3)) (hr : v.isRef = true) (hv : ¬ v = .null) : Go p e below m W T (pc + 3) L S := fun t kt => k t (Jvm.Free.XT.nullNo X.here hx rfl hd rfl hr hv kt)
theorem Go.nonnullYes {o : Int} {pc' : Nat} {v : Value} (k : Go p e below m W T pc L (v :: S)) (X : Stand p l e R s m args below meth c T locs cells slots) (hx : p.tables.exec = Jvm.exec) (hd : decode c.code pc = .ok (.ifnonnull o, 3)) (hr : v.isRef = true) (hv : ¬ v = .null) (ho : 0 ≤ (pc : Int) + o) (hp : ((pc : Int) + o).toNat = pc') : Go p e below m W T pc' L S := fun t kt => k t (Jvm.Free.XT.nonnullYes X.here hx rfl rfl hd rfl hr hv ho hp kt)
theorem Go.nonnullNo {o : Int} {v : Value} (k : Go p e below m W T pc L (v :: S)) (X : Stand p l e R s m args below meth c T locs cells slots) (hx : p.tables.exec = Jvm.exec) (hd : decode c.code pc = .ok (.ifnonnull o, 3)) (hv : v = .null) : Go p e below m W T (pc + 3) L S := fun t kt => k t (Jvm.Free.XT.nonnullNo X.here hx rfl hd rfl hv kt)
theorem Go.acmpYes {cd : ClassFile.ACond} {o : Int} {pc' : Nat} {x y : Value} (k : Go p e below m W T pc L (y :: x :: S)) (X : Stand p l e R s m args below meth c T locs cells slots) (hx : p.tables.exec = Jvm.exec) (hd : decode c.code pc = .ok (.if_acmp cd o, 3)) (h1 : x.isRef = true) (h2 : y.isRef = true) (hc : XT.acmp cd x y = true) (ho : 0 ≤ (pc : Int) + o) (hp : ((pc : Int) + o).toNat = pc') : Go p e below m W T pc' L S := fun t kt => k t (Jvm.Free.XT.acmpYes X.here hx rfl rfl hd rfl h1 h2 hc ho hp kt)
theorem Go.acmpNo {cd : ClassFile.ACond} {o : Int} {x y : Value} (k : Go p e below m W T pc L (y :: x :: S)) (X : Stand p l e R s m args below meth c T locs cells slots) (hx : p.tables.exec = Jvm.exec) (hd : decode c.code pc = .ok (.if_acmp cd o, 3)) (h1 : x.isRef = true) (h2 : y.isRef = true) (hc : XT.acmp cd x y = false) : Go p e below m W T (pc + 3) L S := fun t kt => k t (Jvm.Free.XT.acmpNo X.here hx rfl hd rfl h1 h2 hc kt)
theorem Go.tsw {dflt low high : Int} {offs : Array Int} {len : Nat} {o : Int} {pc' : Nat} {i : Int32} (k : Go p e below m W T pc L (.int i :: S)) (X : Stand p l e R s m args below meth c T locs cells slots) (hx : p.tables.exec = Jvm.exec) (hd : decode c.code pc = .ok (.tableswitch dflt low high offs, len)) (hin : ¬ (i.toInt < low ∨ i.toInt > high)) (hoff : offs[(i.toInt - low).toNat]? = some o) (ho : 0 ≤ (pc : Int) + o) (hp : ((pc : Int) + o).toNat = pc') : Go p e below m W T pc' L S := fun t kt => k t (Jvm.Free.XS.tswIn X.here hx rfl rfl hd rfl hin hoff ho hp kt)
theorem Go.ldcI {own : String} {index : Nat} {v : Int32} (k : Go p e below m W T pc L S) (X : Stand p l e R s m args below meth c T locs cells slots) (hx : p.tables.exec = Jvm.exec) (hZ : Z.Warmed39 s.vm) (hown : s.vm.findClass own = some m.cls) (w : (Cond.constant own index v).before a0 Z = true) (hd : decode c.code pc = .ok (.ldc index, 2)) : Go p e below m W T (pc + 2) L (.int v :: S) := fun t kt => k t (Jvm.Stand.ldcI X hx hown (mvT hZ w) rfl hd kt)
theorem Go.ldc2J {own : String} {index : Nat} {v : Int64} (k : Go p e below m W T pc L S) (X : Stand p l e R s m args below meth c T locs cells slots) (hx : p.tables.exec = Jvm.exec) (hZ : Z.Warmed39 s.vm) (hown : s.vm.findClass own = some m.cls) (w : (Cond.constantLong own index v).before a0 Z = true) (hd : decode c.code pc = .ok (.ldc2_w index, 3)) : Go p e below m W T (pc + 3) L (.long v :: S) := fun t kt => k t (Jvm.Stand.ldc2J X hx hown (mvT hZ w) rfl hd kt)
theorem Go.getF {own R0 O n d host : String} {index : Nat} {a : Addr} {v : Value} (k : Go p e below m W T pc L (.ref a :: S)) (X : Stand p l e R s m args below meth c T locs cells slots) (hx : p.tables.exec = Jvm.exec) (hZ : Z.Warmed39 s.vm) (hown : s.vm.findClass own = some m.cls) (w : (Cond.fieldLink own index R0 n d).before a0 Z = true ∨ (Cond.fieldLinkNest own index R0 n d host).before a0 Z = true) (via : Via Z R0 O n d) (eT : T.heap = h) (F : Fld Z h a O n d v) (hd : decode c.code pc = .ok (.getfield index, 3)) :
    ∃ T', Stand p l e R s m args below meth c T' locs cells slots ∧ T'.heap = h ∧ Go p e below m W T' (pc + 3) L (v :: S) := by
  obtain ⟨T', X', e', st⟩ := Jvm.RoadKit.getF X hx hZ hown w via eT F (g := mkF m pc L (.ref a :: S)) rfl rfl hd
  exact ⟨T', X', e', fun t kt => k t (st t kt)⟩
theorem Go.getS {own R0 O n d host : String} {index : Nat} {v : Value} (k : Go p e below m W T pc L S) (X : Stand p l e R s m args below meth c T locs cells slots) (hx : p.tables.exec = Jvm.exec) (hZ : Z.Warmed39 s.vm) (hown : s.vm.findClass own = some m.cls) (w : (Cond.fieldLink own index R0 n d).before a0 Z = true ∨ (Cond.fieldLinkNest own index R0 n d host).before a0 Z = true) (via : Via Z R0 O n d) (eT : T.heap = h) (F : Sta Z h O n d v) (hd : decode c.code pc = .ok (.getstatic index, 3)) :
    ∃ T', Stand p l e R s m args below meth c T' locs cells slots ∧ T'.heap = h ∧ Go p e below m W T' (pc + 3) L (v :: S) := by
  obtain ⟨T', X', e', st⟩ := Jvm.RoadKit.getS2 X hx hZ hown w via eT F (g := mkF m pc L S) rfl hd
  exact ⟨T', X', e', fun t kt => k t (st t kt)⟩
theorem Go.putF {own R0 O n d host C : String} {index kk : Nat} {ty : FieldType} {a : Addr} {v old : Value} (k : Go p e below m W T pc L (v :: .ref a :: S)) (X : Stand p l e R s m args below meth c T locs cells slots) (hx : p.tables.exec = Jvm.exec) (hZ : Z.Warmed39 s.vm) (hown : s.vm.findClass own = some m.cls) (w : (Cond.fieldLink own index R0 n d).before a0 Z = true ∨ (Cond.fieldLinkNest own index R0 n d host).before a0 Z = true) (via : Via Z R0 O n d) (eT : T.heap = h) (F : Fld Z h a O n d old) (E : Exa Z h a C)
    (Ly : (Cond.lays C O n d).before a0 Z = true ∨ ((Cond.laysFinal C O n d).before a0 Z = true ∧ own = O ∧ meth.name = "<init>")) (wi : (Cond.instantiable C kk).before a0 Z = true) (hty : parseFieldDescriptor d = some ty) (hn : narrow ty v = v) (hf : fits ty v = true) {n0 : Nat} (N : Fr n0 locs) (g0 : n0 ≤ a) (hd : decode c.code pc = .ok (.putfield index, 3)) :
    ∃ T' h' locs', Stand p l e R s m args below meth c T' locs' cells slots ∧ T'.heap = h' ∧ Wr h h' a (Jvm.RoadKit.slotOf Z O n d) v ∧ Fr n0 locs' ∧ Go p e below m W T' (pc + 3) L S := by
  obtain ⟨T', h', X', e', W', st⟩ := Jvm.RoadKit.putF X hx hZ hown w via eT F E Ly wi hty hn hf (g := mkF m pc L (v :: .ref a :: S)) rfl rfl hd
  exact ⟨T', h', _, X', e', W', Fr.snoc X' N g0, fun t kt => k t (st t kt)⟩
theorem Go.newO {own C : String} {index n cells' slots' : Nat} (k : Go p e below m W T pc L S) (X : Stand p l e R s m args below meth c T locs cells slots) (hx : p.tables.exec = Jvm.exec) (hZ : Z.Warmed39 s.vm) (hown : s.vm.findClass own = some m.cls) (w : (Cond.classLink own index C).before a0 Z = true) (wi : (Cond.instantiable C n).before a0 Z = true) (wz : (Cond.initialized C).before a0 Z = true) (eT : T.heap = h) (hd : decode c.code pc = .ok (.new index, 3)) (h1 : cells + 1 = cells') (h2 : slots + n = slots') (h3 : cells' ≤ R.cells) (h4 : slots' ≤ R.slots) :
    ∃ T' h' b, Stand p l e R s m args below meth c T' locs cells' slots' ∧ T'.heap = h' ∧ b = h.size ∧ Ext h h' ∧ Exa Z h' b C ∧ (∀ {O nm d : String} {ty : FieldType}, Laid Z a0 C O nm d → parseFieldDescriptor d = some ty → Fld Z h' b O nm d (defaultValue ty)) ∧ Go p e below m W T' (pc + 3) L (.ref b :: S) := by
  subst h1 h2
  obtain ⟨T', h', X', e', E', A', D', -, st⟩ := Jvm.RoadKit.newO X hx hZ hown w wi wz eT (g := mkF m pc L S) rfl hd h3 h4
  exact ⟨T', h', _, X', e', rfl, E', A', D', fun t kt => k t (st t kt)⟩
theorem Go.initO {own : String} {idx Wd : Nat} {a : Addr} (k : Go p e below m W T pc L (.ref a :: S)) (X : Stand p l e R s m args below meth c T locs cells slots) (hx : p.tables.exec = Jvm.exec) (hZ : Z.Warmed39 s.vm) (hown : s.vm.findClass own = some m.cls) (hsz : L.size = c.maxLocals) (w1 : (Cond.methodLink own idx Lib.objectInit).before a0 Z = true) (w2 : (Cond.instanceMethod Lib.objectInit).before a0 Z = true)
    (w3 : (Cond.code Lib.objectInit ⟨#[0xb1]⟩ 1 none).before a0 Z = true) (eT : T.heap = h) (hd : decode c.code pc = .ok (.invokespecial idx, 3)) (hW : (S.map fun v => v.category).sum ≤ Wd) (hf : 1 ≤ R.frames) (hl : Wd + 12 ≤ R.locals) :
    ∃ T', Stand p l e R s m args below meth c T' locs cells slots ∧ T'.heap = h ∧ Go p e below m W T' (pc + 3) L S := by
  obtain ⟨T', X', e', st⟩ := Jvm.RoadKit.initO X hx hZ hown w1 w2 w3 eT (g := mkF m pc L (.ref a :: S)) rfl hsz rfl hd hf (W := Wd) (by show 2 * 0 + _ ≤ _; rw [Nat.mul_zero, Nat.zero_add]; exact hW) hl
  exact ⟨T', X', e', fun t kt => k t (st t kt)⟩
theorem Go.virtB {own C : String} {index : Nat} {y z : MethodName} {Wd cells' slots' : Nat} {b : Addr} {argsL rest : List Value} {Q : Option Value → Heap → List Loc → Prop} {as' : Array Value} {ps : List FieldType} {r : Option FieldType} {rc rs : Nat}
    (k : Go p e below m W T pc L S) (X : Stand p l e R s m args below meth c T locs cells slots) (hx : p.tables.exec = Jvm.exec) (hZ : Z.Warmed39 s.vm) (hown : s.vm.findClass own = some m.cls) (hsz : L.size = c.maxLocals)
    (w1 : (Cond.methodLink own index y).before a0 Z = true) (w2 : (Cond.declares y).before a0 Z = true) (hnf : NotFace s y) (w3 : (Cond.selects C y z).before a0 Z = true) (w4 : (Cond.instanceMethod z).before a0 Z = true) (hd : decode c.code pc = .ok (.invokevirtual index, 3)) (hy : y.cls ≠ "java/lang/invoke/MethodHandle" ∧ y.cls ≠ "java/lang/invoke/VarHandle")
    (hK : Back l R p e below s args z 3 Wd (fun A a => a = as' ∧ A.U.heap = h ∧ A.cells + rc ≤ R.cells ∧ A.slots + rs ≤ R.slots) (fun A _ v B => ∃ L, Q v B.U.heap L ∧ B.locs = A.locs ++ L ∧ B.cells = A.cells + rc ∧ B.slots = A.slots + rs))
    (eT : T.heap = h) (E : Exa Z h b C) (hs : S = argsL.reverse ++ .ref b :: rest) (ha : (.ref b :: argsL).toArray = as') (hp : parseMethodDescriptor y.desc = some ⟨ps, r⟩) (hlen : argsL.length = ps.length) (hW : (rest.map fun v => v.category).sum ≤ Wd) (h1 : cells + rc = cells') (h2 : slots + rs = slots') (h3 : cells' ≤ R.cells) (h4 : slots' ≤ R.slots) :
    ∃ T' v L', Stand p l e R s m args below meth c T' (locs ++ L') cells' slots' ∧ Q v T'.heap L' ∧ Go p e below m W T' (pc + 3) L (v.toList ++ rest) := by
  subst hs h1 h2
  obtain ⟨cq, kq, qa, qb, qc⟩ := isOf hZ eT E
  obtain ⟨v, _, ⟨T', L', k', n'⟩, -, X', ⟨Lc, hQ, l1, y1, z1⟩, st⟩ := X.virtualBack hx (y := y) (z := z) hown (mvT hZ w1) (mvT hZ w2) hnf (mvT hZ w3) (mvT hZ w4) hy hK qa qc (g := mkF m pc L (argsL.reverse ++ .ref b :: rest)) rfl hsz (Steps.refl _) (argsL := argsL) (rest := rest) (lenOf hp hlen) rfl (by show 2 * 0 + _ ≤ _; rw [Nat.mul_zero, Nat.zero_add]; exact hW) hd (fun _ _ => ⟨ha, eT, h3, h4⟩)
  dsimp only [Pt.U, Pt.locs, Pt.cells, Pt.slots] at X' l1 y1 z1 st hQ
  subst l1 y1 z1
  exact ⟨T', v, Lc, X', hQ, fun t kt => k t (st.trans kt)⟩
theorem Go.virt {own C : String} {index : Nat} {y z : MethodName} {Wd cells' slots' : Nat} {b : Addr} {argsL rest : List Value} {Q : Option Value → Heap → List Loc → Prop} {as' : Array Value} {ps : List FieldType} {r : Option FieldType} {bytes : ByteArray} {maxL : Nat} {ret : Option FieldType} {rm : Room}
    (k : Go p e below m W T pc L S) (X : Stand p l e R s m args below meth c T locs cells slots) (hx : p.tables.exec = Jvm.exec) (hZ : Z.Warmed39 s.vm) (hown : s.vm.findClass own = some m.cls) (hsz : L.size = c.maxLocals)
    (w1 : (Cond.methodLink own index y).before a0 Z = true) (w2 : (Cond.declares y).before a0 Z = true) (hnf : NotFace s y) (w3 : (Cond.selects C y z).before a0 Z = true) (w4 : (Cond.instanceMethod z).before a0 Z = true) (wc : (Cond.code z bytes maxL ret).before a0 Z = true) (wz : (Cond.initialized z.cls).before a0 Z = true) (hd : decode c.code pc = .ok (.invokevirtual index, 3)) (hy : y.cls ≠ "java/lang/invoke/MethodHandle" ∧ y.cls ≠ "java/lang/invoke/VarHandle")
    (hM : MetFree l z (head1 [Cond.code z bytes maxL ret] rm) (fun a U => a = as' ∧ Z.Warmed39 U.vm ∧ U.heap = h) (fun _ _ _ _ _ => True) (fun _ U o U' => ∃ v L, o = .returned v ∧ Q v U'.heap L ∧ FrameEnd U o U' L rm.cells rm.slots))
    (eT : T.heap = h) (E : Exa Z h b C) (hs : S = argsL.reverse ++ .ref b :: rest) (ha : (.ref b :: argsL).toArray = as') (hp : parseMethodDescriptor y.desc = some ⟨ps, r⟩) (hlen : argsL.length = ps.length) (hW : (rest.map fun v => v.category).sum ≤ Wd) (hf : rm.frames + 1 ≤ R.frames) (hl : Wd + (maxL + 11) + rm.locals ≤ R.locals) (h1 : cells + rm.cells = cells') (h2 : slots + rm.slots = slots') (h3 : cells' ≤ R.cells) (h4 : slots' ≤ R.slots) :
    ∃ T' v L', Stand p l e R s m args below meth c T' (locs ++ L') cells' slots' ∧ Q v T'.heap L' ∧ Go p e below m W T' (pc + 3) L (v.toList ++ rest) :=
  Go.virtB (Wd := Wd) k X hx hZ hown hsz w1 w2 hnf w3 w4 hd hy (backOf (W := Wd) hM hZ wc wz hf hl) eT E hs ha hp hlen hW h1 h2 h3 h4
theorem Go.virtUpB {own C owner : String} {index : Nat} {y z : MethodName} {Wd cells' slots' : Nat} {b : Addr} {argsL rest : List Value} {Q : Option Value → Heap → List Loc → Prop} {as' : Array Value} {ps : List FieldType} {r : Option FieldType} {rc rs : Nat}
    (k : Go p e below m W T pc L S) (X : Stand p l e R s m args below meth c T locs cells slots) (hx : p.tables.exec = Jvm.exec) (hZ : Z.Warmed39 s.vm) (hown : s.vm.findClass own = some m.cls) (hsz : L.size = c.maxLocals)
    (w1 : (Cond.methodLink own index y).before a0 Z = true) (w2 : (Cond.sameMethod y.cls owner y.name y.desc).before a0 Z = true) (w5 : (Cond.declares ⟨owner, y.name, y.desc⟩).before a0 Z = true) (w3 : (Cond.selects C y z).before a0 Z = true) (w4 : (Cond.instanceMethod z).before a0 Z = true) (hd : decode c.code pc = .ok (.invokevirtual index, 3)) (hy : owner ≠ "java/lang/invoke/MethodHandle" ∧ owner ≠ "java/lang/invoke/VarHandle")
    (hK : Back l R p e below s args z 3 Wd (fun A a => a = as' ∧ A.U.heap = h ∧ A.cells + rc ≤ R.cells ∧ A.slots + rs ≤ R.slots) (fun A _ v B => ∃ L, Q v B.U.heap L ∧ B.locs = A.locs ++ L ∧ B.cells = A.cells + rc ∧ B.slots = A.slots + rs))
    (eT : T.heap = h) (E : Exa Z h b C) (hs : S = argsL.reverse ++ .ref b :: rest) (ha : (.ref b :: argsL).toArray = as') (hp : parseMethodDescriptor y.desc = some ⟨ps, r⟩) (hlen : argsL.length = ps.length) (hW : (rest.map fun v => v.category).sum ≤ Wd) (h1 : cells + rc = cells') (h2 : slots + rs = slots') (h3 : cells' ≤ R.cells) (h4 : slots' ≤ R.slots) :
    ∃ T' v L', Stand p l e R s m args below meth c T' (locs ++ L') cells' slots' ∧ Q v T'.heap L' ∧ Go p e below m W T' (pc + 3) L (v.toList ++ rest) := by
  subst hs h1 h2
  obtain ⟨cq, kq, qa, qb, qc⟩ := isOf hZ eT E
  obtain ⟨v, _, ⟨T', L', k', n'⟩, -, X', ⟨Lc, hQ, l1, y1, z1⟩, st⟩ := X.virtualBackUp hx (x := y) (y := z) (owner := owner) hown (mvT hZ w1) (mvT hZ w2) (mvT hZ w5) hy (mvT hZ w3) (mvT hZ w4) hK qa qc (g := mkF m pc L (argsL.reverse ++ .ref b :: rest)) rfl hsz (Steps.refl _) (argsL := argsL) (rest := rest) (lenOf hp hlen) rfl (by show 2 * 0 + _ ≤ _; rw [Nat.mul_zero, Nat.zero_add]; exact hW) hd (fun _ _ => ⟨ha, eT, h3, h4⟩)
  dsimp only [Pt.U, Pt.locs, Pt.cells, Pt.slots] at X' l1 y1 z1 st hQ
  subst l1 y1 z1
  exact ⟨T', v, Lc, X', hQ, fun t kt => k t (st.trans kt)⟩
theorem Go.virtUp {own C owner : String} {index : Nat} {y z : MethodName} {Wd cells' slots' : Nat} {b : Addr} {argsL rest : List Value} {Q : Option Value → Heap → List Loc → Prop} {as' : Array Value} {ps : List FieldType} {r : Option FieldType} {bytes : ByteArray} {maxL : Nat} {ret : Option FieldType} {rm : Room}
    (k : Go p e below m W T pc L S) (X : Stand p l e R s m args below meth c T locs cells slots) (hx : p.tables.exec = Jvm.exec) (hZ : Z.Warmed39 s.vm) (hown : s.vm.findClass own = some m.cls) (hsz : L.size = c.maxLocals)
    (w1 : (Cond.methodLink own index y).before a0 Z = true) (w2 : (Cond.sameMethod y.cls owner y.name y.desc).before a0 Z = true) (w5 : (Cond.declares ⟨owner, y.name, y.desc⟩).before a0 Z = true) (w3 : (Cond.selects C y z).before a0 Z = true) (w4 : (Cond.instanceMethod z).before a0 Z = true) (wc : (Cond.code z bytes maxL ret).before a0 Z = true) (wz : (Cond.initialized z.cls).before a0 Z = true) (hd : decode c.code pc = .ok (.invokevirtual index, 3)) (hy : owner ≠ "java/lang/invoke/MethodHandle" ∧ owner ≠ "java/lang/invoke/VarHandle")
    (hM : MetFree l z (head1 [Cond.code z bytes maxL ret] rm) (fun a U => a = as' ∧ Z.Warmed39 U.vm ∧ U.heap = h) (fun _ _ _ _ _ => True) (fun _ U o U' => ∃ v L, o = .returned v ∧ Q v U'.heap L ∧ FrameEnd U o U' L rm.cells rm.slots))
    (eT : T.heap = h) (E : Exa Z h b C) (hs : S = argsL.reverse ++ .ref b :: rest) (ha : (.ref b :: argsL).toArray = as') (hp : parseMethodDescriptor y.desc = some ⟨ps, r⟩) (hlen : argsL.length = ps.length) (hW : (rest.map fun v => v.category).sum ≤ Wd) (hf : rm.frames + 1 ≤ R.frames) (hl : Wd + (maxL + 11) + rm.locals ≤ R.locals) (h1 : cells + rm.cells = cells') (h2 : slots + rm.slots = slots') (h3 : cells' ≤ R.cells) (h4 : slots' ≤ R.slots) :
    ∃ T' v L', Stand p l e R s m args below meth c T' (locs ++ L') cells' slots' ∧ Q v T'.heap L' ∧ Go p e below m W T' (pc + 3) L (v.toList ++ rest) :=
  Go.virtUpB (Wd := Wd) (owner := owner) k X hx hZ hown hsz w1 w2 w5 w3 w4 hd hy (backOf (W := Wd) hM hZ wc wz hf hl) eT E hs ha hp hlen hW h1 h2 h3 h4
theorem Go.ifaceB {own C : String} {index count : Nat} {y z : MethodName} {Wd cells' slots' : Nat} {b : Addr} {argsL rest : List Value} {Q : Option Value → Heap → List Loc → Prop} {as' : Array Value} {ps : List FieldType} {r : Option FieldType} {rc rs : Nat}
    (k : Go p e below m W T pc L S) (X : Stand p l e R s m args below meth c T locs cells slots) (hx : p.tables.exec = Jvm.exec) (hZ : Z.Warmed39 s.vm) (hown : s.vm.findClass own = some m.cls) (hsz : L.size = c.maxLocals)
    (w1 : (Cond.methodLink own index y).before a0 Z = true) (w2 : (Cond.declares y).before a0 Z = true) (w5 : (Cond.interfaceMethod y.cls y.cls y.name y.desc).before args s = true) (w3 : (Cond.selects C y z).before a0 Z = true) (w4 : (Cond.instanceMethod z).before a0 Z = true) (w6 : (Cond.publicMethod z).before a0 Z = true) (w7 : (Cond.unhidden C y.name y.desc).before a0 Z = true) (w8 : (Cond.castable C y.cls).before a0 Z = true) (hd : decode c.code pc = .ok (.invokeinterface index count, 5)) (hy : y.cls ≠ "java/lang/invoke/MethodHandle" ∧ y.cls ≠ "java/lang/invoke/VarHandle")
    (hK : Back l R p e below s args z 5 Wd (fun A a => a = as' ∧ A.U.heap = h ∧ A.cells + rc ≤ R.cells ∧ A.slots + rs ≤ R.slots) (fun A _ v B => ∃ L, Q v B.U.heap L ∧ B.locs = A.locs ++ L ∧ B.cells = A.cells + rc ∧ B.slots = A.slots + rs))
    (eT : T.heap = h) (E : Exa Z h b C) (hs : S = argsL.reverse ++ .ref b :: rest) (ha : (.ref b :: argsL).toArray = as') (hp : parseMethodDescriptor y.desc = some ⟨ps, r⟩) (hlen : argsL.length = ps.length) (hW : (rest.map fun v => v.category).sum ≤ Wd) (h1 : cells + rc = cells') (h2 : slots + rs = slots') (h3 : cells' ≤ R.cells) (h4 : slots' ≤ R.slots) :
    ∃ T' v L', Stand p l e R s m args below meth c T' (locs ++ L') cells' slots' ∧ Q v T'.heap L' ∧ Go p e below m W T' (pc + 5) L (v.toList ++ rest) := by
  subst hs h1 h2
  obtain ⟨cq, kq, qa, qb, qc⟩ := isOf hZ eT E
  obtain ⟨v, _, ⟨T', L', k', n'⟩, -, X', ⟨Lc, hQ, l1, y1, z1⟩, st⟩ := X.interfaceBack hx (xi := y) (y := z) (count := count) hown (mvT hZ w1) (mvT hZ w2) w5 (mvT hZ w3) (mvT hZ w4) (mvT hZ w6) (mvT hZ w7) (mvT hZ w8) hy hK qa qb qc (g := mkF m pc L (argsL.reverse ++ .ref b :: rest)) rfl hsz (Steps.refl _) (argsL := argsL) (rest := rest) (lenOf hp hlen) rfl (by show 2 * 0 + _ ≤ _; rw [Nat.mul_zero, Nat.zero_add]; exact hW) hd (fun _ _ => ⟨ha, eT, h3, h4⟩)
  dsimp only [Pt.U, Pt.locs, Pt.cells, Pt.slots] at X' l1 y1 z1 st hQ
  subst l1 y1 z1
  exact ⟨T', v, Lc, X', hQ, fun t kt => k t (st.trans kt)⟩
theorem Go.iface {own C : String} {index count : Nat} {y z : MethodName} {Wd cells' slots' : Nat} {b : Addr} {argsL rest : List Value} {Q : Option Value → Heap → List Loc → Prop} {as' : Array Value} {ps : List FieldType} {r : Option FieldType} {bytes : ByteArray} {maxL : Nat} {ret : Option FieldType} {rm : Room}
    (k : Go p e below m W T pc L S) (X : Stand p l e R s m args below meth c T locs cells slots) (hx : p.tables.exec = Jvm.exec) (hZ : Z.Warmed39 s.vm) (hown : s.vm.findClass own = some m.cls) (hsz : L.size = c.maxLocals)
    (w1 : (Cond.methodLink own index y).before a0 Z = true) (w2 : (Cond.declares y).before a0 Z = true) (w5 : (Cond.interfaceMethod y.cls y.cls y.name y.desc).before args s = true) (w3 : (Cond.selects C y z).before a0 Z = true) (w4 : (Cond.instanceMethod z).before a0 Z = true) (w6 : (Cond.publicMethod z).before a0 Z = true) (w7 : (Cond.unhidden C y.name y.desc).before a0 Z = true) (w8 : (Cond.castable C y.cls).before a0 Z = true) (wc : (Cond.code z bytes maxL ret).before a0 Z = true) (wz : (Cond.initialized z.cls).before a0 Z = true) (hd : decode c.code pc = .ok (.invokeinterface index count, 5)) (hy : y.cls ≠ "java/lang/invoke/MethodHandle" ∧ y.cls ≠ "java/lang/invoke/VarHandle")
    (hM : MetFree l z (head1 [Cond.code z bytes maxL ret] rm) (fun a U => a = as' ∧ Z.Warmed39 U.vm ∧ U.heap = h) (fun _ _ _ _ _ => True) (fun _ U o U' => ∃ v L, o = .returned v ∧ Q v U'.heap L ∧ FrameEnd U o U' L rm.cells rm.slots))
    (eT : T.heap = h) (E : Exa Z h b C) (hs : S = argsL.reverse ++ .ref b :: rest) (ha : (.ref b :: argsL).toArray = as') (hp : parseMethodDescriptor y.desc = some ⟨ps, r⟩) (hlen : argsL.length = ps.length) (hW : (rest.map fun v => v.category).sum ≤ Wd) (hf : rm.frames + 1 ≤ R.frames) (hl : Wd + (maxL + 11) + rm.locals ≤ R.locals) (h1 : cells + rm.cells = cells') (h2 : slots + rm.slots = slots') (h3 : cells' ≤ R.cells) (h4 : slots' ≤ R.slots) :
    ∃ T' v L', Stand p l e R s m args below meth c T' (locs ++ L') cells' slots' ∧ Q v T'.heap L' ∧ Go p e below m W T' (pc + 5) L (v.toList ++ rest) :=
  Go.ifaceB (Wd := Wd) k X hx hZ hown hsz w1 w2 w5 w3 w4 w6 w7 w8 hd hy (backOf (W := Wd) hM hZ wc wz hf hl) eT E hs ha hp hlen hW h1 h2 h3 h4
theorem Go.specB {own : String} {index : Nat} {y : MethodName} {bytes : ByteArray} {maxL : Nat} {Wd cells' slots' : Nat} {b : Addr} {argsL rest : List Value} {Q : Option Value → Heap → List Loc → Prop} {as' : Array Value} {ps : List FieldType} {r : Option FieldType} {rc rs : Nat}
    (k : Go p e below m W T pc L S) (X : Stand p l e R s m args below meth c T locs cells slots) (hx : p.tables.exec = Jvm.exec) (hZ : Z.Warmed39 s.vm) (hown : s.vm.findClass own = some m.cls) (hsz : L.size = c.maxLocals)
    (hy1 : y.name = "<init>") (w1 : (Cond.methodLink own index y).before a0 Z = true) (w2 : (Cond.instanceMethod y).before a0 Z = true) (wc : (Cond.code y bytes maxL none).before a0 Z = true) (hd : decode c.code pc = .ok (.invokespecial index, 3)) (hy : y.cls ≠ "java/lang/invoke/MethodHandle" ∧ y.cls ≠ "java/lang/invoke/VarHandle")
    (hK : Back l R p e below s args y 3 Wd (fun A a => a = as' ∧ A.U.heap = h ∧ A.cells + rc ≤ R.cells ∧ A.slots + rs ≤ R.slots) (fun A _ v B => ∃ L, Q v B.U.heap L ∧ B.locs = A.locs ++ L ∧ B.cells = A.cells + rc ∧ B.slots = A.slots + rs))
    (eT : T.heap = h) (hs : S = argsL.reverse ++ .ref b :: rest) (ha : (.ref b :: argsL).toArray = as') (hp : parseMethodDescriptor y.desc = some ⟨ps, r⟩) (hlen : argsL.length = ps.length) (hW : (rest.map fun v => v.category).sum ≤ Wd) (h1 : cells + rc = cells') (h2 : slots + rs = slots') (h3 : cells' ≤ R.cells) (h4 : slots' ≤ R.slots) :
    ∃ T' v L', Stand p l e R s m args below meth c T' (locs ++ L') cells' slots' ∧ Q v T'.heap L' ∧ Go p e below m W T' (pc + 3) L (v.toList ++ rest) := by
  subst hs h1 h2
  obtain ⟨v, _, ⟨T', L', k', n'⟩, -, X', ⟨Lc, hQ, l1, y1, z1⟩, st⟩ := X.specialBack hx (y := y) hy1 hown (mvT hZ w1) (mvT hZ w2) (mvT hZ wc) hy hK (g := mkF m pc L (argsL.reverse ++ .ref b :: rest)) rfl hsz (Steps.refl _) (a := b) (argsL := argsL) (rest := rest) (lenOf hp hlen) rfl (by show 2 * 0 + _ ≤ _; rw [Nat.mul_zero, Nat.zero_add]; exact hW) hd (fun _ _ => ⟨ha, eT, h3, h4⟩)
  dsimp only [Pt.U, Pt.locs, Pt.cells, Pt.slots] at X' l1 y1 z1 st hQ
  subst l1 y1 z1
  exact ⟨T', v, Lc, X', hQ, fun t kt => k t (st.trans kt)⟩
theorem Go.spec {own : String} {index : Nat} {y : MethodName} {bytes : ByteArray} {maxL : Nat} {Wd cells' slots' : Nat} {b : Addr} {argsL rest : List Value} {Q : Option Value → Heap → List Loc → Prop} {as' : Array Value} {ps : List FieldType} {r : Option FieldType} {rm : Room}
    (k : Go p e below m W T pc L S) (X : Stand p l e R s m args below meth c T locs cells slots) (hx : p.tables.exec = Jvm.exec) (hZ : Z.Warmed39 s.vm) (hown : s.vm.findClass own = some m.cls) (hsz : L.size = c.maxLocals)
    (hy1 : y.name = "<init>") (w1 : (Cond.methodLink own index y).before a0 Z = true) (w2 : (Cond.instanceMethod y).before a0 Z = true)  (wc : (Cond.code y bytes maxL none).before a0 Z = true) (wz : (Cond.initialized y.cls).before a0 Z = true) (hd : decode c.code pc = .ok (.invokespecial index, 3)) (hy : y.cls ≠ "java/lang/invoke/MethodHandle" ∧ y.cls ≠ "java/lang/invoke/VarHandle")
    (hM : MetFree l y (head1 [Cond.code y bytes maxL none] rm) (fun a U => a = as' ∧ Z.Warmed39 U.vm ∧ U.heap = h) (fun _ _ _ _ _ => True) (fun _ U o U' => ∃ v L, o = .returned v ∧ Q v U'.heap L ∧ FrameEnd U o U' L rm.cells rm.slots))
    (eT : T.heap = h) (hs : S = argsL.reverse ++ .ref b :: rest) (ha : (.ref b :: argsL).toArray = as') (hp : parseMethodDescriptor y.desc = some ⟨ps, r⟩) (hlen : argsL.length = ps.length) (hW : (rest.map fun v => v.category).sum ≤ Wd) (hf : rm.frames + 1 ≤ R.frames) (hl : Wd + (maxL + 11) + rm.locals ≤ R.locals) (h1 : cells + rm.cells = cells') (h2 : slots + rm.slots = slots') (h3 : cells' ≤ R.cells) (h4 : slots' ≤ R.slots) :
    ∃ T' v L', Stand p l e R s m args below meth c T' (locs ++ L') cells' slots' ∧ Q v T'.heap L' ∧ Go p e below m W T' (pc + 3) L (v.toList ++ rest) :=
  Go.specB (Wd := Wd) k X hx hZ hown hsz hy1 w1 w2 wc hd hy (backOf (W := Wd) hM hZ wc wz hf hl) eT hs ha hp hlen hW h1 h2 h3 h4
theorem Go.statB {own : String} {index : Nat} {y : MethodName} {bytes : ByteArray} {maxL : Nat} {ret : Option FieldType} {Wd cells' slots' : Nat} {argsL rest : List Value} {Q : Option Value → Heap → List Loc → Prop} {as' : Array Value} {ps : List FieldType} {r : Option FieldType} {rc rs : Nat}
    (k : Go p e below m W T pc L S) (X : Stand p l e R s m args below meth c T locs cells slots) (hx : p.tables.exec = Jvm.exec) (hZ : Z.Warmed39 s.vm) (hown : s.vm.findClass own = some m.cls) (hsz : L.size = c.maxLocals)
    (w1 : (Cond.methodLink own index y).before a0 Z = true) (w2 : (Cond.static y).before a0 Z = true) (wc : (Cond.code y bytes maxL ret).before a0 Z = true) (wz : (Cond.initialized y.cls).before a0 Z = true) (hd : decode c.code pc = .ok (.invokestatic index, 3)) (hy : y.cls ≠ "java/lang/invoke/MethodHandle" ∧ y.cls ≠ "java/lang/invoke/VarHandle")
    (hK : Back l R p e below s args y 3 Wd (fun A a => a = as' ∧ A.U.heap = h ∧ A.cells + rc ≤ R.cells ∧ A.slots + rs ≤ R.slots) (fun A _ v B => ∃ L, Q v B.U.heap L ∧ B.locs = A.locs ++ L ∧ B.cells = A.cells + rc ∧ B.slots = A.slots + rs))
    (eT : T.heap = h) (hs : S = argsL.reverse ++ rest) (ha : argsL.toArray = as') (hp : parseMethodDescriptor y.desc = some ⟨ps, r⟩) (hlen : argsL.length = ps.length) (hW : (rest.map fun v => v.category).sum ≤ Wd) (h1 : cells + rc = cells') (h2 : slots + rs = slots') (h3 : cells' ≤ R.cells) (h4 : slots' ≤ R.slots) :
    ∃ T' v L', Stand p l e R s m args below meth c T' (locs ++ L') cells' slots' ∧ Q v T'.heap L' ∧ Go p e below m W T' (pc + 3) L (v.toList ++ rest) := by
  subst hs h1 h2
  obtain ⟨v, _, ⟨T', L', k', n'⟩, -, X', ⟨Lc, hQ, l1, y1, z1⟩, st⟩ := Jvm.LawKit.callS X hx (y := y) hown (mvT hZ w1) (mvT hZ w2) (mvT hZ wz) (mvT hZ wc) hy hK (g := mkF m pc L (argsL.reverse ++ rest)) rfl hsz (argsL := argsL) (rest := rest) (lenOf hp hlen) rfl (by show 2 * 0 + _ ≤ _; rw [Nat.mul_zero, Nat.zero_add]; exact hW) hd (fun _ _ => ⟨ha, eT, h3, h4⟩)
  dsimp only [Pt.U, Pt.locs, Pt.cells, Pt.slots] at X' l1 y1 z1 st hQ
  subst l1 y1 z1
  exact ⟨T', v, Lc, X', hQ, fun t kt => k t (st t kt)⟩
theorem Go.stat {own : String} {index : Nat} {y : MethodName} {bytes : ByteArray} {maxL : Nat} {ret : Option FieldType} {Wd cells' slots' : Nat} {argsL rest : List Value} {Q : Option Value → Heap → List Loc → Prop} {as' : Array Value} {ps : List FieldType} {r : Option FieldType} {rm : Room}
    (k : Go p e below m W T pc L S) (X : Stand p l e R s m args below meth c T locs cells slots) (hx : p.tables.exec = Jvm.exec) (hZ : Z.Warmed39 s.vm) (hown : s.vm.findClass own = some m.cls) (hsz : L.size = c.maxLocals)
    (w1 : (Cond.methodLink own index y).before a0 Z = true) (w2 : (Cond.static y).before a0 Z = true)  (wc : (Cond.code y bytes maxL ret).before a0 Z = true) (wz : (Cond.initialized y.cls).before a0 Z = true) (hd : decode c.code pc = .ok (.invokestatic index, 3)) (hy : y.cls ≠ "java/lang/invoke/MethodHandle" ∧ y.cls ≠ "java/lang/invoke/VarHandle")
    (hM : MetFree l y (head1 [Cond.code y bytes maxL ret] rm) (fun a U => a = as' ∧ Z.Warmed39 U.vm ∧ U.heap = h) (fun _ _ _ _ _ => True) (fun _ U o U' => ∃ v L, o = .returned v ∧ Q v U'.heap L ∧ FrameEnd U o U' L rm.cells rm.slots))
    (eT : T.heap = h) (hs : S = argsL.reverse ++ rest) (ha : argsL.toArray = as') (hp : parseMethodDescriptor y.desc = some ⟨ps, r⟩) (hlen : argsL.length = ps.length) (hW : (rest.map fun v => v.category).sum ≤ Wd) (hf : rm.frames + 1 ≤ R.frames) (hl : Wd + (maxL + 11) + rm.locals ≤ R.locals) (h1 : cells + rm.cells = cells') (h2 : slots + rm.slots = slots') (h3 : cells' ≤ R.cells) (h4 : slots' ≤ R.slots) :
    ∃ T' v L', Stand p l e R s m args below meth c T' (locs ++ L') cells' slots' ∧ Q v T'.heap L' ∧ Go p e below m W T' (pc + 3) L (v.toList ++ rest) :=
  Go.statB (Wd := Wd) k X hx hZ hown hsz w1 w2 wc wz hd hy (backOf (W := Wd) hM hZ wc wz hf hl) eT hs ha hp hlen hW h1 h2 h3 h4
theorem Go.privB {own C : String} {index : Nat} {y : MethodName} {bytes : ByteArray} {maxL : Nat} {ret : Option FieldType} {Wd cells' slots' : Nat} {b : Addr} {argsL rest : List Value} {Q : Option Value → Heap → List Loc → Prop} {as' : Array Value} {ps : List FieldType} {r : Option FieldType} {rc rs : Nat}
    (k : Go p e below m W T pc L S) (X : Stand p l e R s m args below meth c T locs cells slots) (hx : p.tables.exec = Jvm.exec) (hZ : Z.Warmed39 s.vm) (hown : s.vm.findClass own = some m.cls) (hsz : L.size = c.maxLocals)
    (w1 : (Cond.methodLink own index y).before a0 Z = true) (w2 : (Cond.instanceMethod y).before a0 Z = true) (w3 : (Cond.selects y.cls y y).before a0 Z = true) (w4 : (Cond.privateMethod y).before a0 Z = true) (wc : (Cond.code y bytes maxL ret).before a0 Z = true)
    (hd : decode c.code pc = .ok (.invokevirtual index, 3)) (hy : y.cls ≠ "java/lang/invoke/MethodHandle" ∧ y.cls ≠ "java/lang/invoke/VarHandle")
    (hK : Back l R p e below s args y 3 Wd (fun A a => a = as' ∧ A.U.heap = h ∧ A.cells + rc ≤ R.cells ∧ A.slots + rs ≤ R.slots) (fun A _ v B => ∃ L, Q v B.U.heap L ∧ B.locs = A.locs ++ L ∧ B.cells = A.cells + rc ∧ B.slots = A.slots + rs))
    (eT : T.heap = h) (E : Exa Z h b C) (hs : S = argsL.reverse ++ .ref b :: rest) (ha : (.ref b :: argsL).toArray = as') (hp : parseMethodDescriptor y.desc = some ⟨ps, r⟩) (hlen : argsL.length = ps.length) (hW : (rest.map fun v => v.category).sum ≤ Wd) (h1 : cells + rc = cells') (h2 : slots + rs = slots') (h3 : cells' ≤ R.cells) (h4 : slots' ≤ R.slots) :
    ∃ T' v L', Stand p l e R s m args below meth c T' (locs ++ L') cells' slots' ∧ Q v T'.heap L' ∧ Go p e below m W T' (pc + 3) L (v.toList ++ rest) := by
  subst hs h1 h2
  obtain ⟨cq, q1, q2⟩ := E.cell
  obtain ⟨v, _, ⟨T', L', k', n'⟩, -, X', ⟨Lc, hQ, l1, y1, z1⟩, st⟩ := X.privateBack hx (y := y) hown (mvT hZ w1) (mvT hZ w2) (mvT hZ w3) (Cond.privateMethod_at (mvP hZ w4 (args := #[]))) (mvT hZ wc) hy hK (g := mkF m pc L (argsL.reverse ++ .ref b :: rest)) rfl hsz (Steps.refl _) (a := b) (by rw [eT]; exact q1) q2 (argsL := argsL) (rest := rest) (lenOf hp hlen) rfl (by show 2 * 0 + _ ≤ _; rw [Nat.mul_zero, Nat.zero_add]; exact hW) hd (fun _ _ => ⟨ha, eT, h3, h4⟩)
  dsimp only [Pt.U, Pt.locs, Pt.cells, Pt.slots] at X' l1 y1 z1 st hQ
  subst l1 y1 z1
  exact ⟨T', v, Lc, X', hQ, fun t kt => k t (st.trans kt)⟩
theorem Go.priv {own C : String} {index : Nat} {y : MethodName} {bytes : ByteArray} {maxL : Nat} {ret : Option FieldType} {Wd cells' slots' : Nat} {b : Addr} {argsL rest : List Value} {Q : Option Value → Heap → List Loc → Prop} {as' : Array Value} {ps : List FieldType} {r : Option FieldType} {rm : Room}
    (k : Go p e below m W T pc L S) (X : Stand p l e R s m args below meth c T locs cells slots) (hx : p.tables.exec = Jvm.exec) (hZ : Z.Warmed39 s.vm) (hown : s.vm.findClass own = some m.cls) (hsz : L.size = c.maxLocals)
    (w1 : (Cond.methodLink own index y).before a0 Z = true) (w2 : (Cond.instanceMethod y).before a0 Z = true) (w3 : (Cond.selects y.cls y y).before a0 Z = true) (w4 : (Cond.privateMethod y).before a0 Z = true) (wc : (Cond.code y bytes maxL ret).before a0 Z = true) (wz : (Cond.initialized y.cls).before a0 Z = true)
    (hd : decode c.code pc = .ok (.invokevirtual index, 3)) (hy : y.cls ≠ "java/lang/invoke/MethodHandle" ∧ y.cls ≠ "java/lang/invoke/VarHandle")
    (hM : MetFree l y (head1 [Cond.code y bytes maxL ret] rm) (fun a U => a = as' ∧ Z.Warmed39 U.vm ∧ U.heap = h) (fun _ _ _ _ _ => True) (fun _ U o U' => ∃ v L, o = .returned v ∧ Q v U'.heap L ∧ FrameEnd U o U' L rm.cells rm.slots))
    (eT : T.heap = h) (E : Exa Z h b C) (hs : S = argsL.reverse ++ .ref b :: rest) (ha : (.ref b :: argsL).toArray = as') (hp : parseMethodDescriptor y.desc = some ⟨ps, r⟩) (hlen : argsL.length = ps.length) (hW : (rest.map fun v => v.category).sum ≤ Wd) (hf : rm.frames + 1 ≤ R.frames) (hl : Wd + (maxL + 11) + rm.locals ≤ R.locals) (h1 : cells + rm.cells = cells') (h2 : slots + rm.slots = slots') (h3 : cells' ≤ R.cells) (h4 : slots' ≤ R.slots) :
    ∃ T' v L', Stand p l e R s m args below meth c T' (locs ++ L') cells' slots' ∧ Q v T'.heap L' ∧ Go p e below m W T' (pc + 3) L (v.toList ++ rest) :=
  Go.privB (Wd := Wd) k X hx hZ hown hsz w1 w2 w3 w4 wc hd hy (backOf (W := Wd) hM hZ wc wz hf hl) eT E hs ha hp hlen hW h1 h2 h3 h4
theorem Go.castY {own K : String} {index : Nat} {a : Addr} (k : Go p e below m W T pc L (.ref a :: S)) (X : Stand p l e R s m args below meth c T locs cells slots) (hx : p.tables.exec = Jvm.exec) (hZ : Z.Warmed39 s.vm) (hown : s.vm.findClass own = some m.cls) (w : (Cond.classLink own index K).before a0 Z = true) (eT : T.heap = h) (F : Ins Z h a K true) (hd : decode c.code pc = .ok (.checkcast index, 3)) :
    ∃ T', Stand p l e R s m args below meth c T' locs cells slots ∧ T'.heap = h ∧ Go p e below m W T' (pc + 3) L (.ref a :: S) := by
  obtain ⟨T', X', e', st⟩ := Jvm.RoadKit.castY X hx hZ hown w eT F (g := mkF m pc L (.ref a :: S)) rfl rfl hd
  exact ⟨T', X', e', fun t kt => k t (st t kt)⟩
theorem Go.instY {own K : String} {index : Nat} {a : Addr} (k : Go p e below m W T pc L (.ref a :: S)) (X : Stand p l e R s m args below meth c T locs cells slots) (hx : p.tables.exec = Jvm.exec) (hZ : Z.Warmed39 s.vm) (hown : s.vm.findClass own = some m.cls) (w : (Cond.classLink own index K).before a0 Z = true) (eT : T.heap = h) (F : Ins Z h a K true) (hd : decode c.code pc = .ok (.instanceof index, 3)) :
    ∃ T', Stand p l e R s m args below meth c T' locs cells slots ∧ T'.heap = h ∧ Go p e below m W T' (pc + 3) L (.int 1 :: S) := by
  obtain ⟨T', X', e', st⟩ := Jvm.RoadKit.instY X hx hZ hown w eT F (g := mkF m pc L (.ref a :: S)) rfl rfl hd
  exact ⟨T', X', e', fun t kt => k t (st t kt)⟩
theorem Go.instNull {index : Nat} (k : Go p e below m W T pc L (.null :: S)) (X : Stand p l e R s m args below meth c T locs cells slots) (hx : p.tables.exec = Jvm.exec) (hd : decode c.code pc = .ok (.instanceof index, 3)) : Go p e below m W T (pc + 3) L (.int 0 :: S) := fun t kt => k t (X.instanceofNull hx (g := mkF m pc L (.null :: S)) rfl rfl hd t kt)
theorem Go.castNull {index : Nat} (k : Go p e below m W T pc L (.null :: S)) (X : Stand p l e R s m args below meth c T locs cells slots) (hx : p.tables.exec = Jvm.exec) (hd : decode c.code pc = .ok (.checkcast index, 3)) : Go p e below m W T (pc + 3) L (.null :: S) := fun t kt => k t (X.checkcastNull hx (g := mkF m pc L (.null :: S)) rfl rfl hd t kt)
theorem Go.cast {x y : Int32} (k : Go p e below m W T pc L (.int x :: S)) (q : x = y) : Go p e below m W T pc L (.int y :: S) := q ▸ k
theorem Go.castJ {x y : Int64} (k : Go p e below m W T pc L (.long x :: S)) (q : x = y) : Go p e below m W T pc L (.long y :: S) := q ▸ k
/-! the ways out of a body -/
abbrev Done (p : Program) (e : Env) (below : List Frame) (s W : State) (Q : Option Value → Heap → List Loc → Prop) (rc rs : Nat) : Prop :=
  ∃ s₂ o, Steps p.tables e below W s₂ ∧ s₂.status = .running ∧ Ended s₂ below o ∧ ∃ v L, o = .returned v ∧ Q v s₂.heap L ∧ FrameEnd s o s₂ L rc rs
theorem Go.ireturnN {t : FieldType} {x : Int32} {Q : Option Value → Heap → List Loc → Prop} {rc rs : Nat} (k : Go p e below m W T pc L (.int x :: S)) (X : Stand p l e R s m args below meth c T locs cells slots) (hx : p.tables.exec = Jvm.exec) (hret : meth.sig.returnType = some t) (ht : t = .boolean ∨ t = .byte ∨ t = .char ∨ t = .short) (hn : nar t x = x) (hd : decode c.code pc = .ok (.ireturn, 1)) (hlk : meth.locks = false) (hq : Q (some (.int x)) T.heap locs) (h1 : cells ≤ rc) (h2 : slots ≤ rs) : Done p e below s W Q rc rs := by
  obtain ⟨fs, hr, hrun, hended, hW, hsame⟩ := X.leave (v := some (.int x)) (fun q => by rw [hret] at q; cases q) hlk
  refine ⟨_, _, k _ (retN X hx hret ht hd (by rw [hn]; exact hr)), hrun, hended, _, _, rfl, hq, ⟨_, rfl⟩, hW, hsame.mono h1 h2⟩
theorem Go.ireturnI {x : Int32} {Q : Option Value → Heap → List Loc → Prop} {rc rs : Nat} (k : Go p e below m W T pc L (.int x :: S)) (X : Stand p l e R s m args below meth c T locs cells slots) (hx : p.tables.exec = Jvm.exec) (hret : meth.sig.returnType = some .int) (hd : decode c.code pc = .ok (.ireturn, 1)) (hlk : meth.locks = false) (hq : Q (some (.int x)) T.heap locs) (h1 : cells ≤ rc) (h2 : slots ≤ rs) : Done p e below s W Q rc rs := by
  obtain ⟨fs, hr, hrun, hended, hW, hsame⟩ := X.leave (v := some (.int x)) (fun q => by rw [hret] at q; cases q) hlk
  refine ⟨_, _, k _ (retI X hx hret hd hr), hrun, hended, _, _, rfl, hq, ⟨_, rfl⟩, hW, hsame.mono h1 h2⟩
theorem Go.return_ {Q : Option Value → Heap → List Loc → Prop} {rc rs : Nat} (k : Go p e below m W T pc L []) (X : Stand p l e R s m args below meth c T locs cells slots) (hx : p.tables.exec = Jvm.exec) (hret : meth.sig.returnType = none) (hd : decode c.code pc = .ok (.return_, 1)) (hlk : meth.locks = false) (hq : Q none T.heap locs) (h1 : cells ≤ rc) (h2 : slots ≤ rs) : Done p e below s W Q rc rs := by
  obtain ⟨fs, hr, hrun, hended, hW, hsame⟩ := X.leave (v := none) (fun _ => rfl) hlk
  refine ⟨_, _, k _ (X.returnOut hx hret hd hr), hrun, hended, _, _, rfl, hq, ⟨_, rfl⟩, hW, hsame.mono h1 h2⟩
theorem Go.areturn {t : FieldType} {v : Value} {Q : Option Value → Heap → List Loc → Prop} {rc rs : Nat} (k : Go p e below m W T pc L (v :: S)) (X : Stand p l e R s m args below meth c T locs cells slots) (hx : p.tables.exec = Jvm.exec) (hret : meth.sig.returnType = some t) (ht : t.isReference = true) (hv : v.isRef = true) (hd : decode c.code pc = .ok (.areturn, 1)) (hlk : meth.locks = false) (hq : Q (some v) T.heap locs) (h1 : cells ≤ rc) (h2 : slots ≤ rs) : Done p e below s W Q rc rs := by
  obtain ⟨fs, hr, hrun, hended, hW, hsame⟩ := X.leave (v := some v) (fun q => by rw [hret] at q; cases q) hlk
  refine ⟨_, _, k _ ?_, hrun, hended, _, _, rfl, hq, ⟨_, rfl⟩, hW, hsame.mono h1 h2⟩
  jvm_step X.here [X.here.top, hx, hd, X.method', hret, hv, ht]
  first | (intro acts; rw [hr _ acts rfl rfl rfl]) | rw [hr _ _ rfl rfl rfl]
  exact Steps.refl _

theorem own_in {cl : Cell} {z j : Int32} {i n : Nat} (S1 : cl.slots.size = z.toNatClampNeg) (hz : z.toNatClampNeg = n) (hj : j.toNatClampNeg = i) (hj0 : ¬ j < 0) (hi : i < n) : ¬ (j < 0 ∨ cl.slots.size ≤ j.toNatClampNeg) := by
  intro q
  rcases q with q | q
  · exact hj0 q
  · rw [S1, hz, hj] at q; omega

theorem Go.iastore {a : Addr} {kc : ClassId} {z j : Int32} {vs : List Value} {d : Value} {i : Nat} {n0 : Nat} {x : Int32} (k : Go p e below m W T pc L (.int x :: .int j :: .ref a :: S)) (X : Stand p l e R s m args below meth c T locs cells slots) (hx : p.tables.exec = Jvm.exec) (hZ : Z.Warmed39 s.vm) (eT : T.heap = h) (Va : Arv Z h a kc .int z vs d) (hz : z.toNatClampNeg = vs.length) (hj : j.toNatClampNeg = i) (hj0 : ¬ j < 0) (hi : i < vs.length) (N : Fr n0 locs) (g0 : n0 ≤ a) (hd : decode c.code pc = .ok (.iastore, 1)) :
    ∃ T' h' locs', Stand p l e R s m args below meth c T' locs' cells slots ∧ T'.heap = h' ∧ Wr h h' a j.toNatClampNeg (.int x) ∧ Arv Z h' a kc .int z (vs.set i (.int x)) d ∧ Fr n0 locs' ∧ Go p e below m W T' (pc + 1) L S := by
  obtain ⟨cl, A, q1, S1, q3, H, G⟩ := Va
  have hin := own_in S1 hz hj hj0 hi
  obtain ⟨T', h', X', e', W', st⟩ := Jvm.RoadKit.stI X hx hZ eT A hin (g := mkF m pc L (.int x :: .int j :: .ref a :: S)) rfl rfl hd
  exact ⟨T', h', _, X', e', W', Arv.set A q1 S1 q3 H G rfl W' i hj hi, Fr.snoc X' N g0, fun t kt => k t (st t kt)⟩

theorem Go.lastore {a : Addr} {kc : ClassId} {z j : Int32} {vs : List Value} {d : Value} {i : Nat} {n0 : Nat} {x : Int64} (k : Go p e below m W T pc L (.long x :: .int j :: .ref a :: S)) (X : Stand p l e R s m args below meth c T locs cells slots) (hx : p.tables.exec = Jvm.exec) (hZ : Z.Warmed39 s.vm) (eT : T.heap = h) (Va : Arv Z h a kc .long z vs d) (hz : z.toNatClampNeg = vs.length) (hj : j.toNatClampNeg = i) (hj0 : ¬ j < 0) (hi : i < vs.length) (N : Fr n0 locs) (g0 : n0 ≤ a) (hd : decode c.code pc = .ok (.lastore, 1)) :
    ∃ T' h' locs', Stand p l e R s m args below meth c T' locs' cells slots ∧ T'.heap = h' ∧ Wr h h' a j.toNatClampNeg (.long x) ∧ Arv Z h' a kc .long z (vs.set i (.long x)) d ∧ Fr n0 locs' ∧ Go p e below m W T' (pc + 1) L S := by
  obtain ⟨cl, A, q1, S1, q3, H, G⟩ := Va
  have hin := own_in S1 hz hj hj0 hi
  obtain ⟨T', h', X', e', W', st⟩ := Jvm.RoadKit.stJ X hx hZ eT A hin (g := mkF m pc L (.long x :: .int j :: .ref a :: S)) rfl rfl hd
  exact ⟨T', h', _, X', e', W', Arv.set A q1 S1 q3 H G rfl W' i hj hi, Fr.snoc X' N g0, fun t kt => k t (st t kt)⟩

theorem Go.castore {a : Addr} {kc : ClassId} {z j : Int32} {vs : List Value} {d : Value} {i : Nat} {n0 : Nat} {x : Int32} (k : Go p e below m W T pc L (.int x :: .int j :: .ref a :: S)) (X : Stand p l e R s m args below meth c T locs cells slots) (hx : p.tables.exec = Jvm.exec) (hZ : Z.Warmed39 s.vm) (eT : T.heap = h) (Va : Arv Z h a kc .char z vs d) (hz : z.toNatClampNeg = vs.length) (hj : j.toNatClampNeg = i) (hj0 : ¬ j < 0) (hi : i < vs.length) (N : Fr n0 locs) (g0 : n0 ≤ a) (hd : decode c.code pc = .ok (.castore, 1)) :
    ∃ T' h' locs', Stand p l e R s m args below meth c T' locs' cells slots ∧ T'.heap = h' ∧ Wr h h' a j.toNatClampNeg (.int (nar .char x)) ∧ Arv Z h' a kc .char z (vs.set i (.int (nar .char x))) d ∧ Fr n0 locs' ∧ Go p e below m W T' (pc + 1) L S := by
  obtain ⟨cl, A, q1, S1, q3, H, G⟩ := Va
  have hin := own_in S1 hz hj hj0 hi
  obtain ⟨T', h', X', e', W', st⟩ := Jvm.RoadKit.stC X hx hZ eT A hin (g := mkF m pc L (.int x :: .int j :: .ref a :: S)) rfl rfl hd
  exact ⟨T', h', _, X', e', W', Arv.set A q1 S1 q3 H G (fits_nar_char x) W' i hj hi, Fr.snoc X' N g0, fun t kt => k t (st t kt)⟩

theorem Go.bastore {a : Addr} {kc : ClassId} {z j : Int32} {vs : List Value} {d : Value} {i : Nat} {n0 : Nat} {x : Int32} (k : Go p e below m W T pc L (.int x :: .int j :: .ref a :: S)) (X : Stand p l e R s m args below meth c T locs cells slots) (hx : p.tables.exec = Jvm.exec) (hZ : Z.Warmed39 s.vm) (eT : T.heap = h) (Va : Arv Z h a kc .byte z vs d) (hz : z.toNatClampNeg = vs.length) (hj : j.toNatClampNeg = i) (hj0 : ¬ j < 0) (hi : i < vs.length) (N : Fr n0 locs) (g0 : n0 ≤ a) (hd : decode c.code pc = .ok (.bastore, 1)) :
    ∃ T' h' locs', Stand p l e R s m args below meth c T' locs' cells slots ∧ T'.heap = h' ∧ Wr h h' a j.toNatClampNeg (.int (nar .byte x)) ∧ Arv Z h' a kc .byte z (vs.set i (.int (nar .byte x))) d ∧ Fr n0 locs' ∧ Go p e below m W T' (pc + 1) L S := by
  obtain ⟨cl, A, q1, S1, q3, H, G⟩ := Va
  have hin := own_in S1 hz hj hj0 hi
  obtain ⟨T', h', X', e', W', st⟩ := Jvm.RoadKit.stB X hx hZ eT A hin (g := mkF m pc L (.int x :: .int j :: .ref a :: S)) rfl rfl hd
  exact ⟨T', h', _, X', e', W', Arv.set A q1 S1 q3 H G (fits_nar_byte x) W' i hj hi, Fr.snoc X' N g0, fun t kt => k t (st t kt)⟩

theorem Go.aastore {a : Addr} {kc : ClassId} {C : String} {z j : Int32} {vs : List Value} {d v : Value} {i : Nat} {n0 : Nat} (k : Go p e below m W T pc L (v :: .int j :: .ref a :: S)) (X : Stand p l e R s m args below meth c T locs cells slots) (hx : p.tables.exec = Jvm.exec) (hZ : Z.Warmed39 s.vm) (eT : T.heap = h) (Va : Arv Z h a kc (.object C) z vs d) (O : Ovr Z kc C) (hv : v = .null ∨ ∃ y, v = .ref y ∧ Ins Z h y C true) (hz : z.toNatClampNeg = vs.length) (hj : j.toNatClampNeg = i) (hj0 : ¬ j < 0) (hi : i < vs.length) (N : Fr n0 locs) (g0 : n0 ≤ a) (hd : decode c.code pc = .ok (.aastore, 1)) :
    ∃ T' h' locs', Stand p l e R s m args below meth c T' locs' cells slots ∧ T'.heap = h' ∧ Wr h h' a j.toNatClampNeg v ∧ Arv Z h' a kc (.object C) z (vs.set i v) d ∧ Fr n0 locs' ∧ Go p e below m W T' (pc + 1) L S := by
  obtain ⟨cl, A, q1, S1, q3, H, G⟩ := Va
  have hin := own_in S1 hz hj hj0 hi
  have F : Sto Z h a v := by
    rcases hv with rfl | ⟨y, rfl, I⟩
    · exact Or.inl rfl
    · exact Sto.of A (q1 ▸ O) I
  have hf : fits (.object C) v = true := by rcases hv with rfl | ⟨y, rfl, I⟩ <;> rfl
  obtain ⟨T', h', X', e', W', st⟩ := Jvm.RoadKit.stR X hx hZ eT A hin rfl F (g := mkF m pc L (v :: .int j :: .ref a :: S)) rfl rfl hd
  exact ⟨T', h', _, X', e', W', Arv.set A q1 S1 q3 H G hf W' i hj hi, Fr.snoc X' N g0, fun t kt => k t (st t kt)⟩
theorem Go.newP {aty : ArrayType} {n : Int32} {cap cells' slots' : Nat} (k : Go p e below m W T pc L (.int n :: S)) (X : Stand p l e R s m args below meth c T locs cells slots) (hx : p.tables.exec = Jvm.exec) (hZ : Z.Warmed39 s.vm) (w : (Cond.arrayClass (newarray.typeOf aty)).before a0 Z = true) (eT : T.heap = h) (hd : decode c.code pc = .ok (.newarray aty, 2)) (hn : ¬ n < 0) (hcap : n.toNatClampNeg ≤ cap) (hb : cap * 8 ≤ 536870912) (h1 : cells + 1 = cells') (h2 : slots + cap = slots') (h3 : cells' ≤ R.cells) (h4 : slots' ≤ R.slots) :
    ∃ T' h' b kc, Stand p l e R s m args below meth c T' locs cells' slots' ∧ T'.heap = h' ∧ b = h.size ∧ Ext h h' ∧ (∀ len, Arv Z h' b kc (newarray.typeOf aty) n (List.replicate len (defaultValue (newarray.typeOf aty))) (defaultValue (newarray.typeOf aty))) ∧ Go p e below m W T' (pc + 2) L (.ref b :: S) := by
  subst h1 h2
  obtain ⟨T', h', kc, X', e', E', A', st⟩ := Jvm.RoadKit.newP X hx hZ w eT (g := mkF m pc L (.int n :: S)) rfl hd rfl hn hcap hb h3 h4
  exact ⟨T', h', _, kc, X', e', rfl, E', fun len => (Arv.new A' hn).pad (pad_rep [] _ len), fun t kt => k t (st t kt)⟩
theorem Go.newR {own C : String} {index : Nat} {n : Int32} {cap cells' slots' : Nat} (k : Go p e below m W T pc L (.int n :: S)) (X : Stand p l e R s m args below meth c T locs cells slots) (hx : p.tables.exec = Jvm.exec) (hZ : Z.Warmed39 s.vm) (hown : s.vm.findClass own = some m.cls) (w1 : (Cond.classLink own index C).before a0 Z = true) (w2 : (Cond.arrayOver (.object C)).before a0 Z = true) (eT : T.heap = h) (hd : decode c.code pc = .ok (.anewarray index, 3)) (hn : ¬ n < 0) (hcap : n.toNatClampNeg ≤ cap) (hb : cap * 8 ≤ 536870912) (h1 : cells + 1 = cells') (h2 : slots + cap = slots') (h3 : cells' ≤ R.cells) (h4 : slots' ≤ R.slots) :
    ∃ T' h' b kc, Stand p l e R s m args below meth c T' locs cells' slots' ∧ T'.heap = h' ∧ b = h.size ∧ Ext h h' ∧ (∀ len, Arv Z h' b kc (.object C) n (List.replicate len .null) .null) ∧ Ovr Z kc C ∧ Go p e below m W T' (pc + 3) L (.ref b :: S) := by
  subst h1 h2
  obtain ⟨T', h', kc, X', e', E', A', O', st⟩ := Jvm.RoadKit.newR X hx hZ hown w1 w2 eT (g := mkF m pc L (.int n :: S)) rfl hd rfl hn hcap hb h3 h4
  exact ⟨T', h', _, kc, X', e', rfl, E', fun len => (Arv.new A' hn).pad (pad_rep [] _ len), O', fun t kt => k t (st t kt)⟩
theorem Go.arraylength {a : Addr} {kc : ClassId} {ty : FieldType} {z : Int32} {vs : List Value} {d : Value} (k : Go p e below m W T pc L (.ref a :: S)) (X : Stand p l e R s m args below meth c T locs cells slots) (hx : p.tables.exec = Jvm.exec) (hZ : Z.Warmed39 s.vm) (eT : T.heap = h) (Va : Arv Z h a kc ty z vs d) (hd : decode c.code pc = .ok (.arraylength, 1)) : Go p e below m W T (pc + 1) L (.int z :: S) := by
  obtain ⟨cl, A, q1, S1, q3, H, G⟩ := Va
  intro t kt
  refine k t (X.arraylength hx (cell := cl) (by rw [eT]; exact A.1) (State.isArrayOf_alike hZ.alike A.2.1) (g := mkF m pc L (.ref a :: S)) rfl (rest := S) rfl hd t ?_)
  rw [len_of S1 q3]
  exact kt

theorem Go.iaload {a : Addr} {kc : ClassId} {z j : Int32} {vs : List Value} {d v : Value} {i n : Nat}  (k : Go p e below m W T pc L (.int j :: .ref a :: S)) (X : Stand p l e R s m args below meth c T locs cells slots) (hx : p.tables.exec = Jvm.exec) (hZ : Z.Warmed39 s.vm) (eT : T.heap = h) (Va : Arv Z h a kc .int z vs d) (hz : z.toNatClampNeg = n) (hj : j.toNatClampNeg = i) (hj0 : ¬ j < 0) (hi : i < n) (hv : vs.getD i d = v) (hd : decode c.code pc = .ok (.iaload, 1)) : Go p e below m W T (pc + 1) L (v :: S) := by
  obtain ⟨cl, A, q1, S1, q3, H, G⟩ := Va
  have hin := own_in S1 hz hj hj0 hi
  subst hj
  exact fun t kt => k t (X.iaload hx (j := j) (v := v) (by rw [eT]; exact A.1) (State.isArrayOf_alike hZ.alike A.2.1) A.2.2 hin (Has.at H hin hv) (g := mkF m pc L (.int j :: .ref a :: S)) rfl rfl hd t kt)

theorem Go.laload {a : Addr} {kc : ClassId} {z j : Int32} {vs : List Value} {d v : Value} {i n : Nat}  (k : Go p e below m W T pc L (.int j :: .ref a :: S)) (X : Stand p l e R s m args below meth c T locs cells slots) (hx : p.tables.exec = Jvm.exec) (hZ : Z.Warmed39 s.vm) (eT : T.heap = h) (Va : Arv Z h a kc .long z vs d) (hz : z.toNatClampNeg = n) (hj : j.toNatClampNeg = i) (hj0 : ¬ j < 0) (hi : i < n) (hv : vs.getD i d = v) (hd : decode c.code pc = .ok (.laload, 1)) : Go p e below m W T (pc + 1) L (v :: S) := by
  obtain ⟨cl, A, q1, S1, q3, H, G⟩ := Va
  have hin := own_in S1 hz hj hj0 hi
  subst hj
  exact fun t kt => k t (X.laload hx (j := j) (v := v) (by rw [eT]; exact A.1) (State.isArrayOf_alike hZ.alike A.2.1) A.2.2 hin (Has.at H hin hv) (g := mkF m pc L (.int j :: .ref a :: S)) rfl rfl hd t kt)

theorem Go.caload {a : Addr} {kc : ClassId} {z j : Int32} {vs : List Value} {d v : Value} {i n : Nat}  (k : Go p e below m W T pc L (.int j :: .ref a :: S)) (X : Stand p l e R s m args below meth c T locs cells slots) (hx : p.tables.exec = Jvm.exec) (hZ : Z.Warmed39 s.vm) (eT : T.heap = h) (Va : Arv Z h a kc .char z vs d) (hz : z.toNatClampNeg = n) (hj : j.toNatClampNeg = i) (hj0 : ¬ j < 0) (hi : i < n) (hv : vs.getD i d = v) (hd : decode c.code pc = .ok (.caload, 1)) : Go p e below m W T (pc + 1) L (v :: S) := by
  obtain ⟨cl, A, q1, S1, q3, H, G⟩ := Va
  have hin := own_in S1 hz hj hj0 hi
  subst hj
  exact fun t kt => k t (X.caload hx (j := j) (v := v) (by rw [eT]; exact A.1) (State.isArrayOf_alike hZ.alike A.2.1) A.2.2 hin (Has.at H hin hv) (g := mkF m pc L (.int j :: .ref a :: S)) rfl rfl hd t kt)

theorem Go.aaload {a : Addr} {kc : ClassId} {z j : Int32} {vs : List Value} {d v : Value} {i n : Nat} {ty : FieldType} (k : Go p e below m W T pc L (.int j :: .ref a :: S)) (X : Stand p l e R s m args below meth c T locs cells slots) (hx : p.tables.exec = Jvm.exec) (hZ : Z.Warmed39 s.vm) (eT : T.heap = h) (Va : Arv Z h a kc ty z vs d) (hz : z.toNatClampNeg = n) (hj : j.toNatClampNeg = i) (hj0 : ¬ j < 0) (hi : i < n) (hv : vs.getD i d = v) (hty : ty.isReference = true) (hd : decode c.code pc = .ok (.aaload, 1)) : Go p e below m W T (pc + 1) L (v :: S) := by
  obtain ⟨cl, A, q1, S1, q3, H, G⟩ := Va
  have hin := own_in S1 hz hj hj0 hi
  subst hj
  exact fun t kt => k t (X.aaload hx (j := j) (v := v) (by rw [eT]; exact A.1) (State.isArrayOf_alike hZ.alike A.2.1) hty A.2.2 hin (Has.at H hin hv) (g := mkF m pc L (.int j :: .ref a :: S)) rfl rfl hd t kt)

theorem Go.baload {a : Addr} {kc : ClassId} {z j : Int32} {vs : List Value} {d v : Value} {i n : Nat}  (k : Go p e below m W T pc L (.int j :: .ref a :: S)) (X : Stand p l e R s m args below meth c T locs cells slots) (hx : p.tables.exec = Jvm.exec) (hZ : Z.Warmed39 s.vm) (eT : T.heap = h) (Va : Arv Z h a kc .byte z vs d) (hz : z.toNatClampNeg = n) (hj : j.toNatClampNeg = i) (hj0 : ¬ j < 0) (hi : i < n) (hv : vs.getD i d = v) (hd : decode c.code pc = .ok (.baload, 1)) : Go p e below m W T (pc + 1) L (v :: S) := by
  obtain ⟨cl, A, q1, S1, q3, H, G⟩ := Va
  have hin := own_in S1 hz hj hj0 hi
  subst hj
  exact fun t kt => k t (X.baloadBytes hx (j := j) (v := v) (by rw [eT]; exact A.1) (State.isArrayOf_alike hZ.alike A.2.1) A.2.2 hin (Has.at H hin hv) (g := mkF m pc L (.int j :: .ref a :: S)) rfl rfl hd t kt)

theorem Go.newPE {aty : ArrayType} {n : Int32} {cap cells' slots' : Nat} {ad : String} (k : Go p e below m W T pc L (.int n :: S)) (X : Stand p l e R s m args below meth c T locs cells slots) (hx : p.tables.exec = Jvm.exec) (hZ : Z.Warmed39 s.vm) (w : (Cond.arrayClass (newarray.typeOf aty)).before a0 Z = true) (eT : T.heap = h) (hd : decode c.code pc = .ok (.newarray aty, 2)) (hn : ¬ n < 0) (hcap : n.toNatClampNeg ≤ cap) (hb : cap * 8 ≤ 536870912) (h1 : cells + 1 = cells') (h2 : slots + cap = slots') (h3 : cells' ≤ R.cells) (h4 : slots' ≤ R.slots) (had : "[" ++ (newarray.typeOf aty).toString = ad) :
    ∃ T' h' b kc, Stand p l e R s m args below meth c T' locs cells' slots' ∧ T'.heap = h' ∧ b = h.size ∧ Ext h h' ∧ (∀ len, Arv Z h' b kc (newarray.typeOf aty) n (List.replicate len (defaultValue (newarray.typeOf aty))) (defaultValue (newarray.typeOf aty))) ∧ Exa Z h' b ad ∧ Go p e below m W T' (pc + 2) L (.ref b :: S) := by
  subst h1 h2
  obtain ⟨T', h', kc, X', e', E', A', Ex, st⟩ := Jvm.RoadKit.newPE X hx hZ w eT (g := mkF m pc L (.int n :: S)) rfl hd rfl hn hcap hb h3 h4 had
  exact ⟨T', h', _, kc, X', e', rfl, E', fun len => (Arv.new A' hn).pad (pad_rep [] _ len), Ex, fun t kt => k t (st t kt)⟩
theorem Go.newRE {own C : String} {index : Nat} {n : Int32} {cap cells' slots' : Nat} {ad : String} (k : Go p e below m W T pc L (.int n :: S)) (X : Stand p l e R s m args below meth c T locs cells slots) (hx : p.tables.exec = Jvm.exec) (hZ : Z.Warmed39 s.vm) (hown : s.vm.findClass own = some m.cls) (w1 : (Cond.classLink own index C).before a0 Z = true) (w2 : (Cond.arrayOver (.object C)).before a0 Z = true) (eT : T.heap = h) (hd : decode c.code pc = .ok (.anewarray index, 3)) (hn : ¬ n < 0) (hcap : n.toNatClampNeg ≤ cap) (hb : cap * 8 ≤ 536870912) (h1 : cells + 1 = cells') (h2 : slots + cap = slots') (h3 : cells' ≤ R.cells) (h4 : slots' ≤ R.slots) (had : "[" ++ (FieldType.object C).toString = ad) :
    ∃ T' h' b kc, Stand p l e R s m args below meth c T' locs cells' slots' ∧ T'.heap = h' ∧ b = h.size ∧ Ext h h' ∧ (∀ len, Arv Z h' b kc (.object C) n (List.replicate len .null) .null) ∧ Ovr Z kc C ∧ Exa Z h' b ad ∧ Go p e below m W T' (pc + 3) L (.ref b :: S) := by
  subst h1 h2
  obtain ⟨T', h', kc, X', e', E', A', Ex, O', st⟩ := Jvm.RoadKit.newRE X hx hZ hown w1 w2 eT (g := mkF m pc L (.int n :: S)) rfl hd rfl hn hcap hb h3 h4 had
  exact ⟨T', h', _, kc, X', e', rfl, E', fun len => (Arv.new A' hn).pad (pad_rep [] _ len), O', Ex, fun t kt => k t (st t kt)⟩
theorem Go.newRA {own C : String} {ty : FieldType} {index : Nat} {n : Int32} {cap cells' slots' : Nat} {ad : String} (k : Go p e below m W T pc L (.int n :: S)) (X : Stand p l e R s m args below meth c T locs cells slots) (hx : p.tables.exec = Jvm.exec) (hZ : Z.Warmed39 s.vm) (hown : s.vm.findClass own = some m.cls) (hC : (FieldType.array ty).toString = C) (w1 : (Cond.classLink own index C).before a0 Z = true) (w2 : (Cond.arrayOver (.array ty)).before a0 Z = true) (eT : T.heap = h) (hd : decode c.code pc = .ok (.anewarray index, 3)) (hn : ¬ n < 0) (hcap : n.toNatClampNeg ≤ cap) (hb : cap * 8 ≤ 536870912) (h1 : cells + 1 = cells') (h2 : slots + cap = slots') (h3 : cells' ≤ R.cells) (h4 : slots' ≤ R.slots) (had : "[" ++ C = ad) :
    ∃ T' h' b kc, Stand p l e R s m args below meth c T' locs cells' slots' ∧ T'.heap = h' ∧ b = h.size ∧ Ext h h' ∧ (∀ len, Arv Z h' b kc (.array ty) n (List.replicate len .null) .null) ∧ OvrA Z kc ty C ∧ Exa Z h' b ad ∧ Go p e below m W T' (pc + 3) L (.ref b :: S) := by
  subst h1 h2
  obtain ⟨T', h', kc, X', e', E', A', Ex, O', st⟩ := Jvm.RoadKit.newRA X hx hZ hown hC w1 w2 eT (g := mkF m pc L (.int n :: S)) rfl hd rfl hn hcap hb h3 h4 had
  exact ⟨T', h', _, kc, X', e', rfl, E', fun len => (Arv.new A' hn).pad (pad_rep [] _ len), O', Ex, fun t kt => k t (st t kt)⟩
theorem Go.aastoreA {a : Addr} {kc : ClassId} {C : String} {ty : FieldType} {z j : Int32} {vs : List Value} {d v : Value} {i : Nat} {n0 : Nat} (k : Go p e below m W T pc L (v :: .int j :: .ref a :: S)) (X : Stand p l e R s m args below meth c T locs cells slots) (hx : p.tables.exec = Jvm.exec) (hZ : Z.Warmed39 s.vm) (eT : T.heap = h) (Va : Arv Z h a kc (.array ty) z vs d) (O : OvrA Z kc ty C) (hv : v = .null ∨ ∃ y, v = .ref y ∧ Ins Z h y C true) (hz : z.toNatClampNeg = vs.length) (hj : j.toNatClampNeg = i) (hj0 : ¬ j < 0) (hi : i < vs.length) (N : Fr n0 locs) (g0 : n0 ≤ a) (hd : decode c.code pc = .ok (.aastore, 1)) :
    ∃ T' h' locs', Stand p l e R s m args below meth c T' locs' cells slots ∧ T'.heap = h' ∧ Wr h h' a j.toNatClampNeg v ∧ Arv Z h' a kc (.array ty) z (vs.set i v) d ∧ Fr n0 locs' ∧ Go p e below m W T' (pc + 1) L S := by
  obtain ⟨cl, A, q1, S1, q3, H, G⟩ := Va
  have hin := own_in S1 hz hj hj0 hi
  have F : Sto Z h a v := by
    rcases hv with rfl | ⟨y, rfl, I⟩
    · exact Or.inl rfl
    · exact Sto.ofVA A q1 O I
  have hf : fits (.array ty) v = true := by rcases hv with rfl | ⟨y, rfl, I⟩ <;> rfl
  obtain ⟨T', h', X', e', W', st⟩ := Jvm.RoadKit.stR X hx hZ eT A hin rfl F (g := mkF m pc L (v :: .int j :: .ref a :: S)) rfl rfl hd
  exact ⟨T', h', _, X', e', W', Arv.set A q1 S1 q3 H G hf W' i hj hi, Fr.snoc X' N g0, fun t kt => k t (st t kt)⟩
end OwnKit

theorem own_eqi {args : Array Value} {first s : State} {o : Option Outcome} {idx : List Nat} {a : Term} {n : Int32} (h : (Cond.eq a (Term.int n)).value args first o s idx = some true) : a.eval args first o idx s = some (.int n) := by
  obtain ⟨x, y, h1, h2, -, -⟩ := cmp_v (Or.inl h)
  have e2 : (Term.int n).eval args first o idx s = some (.int n) := Term.int_eval n
  cases h2.symm.trans e2
  cases x <;> simp [Cond.value, h1, e2] at h
  rw [h1, h]
theorem own_eqr {args : Array Value} {first s : State} {o : Option Outcome} {idx : List Nat} {a b : Term} {y : Addr} (h : (Cond.eq a b).value args first o s idx = some true) (hb : b.eval args first o idx s = some (.ref y)) : a.eval args first o idx s = some (.ref y) := by
  obtain ⟨x, z, h1, h2, -, -⟩ := cmp_v (Or.inl h)
  cases h2.symm.trans hb
  cases x <;> simp [Cond.value, h1, hb] at h
  rw [h1, h]
theorem own_ne {Z : State} {h : Heap} {a b : Addr} {C n d : String} {v w : Value} (F : Fld Z h a C n d v) (G : Fld Z h b C n d w) (q : v ≠ w) : a ≠ b := by
  intro e
  subst e
  obtain ⟨c1, cf1, k1, i1, f1, h1, h2, -, -, -, -, h7⟩ := F
  obtain ⟨c2, cf2, k2, i2, f2, g1, g2, -, -, -, -, g7⟩ := G
  cases h1.symm.trans g1
  cases h2.symm.trans g2
  exact q (Option.some.inj (h7.symm.trans g7))
theorem own_nz {x : Int32} (h : x = 0 ∨ x = 1) : narrow .boolean (.int x) = .int x ∧ fits .boolean (.int x) = true ∧ nar .boolean x = x := by rcases h with rfl | rfl <;> exact ⟨rfl, rfl, rfl⟩
theorem own_nref {v : Value} {C : String} (h : v.isRef = true) : narrow (.object C) v = v := by cases v <;> first | rfl | simp [Value.isRef] at h
theorem own_fref {v : Value} {C : String} (h : v.isRef = true) : fits (.object C) v = true := by cases v <;> first | rfl | simp [Value.isRef] at h
theorem own_01 {x : Int32} {P : Prop} (h : (P ∧ x = (0 : Int32)) ∨ (¬ P ∧ x = (1 : Int32))) : x = 0 ∨ x = 1 := h.imp And.right And.right
theorem own_10 {x : Int32} {P : Prop} (h : (P ∧ x = (1 : Int32)) ∨ (¬ P ∧ x = (0 : Int32))) : x = 0 ∨ x = 1 := h.symm.imp And.right And.right

theorem own_mask (x : Int32) : 0 ≤ (x &&& (2147483647 : Int32)).toInt := (c_andS x 2147483647).2.2 (by decide)
theorem own_rem {x y : Int32} (hx : 0 ≤ x.toInt) (hy : 0 < y.toInt) : 0 ≤ (x % y).toInt ∧ (x % y).toInt < y.toInt := ⟨((c_iremV x y).1 hx hy).1, ((c_iremV x y).1 hx hy).2.1⟩
theorem own_i {x : Int32} {n : Int} (y : Int32) (h : x.toInt = n) (hy : y.toInt = n) : x = y := Int32.toInt_inj.mp (h.trans hy.symm)

def own_e1 (f p i : Int32) : Int32 := if f = i then p else (-1 : Int32)
def own_e2 (f p g q i : Int32) : Int32 := if g = i then q else if f = i then p else (-1 : Int32)
def own_sel (t a b c d : Int32) : Int32 := if t = (0 : Int32) then a else if t = (1 : Int32) then b else if t = (2 : Int32) then c else d
def own_acc (w a b r d e : Int32) : Prop := (w = (-1 : Int32) ∧ r = (0 : Int32) ∧ d = a ∧ e = b) ∨ (w = (0 : Int32) ∧ a = (2147483647 : Int32) ∧ r = (0 : Int32) ∧ d = a ∧ e = b) ∨ (w = (0 : Int32) ∧ ¬ (a = (2147483647 : Int32)) ∧ r = (1 : Int32) ∧ d = (2147483647 : Int32) ∧ e = b) ∨ (w = (1 : Int32) ∧ b = (2147483647 : Int32) ∧ r = (0 : Int32) ∧ d = a ∧ e = b) ∨ (w = (1 : Int32) ∧ ¬ (b = (2147483647 : Int32)) ∧ r = (1 : Int32) ∧ d = a ∧ e = (2147483647 : Int32))
theorem own_sel1 {f p t : Int32} (h : t = (0 : Int32) ∨ t = (1 : Int32) ∨ t = (2 : Int32) ∨ t = (3 : Int32)) : own_sel t (own_e1 f p (0 : Int32)) (own_e1 f p (1 : Int32)) (own_e1 f p (2 : Int32)) (own_e1 f p (3 : Int32)) = own_e1 f p t := by rcases h with rfl | rfl | rfl | rfl <;> rfl
theorem own_sel2 {f p g q t : Int32} (h : t = (0 : Int32) ∨ t = (1 : Int32) ∨ t = (2 : Int32) ∨ t = (3 : Int32)) : own_sel t (own_e2 f p g q (0 : Int32)) (own_e2 f p g q (1 : Int32)) (own_e2 f p g q (2 : Int32)) (own_e2 f p g q (3 : Int32)) = own_e2 f p g q t := by rcases h with rfl | rfl | rfl | rfl <;> rfl
theorem own_sel0 {t : Int32} : own_sel t (-1 : Int32) (-1 : Int32) (-1 : Int32) (-1 : Int32) = (-1 : Int32) := by unfold own_sel; split <;> (try split) <;> (try split) <;> rfl
theorem own_p1a {f p t : Int32} (h : f = t) : own_e1 f p t = p := by simp [own_e1, h]
theorem own_p1b {f p t : Int32} (h : ¬ f = t) : own_e1 f p t = (-1 : Int32) := by simp [own_e1, h]
theorem own_p2a {f p g q t : Int32} (h : f = t) (n : ¬ g = f) : own_e2 f p g q t = p := by subst h; simp [own_e2, n]
theorem own_p2b {f p g q t : Int32} (h : g = t) : own_e2 f p g q t = q := by simp [own_e2, h]
theorem own_p2c {f p g q t : Int32} (h : ¬ f = t) (n : ¬ g = t) : own_e2 f p g q t = (-1 : Int32) := by simp [own_e2, h, n]
theorem own_3e1 {f p i : Int32} (h : p = (0 : Int32) ∨ p = (1 : Int32)) : own_e1 f p i = (-1 : Int32) ∨ own_e1 f p i = (0 : Int32) ∨ own_e1 f p i = (1 : Int32) := by
  unfold own_e1; split
  · exact Or.inr h
  · exact Or.inl rfl
theorem own_3e2 {f p g q i : Int32} (h : p = (0 : Int32) ∨ p = (1 : Int32)) (h' : q = (0 : Int32) ∨ q = (1 : Int32)) : own_e2 f p g q i = (-1 : Int32) ∨ own_e2 f p g q i = (0 : Int32) ∨ own_e2 f p g q i = (1 : Int32) := by
  unfold own_e2; split
  · exact Or.inr h'
  · split
    · exact Or.inr h
    · exact Or.inl rfl
theorem own_accN {w a b r d e : Int32} (h : own_acc w a b r d e) (q : w = (-1 : Int32)) : r = (0 : Int32) ∧ d = a ∧ e = b := by
  rcases h with h | h | h | h | h
  · exact h.2
  all_goals exact absurd (q.symm.trans h.1) (by decide)
theorem own_acc0 {w a b r d e : Int32} (h : own_acc w a b r d e) (q : w = (0 : Int32)) : (a = (2147483647 : Int32) ∧ r = (0 : Int32) ∧ d = a ∧ e = b) ∨ (¬ (a = (2147483647 : Int32)) ∧ r = (1 : Int32) ∧ d = (2147483647 : Int32) ∧ e = b) := by
  rcases h with h | h | h | h | h
  · exact absurd (q.symm.trans h.1) (by decide)
  · exact Or.inl h.2
  · exact Or.inr h.2
  all_goals exact absurd (q.symm.trans h.1) (by decide)
theorem own_acc1 {w a b r d e : Int32} (h : own_acc w a b r d e) (q : w = (1 : Int32)) : (b = (2147483647 : Int32) ∧ r = (0 : Int32) ∧ d = a ∧ e = b) ∨ (¬ (b = (2147483647 : Int32)) ∧ r = (1 : Int32) ∧ d = a ∧ e = (2147483647 : Int32)) := by
  rcases h with h | h | h | h | h
  · exact absurd (q.symm.trans h.1) (by decide)
  · exact absurd (q.symm.trans h.1) (by decide)
  · exact absurd (q.symm.trans h.1) (by decide)
  · exact Or.inl h.2
  · exact Or.inr h.2
theorem own_acc0' {w a b r d e : Int32} (h : own_acc w a b r d e) (q : w = (0 : Int32)) (hm : a = (2147483647 : Int32)) : r = (0 : Int32) ∧ d = a ∧ e = b := (own_acc0 h q).elim (fun x => x.2) (fun x => absurd hm x.1)
theorem own_acc1' {w a b r d e : Int32} (h : own_acc w a b r d e) (q : w = (1 : Int32)) (hm : b = (2147483647 : Int32)) : r = (0 : Int32) ∧ d = a ∧ e = b := (own_acc1 h q).elim (fun x => x.2) (fun x => absurd hm x.1)
theorem own_and {x m : Int32} (hm : 0 ≤ m.toInt) : 0 ≤ (x &&& m).toInt := (c_andS x m).2.2 hm
theorem own_r4 {x : Int32} (h : 0 ≤ x.toInt) : x % (4 : Int32) = (0 : Int32) ∨ x % (4 : Int32) = (1 : Int32) ∨ x % (4 : Int32) = (2 : Int32) ∨ x % (4 : Int32) = (3 : Int32) := by
  obtain ⟨h1, h2⟩ := own_rem h (show 0 < (4 : Int32).toInt by decide)
  have h3 : (4 : Int32).toInt = 4 := by decide
  rw [h3] at h2
  have h4 : (x % (4 : Int32)).toInt = 0 ∨ (x % (4 : Int32)).toInt = 1 ∨ (x % (4 : Int32)).toInt = 2 ∨ (x % (4 : Int32)).toInt = 3 := by omega
  rcases h4 with q | q | q | q
  · exact Or.inl (own_i _ q (by decide))
  · exact Or.inr (Or.inl (own_i _ q (by decide)))
  · exact Or.inr (Or.inr (Or.inl (own_i _ q (by decide))))
  · exact Or.inr (Or.inr (Or.inr (own_i _ q (by decide))))
theorem own_r3 {x : Int32} (h : 0 ≤ x.toInt) : x % (3 : Int32) = (0 : Int32) ∨ x % (3 : Int32) = (1 : Int32) ∨ x % (3 : Int32) = (2 : Int32) := by
  obtain ⟨h1, h2⟩ := own_rem h (show 0 < (3 : Int32).toInt by decide)
  have h3 : (3 : Int32).toInt = 3 := by decide
  rw [h3] at h2
  have h4 : (x % (3 : Int32)).toInt = 0 ∨ (x % (3 : Int32)).toInt = 1 ∨ (x % (3 : Int32)).toInt = 2 := by omega
  rcases h4 with q | q | q
  · exact Or.inl (own_i _ q (by decide))
  · exact Or.inr (Or.inl (own_i _ q (by decide)))
  · exact Or.inr (Or.inr (own_i _ q (by decide)))
theorem own_f1 {f d : Int32} (hf : f = (0 : Int32) ∨ f = (1 : Int32) ∨ f = (2 : Int32) ∨ f = (3 : Int32)) (hd : d = (0 : Int32) ∨ d = (1 : Int32) ∨ d = (2 : Int32)) : ((f + (1 : Int32) + d) % (4 : Int32) = (0 : Int32) ∨ (f + (1 : Int32) + d) % (4 : Int32) = (1 : Int32) ∨ (f + (1 : Int32) + d) % (4 : Int32) = (2 : Int32) ∨ (f + (1 : Int32) + d) % (4 : Int32) = (3 : Int32)) ∧ ¬ ((f + (1 : Int32) + d) % (4 : Int32) = f) := by
  rcases hf with rfl | rfl | rfl | rfl <;> rcases hd with rfl | rfl | rfl <;> decide
theorem own_cv4 {Z : State} {h : Heap} {a : Addr} {k : ClassId} {z x0 x1 x2 x3 y0 y1 y2 y3 : Int32} {d : Value} (V : Arv Z h a k .int z [(.int x0), (.int x1), (.int x2), (.int x3)] d) (e0 : x0 = y0) (e1 : x1 = y1) (e2 : x2 = y2) (e3 : x3 = y3) : Arv Z h a k .int z [(.int y0), (.int y1), (.int y2), (.int y3)] d := by subst e0 e1 e2 e3; exact V

theorem d_rmab_0 : decode jdk_22_method_1_code 0 = .ok (.aload_n 0, 1) := by decide +kernel
theorem d_rmab_1 : decode jdk_22_method_1_code 1 = .ok (.invokespecial 1, 3) := by decide +kernel
theorem d_rmab_4 : decode jdk_22_method_1_code 4 = .ok (.return_, 1) := by decide +kernel
theorem pn_rmab : plainName "java/util/AbstractCollection" = true := by first | (simp [plainName, overriddenIn]; done) | decide +kernel
theorem ef_rmab (m : MethodId) (a1 : Addr) : entryFrame m #[(.ref a1)] 1 = mkF m 0 #[.val (.ref a1)] [] := by first | (simp [entryFrame, mkF, argsToLocals, Value.category]; done) | rfl
def Q_rmab (Z : State) (a1 : Addr) (h0 : Heap) (n0 : Nat) (v : Option Value) (h : Heap) (L : List Loc) : Prop := v = none ∧ Fr n0 L ∧ h = h0
set_option maxRecDepth 65536 in
set_option maxHeartbeats 40000000 in
theorem rmab (l : Launch) (Z : State) (a0 : Array Value) (hw : ∀ d ∈ tables_1, d.before a0 Z = true) (ws : List Jvm.Cond) (a1 : Addr) (h0 : Heap) (n0 : Nat) (Z0 : n0 ≤ h0.size)  :
    MetFree l (⟨"java/util/AbstractCollection", "<init>", "()V"⟩ : MethodName) (head1 (Jvm.Cond.code (⟨"java/util/AbstractCollection", "<init>", "()V"⟩ : MethodName) jdk_22_method_1_code 1 none :: ws) ({ frames := 1, cells := 0, slots := 0, locals := 12 } : Room)) (fun a U => a = #[(.ref a1)] ∧ Z.Warmed39 U.vm ∧ U.heap = h0) (fun _ _ _ _ _ => True) (fun _ U o U' => ∃ v L, o = .returned v ∧ Q_rmab Z a1 h0 n0 v U'.heap L ∧ FrameEnd U o U' L ({ frames := 1, cells := 0, slots := 0, locals := 12 } : Room).cells ({ frames := 1, cells := 0, slots := 0, locals := 12 } : Room).slots) := by
  refine MetFree.of_bodySF (plainFor_of_name pn_rmab) hisR ?_
  intro p e s m args_ below meth c s₁ Bd hml0 hP hK
  obtain ⟨hargs, hZ, hh⟩ := hP
  have hx := Bd.exec
  have hby := Bd.bytes
  have hml : c.maxLocals = 1 := hml0
  have hown : s.vm.findClass "java/util/AbstractCollection" = some m.cls := findClass_of_methodNamed Bd.named
  have hnm := (name_of_methodNamed Bd.named Bd.method).1
  have X0 : Stand p l e ({ frames := 1, cells := 0, slots := 0, locals := 12 } : Room) s m args_ below meth c s₁ [] 0 0 := Stand.of_body Bd
  have e0 : s₁.heap = h0 := by rw [← hh, Bd.state]; rfl
  have N0 := Fr.nil n0
  have hv : ∀ (i : Nat) {d : Jvm.Cond}, tables_1[i]? = some d → d.before a0 Z = true := fun i d q => hw d (List.mem_of_getElem? q)
  have k0 : Go p e below m (s₁.setTop (entryFrame m args_ 1)) s₁ 0 #[.val (.ref a1)] [] := by rw [hargs]; exact fun t_ kt_ => castTop (ef_rmab m a1) kt_
  obtain ⟨W, hWW⟩ : ∃ W, W = s₁.setTop (entryFrame m args_ 1) := ⟨_, rfl⟩
  rw [← hWW] at k0 ⊢
  show Done p e below s W (Q_rmab Z a1 h0 n0) ({ frames := 1, cells := 0, slots := 0, locals := 12 } : Room).cells ({ frames := 1, cells := 0, slots := 0, locals := 12 } : Room).slots
  have k20 : Go p e below m W s₁ 1 #[.val (.ref a1)] [(.ref a1)] := k0.aloadN X0 hx (hb hby d_rmab_0) rfl rfl
  obtain ⟨T21, X21, e21, k21⟩ := k20.initO (Wd := 0) X0 hx hZ hown (by rw [hml]; rfl) (hv 19 rfl) (hv 20 rfl) (hv 21 rfl) e0 (hb hby d_rmab_1) (Nat.le_of_eq rfl) (by decide) (by decide)
  have k21 : Go p e below m W T21 4 #[.val (.ref a1)] [] := k21
  exact k21.return_ X21 hx Bd.returns (hb hby d_rmab_4) (BodyLoose.notSynchronized Bd) (by rw [e21]; exact ⟨rfl, N0, rfl⟩) (by decide) (by decide)

theorem d_rmal_0 : decode jdk_39_method_1_code 0 = .ok (.aload_n 0, 1) := by decide +kernel
theorem d_rmal_1 : decode jdk_39_method_1_code 1 = .ok (.invokespecial 1, 3) := by decide +kernel
theorem d_rmal_4 : decode jdk_39_method_1_code 4 = .ok (.aload_n 0, 1) := by decide +kernel
theorem d_rmal_5 : decode jdk_39_method_1_code 5 = .ok (.iconst 0, 1) := by decide +kernel
theorem d_rmal_6 : decode jdk_39_method_1_code 6 = .ok (.putfield 7, 3) := by decide +kernel
theorem d_rmal_9 : decode jdk_39_method_1_code 9 = .ok (.return_, 1) := by decide +kernel
theorem pn_rmal : plainName "java/util/AbstractList" = true := by first | (simp [plainName, overriddenIn]; done) | decide +kernel
theorem pd_rmal_0 : parseMethodDescriptor "()V" = some ⟨[], none⟩ := by decide +kernel
theorem ef_rmal (m : MethodId) (a1 : Addr) : entryFrame m #[(.ref a1)] 1 = mkF m 0 #[.val (.ref a1)] [] := by first | (simp [entryFrame, mkF, argsToLocals, Value.category]; done) | rfl
def Q_rmal (Z : State) (a1 : Addr) (u0 : Value) (u1 : Value) (u2 : Value) (h0 : Heap) (n0 : Nat) (v : Option Value) (h : Heap) (L : List Loc) : Prop := v = none ∧ Fr n0 L ∧ Keep h0 h [a1] ∧ Exa Z h a1 "java/util/ArrayList" ∧ Fld Z h a1 "java/util/AbstractList" "modCount" "I" (.int (0 : Int32)) ∧ Fld Z h a1 "java/util/ArrayList" "elementData" "[Ljava/lang/Object;" u1 ∧ Fld Z h a1 "java/util/ArrayList" "size" "I" u2
set_option maxRecDepth 65536 in
set_option maxHeartbeats 40000000 in
theorem rmal (l : Launch) (Z : State) (a0 : Array Value) (hw : ∀ d ∈ tables_1, d.before a0 Z = true) (ws : List Jvm.Cond) (a1 : Addr) (u0 : Value) (u1 : Value) (u2 : Value) (h0 : Heap) (n0 : Nat) (Z0 : n0 ≤ h0.size) (E1 : Exa Z h0 a1 "java/util/ArrayList") (G1 : n0 ≤ a1) (F0 : Fld Z h0 a1 "java/util/AbstractList" "modCount" "I" u0) (F1 : Fld Z h0 a1 "java/util/ArrayList" "elementData" "[Ljava/lang/Object;" u1) (F2 : Fld Z h0 a1 "java/util/ArrayList" "size" "I" u2) :
    MetFree l (⟨"java/util/AbstractList", "<init>", "()V"⟩ : MethodName) (head1 (Jvm.Cond.code (⟨"java/util/AbstractList", "<init>", "()V"⟩ : MethodName) jdk_39_method_1_code 1 none :: ws) ({ frames := 2, cells := 0, slots := 0, locals := 24 } : Room)) (fun a U => a = #[(.ref a1)] ∧ Z.Warmed39 U.vm ∧ U.heap = h0) (fun _ _ _ _ _ => True) (fun _ U o U' => ∃ v L, o = .returned v ∧ Q_rmal Z a1 u0 u1 u2 h0 n0 v U'.heap L ∧ FrameEnd U o U' L ({ frames := 2, cells := 0, slots := 0, locals := 24 } : Room).cells ({ frames := 2, cells := 0, slots := 0, locals := 24 } : Room).slots) := by
  refine MetFree.of_bodySF (plainFor_of_name pn_rmal) hisR ?_
  intro p e s m args_ below meth c s₁ Bd hml0 hP hK
  obtain ⟨hargs, hZ, hh⟩ := hP
  have hx := Bd.exec
  have hby := Bd.bytes
  have hml : c.maxLocals = 1 := hml0
  have hown : s.vm.findClass "java/util/AbstractList" = some m.cls := findClass_of_methodNamed Bd.named
  have hnm := (name_of_methodNamed Bd.named Bd.method).1
  have X0 : Stand p l e ({ frames := 2, cells := 0, slots := 0, locals := 24 } : Room) s m args_ below meth c s₁ [] 0 0 := Stand.of_body Bd
  have e0 : s₁.heap = h0 := by rw [← hh, Bd.state]; rfl
  have N0 := Fr.nil n0
  have hv : ∀ (i : Nat) {d : Jvm.Cond}, tables_1[i]? = some d → d.before a0 Z = true := fun i d q => hw d (List.mem_of_getElem? q)
  have K0 : Keep h0 h0 [a1] := Keep.refl _ _
  have k0 : Go p e below m (s₁.setTop (entryFrame m args_ 1)) s₁ 0 #[.val (.ref a1)] [] := by rw [hargs]; exact fun t_ kt_ => castTop (ef_rmal m a1) kt_
  obtain ⟨W, hWW⟩ : ∃ W, W = s₁.setTop (entryFrame m args_ 1) := ⟨_, rfl⟩
  rw [← hWW] at k0 ⊢
  show Done p e below s W (Q_rmal Z a1 u0 u1 u2 h0 n0) ({ frames := 2, cells := 0, slots := 0, locals := 24 } : Room).cells ({ frames := 2, cells := 0, slots := 0, locals := 24 } : Room).slots
  have k20 : Go p e below m W s₁ 1 #[.val (.ref a1)] [(.ref a1)] := k0.aloadN X0 hx (hb hby d_rmal_0) rfl rfl
  obtain ⟨T21, v21, L21, X21, Q21, k21⟩ := k20.spec (y := (⟨"java/util/AbstractCollection", "<init>", "()V"⟩ : MethodName)) (b := a1) (Wd := 0) (cells' := 0) (slots' := 0) (argsL := []) (rest := []) X0 hx hZ hown (by rw [hml]; rfl) rfl (hv 13 rfl) (hv 14 rfl) (hv 18 rfl) (hv 17 rfl) (hb hby d_rmal_1) (by decide) (rmab l Z a0 hw [] a1 h0 n0 Z0) e0 rfl rfl pd_rmal_0 rfl (Nat.le_of_eq rfl) (by decide) (by decide) rfl rfl (by decide) (by decide)
  obtain ⟨rfl, Nq21, e21q⟩ := Q21
  have N21 := Fr.app N0 Nq21
  have e21 : T21.heap = h0 := e21q
  have k21 : Go p e below m W T21 4 #[.val (.ref a1)] [] := k21
  have k22 : Go p e below m W T21 6 #[.val (.ref a1)] [(.int (0 : Int32)), (.ref a1)] := (k21.aloadN X21 hx (hb hby d_rmal_4) rfl rfl).iconst X21 hx (hb hby d_rmal_5) (v := (0 : Int32)) rfl
  obtain ⟨T23, h23, l23, X23, e23, W23, N23, k23⟩ := k22.putF X21 hx hZ hown (host := "") (Or.inl (hv 22 rfl)) Via.refl e21 F0 E1 (Or.inl (hv 23 rfl)) (hv 2 rfl) (ty := .int) (by decide) rfl rfl N21 G1 (hb hby d_rmal_6)
  have k23 : Go p e below m W T23 9 #[.val (.ref a1)] [] := k23
  have Z23 : n0 ≤ h23.size := (Wr.size W23).symm ▸ Z0
  have K23 : Keep h0 h23 [a1] := K0.wr W23 (Or.inl (List.mem_of_getElem? (i := 0) rfl))
  have g_1 := E1.wr W23
  have g_2 := F0.same W23
  have g_3 := F1.other W23 (Or.inr (slot_ne (Or.inl (hv 26 rfl)) (Or.inl (hv 23 rfl)) (by decide) (by decide : parseFieldDescriptor "[Ljava/lang/Object;" = some (.array (.object "java/lang/Object"))) (by decide : parseFieldDescriptor "I" = some .int)))
  have g_4 := F2.other W23 (Or.inr (slot_ne (Or.inl (hv 78 rfl)) (Or.inl (hv 23 rfl)) (by decide) (by decide : parseFieldDescriptor "I" = some .int) (by decide : parseFieldDescriptor "I" = some .int)))
  exact k23.return_ X23 hx Bd.returns (hb hby d_rmal_9) (BodyLoose.notSynchronized Bd) (by rw [e23]; exact ⟨rfl, N23, K23, g_1, g_2, g_3, g_4⟩) (by decide) (by decide)

theorem d_rmar_0 : decode jdk_38_method_2_code 0 = .ok (.aload_n 0, 1) := by decide +kernel
theorem d_rmar_1 : decode jdk_38_method_2_code 1 = .ok (.invokespecial 1, 3) := by decide +kernel
theorem d_rmar_4 : decode jdk_38_method_2_code 4 = .ok (.aload_n 0, 1) := by decide +kernel
theorem d_rmar_5 : decode jdk_38_method_2_code 5 = .ok (.getstatic 39, 3) := by decide +kernel
theorem d_rmar_8 : decode jdk_38_method_2_code 8 = .ok (.putfield 9, 3) := by decide +kernel
theorem d_rmar_11 : decode jdk_38_method_2_code 11 = .ok (.return_, 1) := by decide +kernel
theorem pn_rmar : plainName "java/util/ArrayList" = true := by first | (simp [plainName, overriddenIn]; done) | decide +kernel
theorem ef_rmar (m : MethodId) (a1 : Addr) : entryFrame m #[(.ref a1)] 1 = mkF m 0 #[.val (.ref a1)] [] := by first | (simp [entryFrame, mkF, argsToLocals, Value.category]; done) | rfl
def Q_rmar (Z : State) (a1 : Addr) (de : Addr) (u0 : Value) (u1 : Value) (h0 : Heap) (n0 : Nat) (v : Option Value) (h : Heap) (L : List Loc) : Prop := v = none ∧ Fr n0 L ∧ Keep h0 h [a1] ∧ Exa Z h a1 "java/util/ArrayList" ∧ Fld Z h a1 "java/util/AbstractList" "modCount" "I" (.int (0 : Int32)) ∧ Fld Z h a1 "java/util/ArrayList" "elementData" "[Ljava/lang/Object;" (.ref de) ∧ Fld Z h a1 "java/util/ArrayList" "size" "I" (.int (0 : Int32))
set_option maxRecDepth 65536 in
set_option maxHeartbeats 40000000 in
theorem rmar (l : Launch) (Z : State) (a0 : Array Value) (hw : ∀ d ∈ tables_1, d.before a0 Z = true) (ws : List Jvm.Cond) (a1 : Addr) (de : Addr) (u0 : Value) (u1 : Value) (h0 : Heap) (n0 : Nat) (Z0 : n0 ≤ h0.size) (O0 : Old Z n0 h0) (SD : Sta Z Z.heap "java/util/ArrayList" "DEFAULTCAPACITY_EMPTY_ELEMENTDATA" "[Ljava/lang/Object;" (.ref de)) (E1 : Exa Z h0 a1 "java/util/ArrayList") (G1 : n0 ≤ a1) (F0 : Fld Z h0 a1 "java/util/AbstractList" "modCount" "I" u0) (F1 : Fld Z h0 a1 "java/util/ArrayList" "elementData" "[Ljava/lang/Object;" u1) (F2 : Fld Z h0 a1 "java/util/ArrayList" "size" "I" (.int (0 : Int32))) :
    MetFree l (⟨"java/util/ArrayList", "<init>", "()V"⟩ : MethodName) (head1 (Jvm.Cond.code (⟨"java/util/ArrayList", "<init>", "()V"⟩ : MethodName) jdk_38_method_2_code 1 none :: ws) ({ frames := 3, cells := 0, slots := 0, locals := 36 } : Room)) (fun a U => a = #[(.ref a1)] ∧ Z.Warmed39 U.vm ∧ U.heap = h0) (fun _ _ _ _ _ => True) (fun _ U o U' => ∃ v L, o = .returned v ∧ Q_rmar Z a1 de u0 u1 h0 n0 v U'.heap L ∧ FrameEnd U o U' L ({ frames := 3, cells := 0, slots := 0, locals := 36 } : Room).cells ({ frames := 3, cells := 0, slots := 0, locals := 36 } : Room).slots) := by
  refine MetFree.of_bodySF (plainFor_of_name pn_rmar) hisR ?_
  intro p e s m args_ below meth c s₁ Bd hml0 hP hK
  obtain ⟨hargs, hZ, hh⟩ := hP
  have hx := Bd.exec
  have hby := Bd.bytes
  have hml : c.maxLocals = 1 := hml0
  have hown : s.vm.findClass "java/util/ArrayList" = some m.cls := findClass_of_methodNamed Bd.named
  have hnm := (name_of_methodNamed Bd.named Bd.method).1
  have X0 : Stand p l e ({ frames := 3, cells := 0, slots := 0, locals := 36 } : Room) s m args_ below meth c s₁ [] 0 0 := Stand.of_body Bd
  have e0 : s₁.heap = h0 := by rw [← hh, Bd.state]; rfl
  have N0 := Fr.nil n0
  have hv : ∀ (i : Nat) {d : Jvm.Cond}, tables_1[i]? = some d → d.before a0 Z = true := fun i d q => hw d (List.mem_of_getElem? q)
  have K0 : Keep h0 h0 [a1] := Keep.refl _ _
  have k0 : Go p e below m (s₁.setTop (entryFrame m args_ 1)) s₁ 0 #[.val (.ref a1)] [] := by rw [hargs]; exact fun t_ kt_ => castTop (ef_rmar m a1) kt_
  obtain ⟨W, hWW⟩ : ∃ W, W = s₁.setTop (entryFrame m args_ 1) := ⟨_, rfl⟩
  rw [← hWW] at k0 ⊢
  show Done p e below s W (Q_rmar Z a1 de u0 u1 h0 n0) ({ frames := 3, cells := 0, slots := 0, locals := 36 } : Room).cells ({ frames := 3, cells := 0, slots := 0, locals := 36 } : Room).slots
  have k20 : Go p e below m W s₁ 1 #[.val (.ref a1)] [(.ref a1)] := k0.aloadN X0 hx (hb hby d_rmar_0) rfl rfl
  obtain ⟨T21, v21, L21, X21, Q21, k21⟩ := k20.spec (y := (⟨"java/util/AbstractList", "<init>", "()V"⟩ : MethodName)) (b := a1) (Wd := 0) (cells' := 0) (slots' := 0) (argsL := []) (rest := []) X0 hx hZ hown (by rw [hml]; rfl) rfl (hv 7 rfl) (hv 8 rfl) (hv 12 rfl) (hv 11 rfl) (hb hby d_rmar_1) (by decide) (rmal l Z a0 hw [] a1 u0 u1 (.int (0 : Int32)) h0 n0 Z0 E1 G1 F0 F1 F2) e0 rfl rfl pd_rmal_0 rfl (Nat.le_of_eq rfl) (by decide) (by decide) rfl rfl (by decide) (by decide)
  obtain ⟨rfl, Nq21, Kq21, q21_0, q21_1, q21_2, q21_3⟩ := Q21
  have N21 := Fr.app N0 Nq21
  obtain ⟨h21, e21⟩ : ∃ h, T21.heap = h := ⟨_, rfl⟩
  rw [e21] at Kq21 q21_0 q21_1 q21_2 q21_3
  have Z21 : n0 ≤ h21.size := Nat.le_trans Z0 Kq21.1
  have K21 : Keep h0 h21 [a1] := K0.trans Kq21 (by intro x q; simp only [List.mem_cons, List.not_mem_nil, or_false] at q; rcases q with rfl; exact (Or.inl (List.mem_of_getElem? (i := 0) rfl)))
  have k21 : Go p e below m W T21 4 #[.val (.ref a1)] [] := k21
  have k22 : Go p e below m W T21 5 #[.val (.ref a1)] [(.ref a1)] := k21.aloadN X21 hx (hb hby d_rmar_4) rfl rfl
  have g_1 := O0.keep Kq21 (by intro x q; simp only [List.mem_cons, List.not_mem_nil, or_false] at q; rcases q with rfl; exact G1)
  obtain ⟨T23, X23, e23, k23⟩ := k22.getS X21 hx hZ hown (host := "") (Or.inl (hv 24 rfl)) Via.refl e21 (SD.ext g_1.2) (hb hby d_rmar_5)
  have k23 : Go p e below m W T23 8 #[.val (.ref a1)] [(.ref de), (.ref a1)] := k23
  obtain ⟨T24, h24, l24, X24, e24, W24, N24, k24⟩ := k23.putF X23 hx hZ hown (host := "") (Or.inl (hv 25 rfl)) Via.refl e23 q21_2 q21_0 (Or.inl (hv 26 rfl)) (hv 2 rfl) (ty := (.array (.object "java/lang/Object"))) (by decide) rfl rfl N21 G1 (hb hby d_rmar_8)
  have k24 : Go p e below m W T24 11 #[.val (.ref a1)] [] := k24
  have Z24 : n0 ≤ h24.size := (Wr.size W24).symm ▸ Z21
  have K24 : Keep h0 h24 [a1] := K21.wr W24 (Or.inl (List.mem_of_getElem? (i := 0) rfl))
  have g_2 := q21_0.wr W24
  have g_3 := q21_1.other W24 (Or.inr (slot_ne (Or.inl (hv 23 rfl)) (Or.inl (hv 26 rfl)) (by decide) (by decide : parseFieldDescriptor "I" = some .int) (by decide : parseFieldDescriptor "[Ljava/lang/Object;" = some (.array (.object "java/lang/Object")))))
  have g_4 := q21_2.same W24
  have g_5 := q21_3.other W24 (Or.inr (slot_ne (Or.inl (hv 78 rfl)) (Or.inl (hv 26 rfl)) (by decide) (by decide : parseFieldDescriptor "I" = some .int) (by decide : parseFieldDescriptor "[Ljava/lang/Object;" = some (.array (.object "java/lang/Object")))))
  exact k24.return_ X24 hx Bd.returns (hb hby d_rmar_11) (BodyLoose.notSynchronized Bd) (by rw [e24]; exact ⟨rfl, N24, K24, g_2, g_3, g_4, g_5⟩) (by decide) (by decide)

theorem d_rmmx_0 : decode jdk_29_method_65_code 0 = .ok (.iload_n 0, 1) := by decide +kernel
theorem d_rmmx_1 : decode jdk_29_method_65_code 1 = .ok (.iload_n 1, 1) := by decide +kernel
theorem d_rmmx_2 : decode jdk_29_method_65_code 2 = .ok (.if_icmp .lt 7, 3) := by decide +kernel
theorem d_rmmx_5 : decode jdk_29_method_65_code 5 = .ok (.iload_n 0, 1) := by decide +kernel
theorem d_rmmx_6 : decode jdk_29_method_65_code 6 = .ok (.goto 4, 3) := by decide +kernel
theorem d_rmmx_10 : decode jdk_29_method_65_code 10 = .ok (.ireturn, 1) := by decide +kernel
theorem pf_rmmx : plainFor (⟨"java/lang/Math", "max", "(II)I"⟩ : MethodName) = true := by
  unfold plainFor
  rw [Bool.or_eq_true]
  right
  decide +kernel
theorem ef_rmmx (m : MethodId)  : entryFrame m #[(.int (10 : Int32)), (.int (1 : Int32))] 2 = mkF m 0 #[.val (.int (10 : Int32)), .val (.int (1 : Int32))] [] := by first | (simp [entryFrame, mkF, argsToLocals, Value.category]; done) | rfl
def Q_rmmx (Z : State)  (h0 : Heap) (n0 : Nat) (v : Option Value) (h : Heap) (L : List Loc) : Prop := v = some (.int (10 : Int32)) ∧ Fr n0 L ∧ h = h0
set_option maxRecDepth 65536 in
set_option maxHeartbeats 40000000 in
theorem rmmx (l : Launch) (Z : State) (a0 : Array Value) (hw : ∀ d ∈ tables_1, d.before a0 Z = true) (ws : List Jvm.Cond)  (h0 : Heap) (n0 : Nat) (Z0 : n0 ≤ h0.size)  :
    MetFree l (⟨"java/lang/Math", "max", "(II)I"⟩ : MethodName) (head1 (Jvm.Cond.code (⟨"java/lang/Math", "max", "(II)I"⟩ : MethodName) jdk_29_method_65_code 2 (some .int) :: ws) ({ frames := 0, cells := 0, slots := 0, locals := 0 } : Room)) (fun a U => a = #[(.int (10 : Int32)), (.int (1 : Int32))] ∧ Z.Warmed39 U.vm ∧ U.heap = h0) (fun _ _ _ _ _ => True) (fun _ U o U' => ∃ v L, o = .returned v ∧ Q_rmmx Z  h0 n0 v U'.heap L ∧ FrameEnd U o U' L ({ frames := 0, cells := 0, slots := 0, locals := 0 } : Room).cells ({ frames := 0, cells := 0, slots := 0, locals := 0 } : Room).slots) := by
  refine MetFree.of_bodySF pf_rmmx hisR ?_
  intro p e s m args_ below meth c s₁ Bd hml0 hP hK
  obtain ⟨hargs, hZ, hh⟩ := hP
  have hx := Bd.exec
  have hby := Bd.bytes
  have hml : c.maxLocals = 2 := hml0
  have hown : s.vm.findClass "java/lang/Math" = some m.cls := findClass_of_methodNamed Bd.named
  have hnm := (name_of_methodNamed Bd.named Bd.method).1
  have X0 : Stand p l e ({ frames := 0, cells := 0, slots := 0, locals := 0 } : Room) s m args_ below meth c s₁ [] 0 0 := Stand.of_body Bd
  have e0 : s₁.heap = h0 := by rw [← hh, Bd.state]; rfl
  have N0 := Fr.nil n0
  have hv : ∀ (i : Nat) {d : Jvm.Cond}, tables_1[i]? = some d → d.before a0 Z = true := fun i d q => hw d (List.mem_of_getElem? q)
  have k0 : Go p e below m (s₁.setTop (entryFrame m args_ 2)) s₁ 0 #[.val (.int (10 : Int32)), .val (.int (1 : Int32))] [] := by rw [hargs]; exact fun t_ kt_ => castTop (ef_rmmx m ) kt_
  obtain ⟨W, hWW⟩ : ∃ W, W = s₁.setTop (entryFrame m args_ 2) := ⟨_, rfl⟩
  rw [← hWW] at k0 ⊢
  show Done p e below s W (Q_rmmx Z  h0 n0) ({ frames := 0, cells := 0, slots := 0, locals := 0 } : Room).cells ({ frames := 0, cells := 0, slots := 0, locals := 0 } : Room).slots
  have k20 : Go p e below m W s₁ 10 #[.val (.int (10 : Int32)), .val (.int (1 : Int32))] [(.int (10 : Int32))] := ((((k0.iloadN X0 hx (hb hby d_rmmx_0) rfl).iloadN X0 hx (hb hby d_rmmx_1) rfl).icmpNo X0 hx (hb hby d_rmmx_2) (XT.ii_lt_f (by decide))).iloadN X0 hx (hb hby d_rmmx_5) rfl).goto X0 hx (hb hby d_rmmx_6) (by decide) (by decide)
  exact k20.ireturnI X0 hx Bd.returns (hb hby d_rmmx_10) (BodyLoose.notSynchronized Bd) (by rw [e0]; exact ⟨rfl, N0, rfl⟩) (by decide) (by decide)

theorem d_rmgi_0 : decode jdk_38_method_6_code 0 = .ok (.aload_n 0, 1) := by decide +kernel
theorem d_rmgi_1 : decode jdk_38_method_6_code 1 = .ok (.getfield 9, 3) := by decide +kernel
theorem d_rmgi_4 : decode jdk_38_method_6_code 4 = .ok (.arraylength, 1) := by decide +kernel
theorem d_rmgi_5 : decode jdk_38_method_6_code 5 = .ok (.istore_n 2, 1) := by decide +kernel
theorem d_rmgi_6 : decode jdk_38_method_6_code 6 = .ok (.iload_n 2, 1) := by decide +kernel
theorem d_rmgi_7 : decode jdk_38_method_6_code 7 = .ok (.ifCond .gt 13, 3) := by decide +kernel
theorem d_rmgi_10 : decode jdk_38_method_6_code 10 = .ok (.aload_n 0, 1) := by decide +kernel
theorem d_rmgi_11 : decode jdk_38_method_6_code 11 = .ok (.getfield 9, 3) := by decide +kernel
theorem d_rmgi_14 : decode jdk_38_method_6_code 14 = .ok (.getstatic 39, 3) := by decide +kernel
theorem d_rmgi_17 : decode jdk_38_method_6_code 17 = .ok (.if_acmp .eq 28, 3) := by decide +kernel
theorem d_rmgi_45 : decode jdk_38_method_6_code 45 = .ok (.aload_n 0, 1) := by decide +kernel
theorem d_rmgi_46 : decode jdk_38_method_6_code 46 = .ok (.bipush 10, 2) := by decide +kernel
theorem d_rmgi_48 : decode jdk_38_method_6_code 48 = .ok (.iload_n 1, 1) := by decide +kernel
theorem d_rmgi_49 : decode jdk_38_method_6_code 49 = .ok (.invokestatic 79, 3) := by decide +kernel
theorem d_rmgi_52 : decode jdk_38_method_6_code 52 = .ok (.anewarray 7, 3) := by decide +kernel
theorem d_rmgi_55 : decode jdk_38_method_6_code 55 = .ok (.dup_x1, 1) := by decide +kernel
theorem d_rmgi_56 : decode jdk_38_method_6_code 56 = .ok (.putfield 9, 3) := by decide +kernel
theorem d_rmgi_59 : decode jdk_38_method_6_code 59 = .ok (.areturn, 1) := by decide +kernel
theorem pd_rmgi_0 : parseMethodDescriptor "(II)I" = some ⟨[.int, .int], (some .int)⟩ := by decide +kernel
theorem ef_rmgi (m : MethodId) (a1 : Addr) : entryFrame m #[(.ref a1), (.int (1 : Int32))] 4 = mkF m 0 #[.val (.ref a1), .val (.int (1 : Int32)), .unset, .unset] [] := by first | (simp [entryFrame, mkF, argsToLocals, Value.category]; done) | rfl
def Q_rmgi (Z : State) (a1 : Addr) (de : Addr) (kd : ClassId) (h0 : Heap) (n0 : Nat) (v : Option Value) (h : Heap) (L : List Loc) : Prop := ∃ (ob : Addr) (ok : ClassId), v = some (.ref ob) ∧ Fr n0 L ∧ Keep h0 h [a1] ∧ Exa Z h a1 "java/util/ArrayList" ∧ Fld Z h a1 "java/util/AbstractList" "modCount" "I" (.int (1 : Int32)) ∧ Fld Z h a1 "java/util/ArrayList" "elementData" "[Ljava/lang/Object;" (.ref ob) ∧ Fld Z h a1 "java/util/ArrayList" "size" "I" (.int (0 : Int32)) ∧ Arv Z h ob ok (.object "java/lang/Object") (10 : Int32) [.null, .null, .null, .null, .null, .null, .null, .null, .null, .null] .null ∧ n0 ≤ ob ∧ h0.size ≤ ob ∧ Ovr Z ok "java/lang/Object" ∧ a1 ≠ ob
set_option maxRecDepth 65536 in
set_option maxHeartbeats 40000000 in
theorem rmgi (l : Launch) (Z : State) (a0 : Array Value) (hw : ∀ d ∈ tables_1, d.before a0 Z = true) (ws : List Jvm.Cond) (a1 : Addr) (de : Addr) (kd : ClassId) (h0 : Heap) (n0 : Nat) (Z0 : n0 ≤ h0.size) (O0 : Old Z n0 h0) (SD : Sta Z Z.heap "java/util/ArrayList" "DEFAULTCAPACITY_EMPTY_ELEMENTDATA" "[Ljava/lang/Object;" (.ref de)) (VD : Arv Z Z.heap de kd (.object "java/lang/Object") (0 : Int32) [] .null) (E1 : Exa Z h0 a1 "java/util/ArrayList") (G1 : n0 ≤ a1) (F0 : Fld Z h0 a1 "java/util/AbstractList" "modCount" "I" (.int (1 : Int32))) (F1 : Fld Z h0 a1 "java/util/ArrayList" "elementData" "[Ljava/lang/Object;" (.ref de)) (F2 : Fld Z h0 a1 "java/util/ArrayList" "size" "I" (.int (0 : Int32))) :
    MetFree l (⟨"java/util/ArrayList", "grow", "(I)[Ljava/lang/Object;"⟩ : MethodName) (head1 (Jvm.Cond.code (⟨"java/util/ArrayList", "grow", "(I)[Ljava/lang/Object;"⟩ : MethodName) jdk_38_method_6_code 4 (some (.array (.object "java/lang/Object"))) :: ws) ({ frames := 1, cells := 1, slots := 10, locals := 14 } : Room)) (fun a U => a = #[(.ref a1), (.int (1 : Int32))] ∧ Z.Warmed39 U.vm ∧ U.heap = h0) (fun _ _ _ _ _ => True) (fun _ U o U' => ∃ v L, o = .returned v ∧ Q_rmgi Z a1 de kd h0 n0 v U'.heap L ∧ FrameEnd U o U' L ({ frames := 1, cells := 1, slots := 10, locals := 14 } : Room).cells ({ frames := 1, cells := 1, slots := 10, locals := 14 } : Room).slots) := by
  refine MetFree.of_bodySF (plainFor_of_name pn_rmar) hisR ?_
  intro p e s m args_ below meth c s₁ Bd hml0 hP hK
  obtain ⟨hargs, hZ, hh⟩ := hP
  have hx := Bd.exec
  have hby := Bd.bytes
  have hml : c.maxLocals = 4 := hml0
  have hown : s.vm.findClass "java/util/ArrayList" = some m.cls := findClass_of_methodNamed Bd.named
  have hnm := (name_of_methodNamed Bd.named Bd.method).1
  have X0 : Stand p l e ({ frames := 1, cells := 1, slots := 10, locals := 14 } : Room) s m args_ below meth c s₁ [] 0 0 := Stand.of_body Bd
  have e0 : s₁.heap = h0 := by rw [← hh, Bd.state]; rfl
  have N0 := Fr.nil n0
  have hv : ∀ (i : Nat) {d : Jvm.Cond}, tables_1[i]? = some d → d.before a0 Z = true := fun i d q => hw d (List.mem_of_getElem? q)
  have K0 : Keep h0 h0 [a1] := Keep.refl _ _
  have k0 : Go p e below m (s₁.setTop (entryFrame m args_ 4)) s₁ 0 #[.val (.ref a1), .val (.int (1 : Int32)), .unset, .unset] [] := by rw [hargs]; exact fun t_ kt_ => castTop (ef_rmgi m a1) kt_
  obtain ⟨W, hWW⟩ : ∃ W, W = s₁.setTop (entryFrame m args_ 4) := ⟨_, rfl⟩
  rw [← hWW] at k0 ⊢
  show Done p e below s W (Q_rmgi Z a1 de kd h0 n0) ({ frames := 1, cells := 1, slots := 10, locals := 14 } : Room).cells ({ frames := 1, cells := 1, slots := 10, locals := 14 } : Room).slots
  have k20 : Go p e below m W s₁ 1 #[.val (.ref a1), .val (.int (1 : Int32)), .unset, .unset] [(.ref a1)] := k0.aloadN X0 hx (hb hby d_rmgi_0) rfl rfl
  obtain ⟨T21, X21, e21, k21⟩ := k20.getF X0 hx hZ hown (host := "") (Or.inl (hv 25 rfl)) Via.refl e0 F1 (hb hby d_rmgi_1)
  have k21 : Go p e below m W T21 4 #[.val (.ref a1), .val (.int (1 : Int32)), .unset, .unset] [(.ref de)] := k21
  have k22 : Go p e below m W T21 6 #[.val (.ref a1), .val (.int (1 : Int32)), .val (.int (0 : Int32)), .unset] [] := (k21.arraylength X21 hx hZ e21 (VD.ext O0.2) (hb hby d_rmgi_4)).istoreN X21 hx (hb hby d_rmgi_5) rfl
  have k23 : Go p e below m W T21 11 #[.val (.ref a1), .val (.int (1 : Int32)), .val (.int (0 : Int32)), .unset] [(.ref a1)] := ((k22.iloadN X21 hx (hb hby d_rmgi_6) rfl).ifNo X21 hx (hb hby d_rmgi_7) (XT.i0_gt_f (by decide))).aloadN X21 hx (hb hby d_rmgi_10) rfl rfl
  obtain ⟨T24, X24, e24, k24⟩ := k23.getF X21 hx hZ hown (host := "") (Or.inl (hv 25 rfl)) Via.refl e21 F1 (hb hby d_rmgi_11)
  have k24 : Go p e below m W T24 14 #[.val (.ref a1), .val (.int (1 : Int32)), .val (.int (0 : Int32)), .unset] [(.ref de)] := k24
  obtain ⟨T25, X25, e25, k25⟩ := k24.getS X24 hx hZ hown (host := "") (Or.inl (hv 24 rfl)) Via.refl e24 (SD.ext O0.2) (hb hby d_rmgi_14)
  have k25 : Go p e below m W T25 17 #[.val (.ref a1), .val (.int (1 : Int32)), .val (.int (0 : Int32)), .unset] [(.ref de), (.ref de)] := k25
  have k26 : Go p e below m W T25 49 #[.val (.ref a1), .val (.int (1 : Int32)), .val (.int (0 : Int32)), .unset] [(.int (1 : Int32)), (.int (10 : Int32)), (.ref a1)] := (((k25.acmpYes X25 hx (hb hby d_rmgi_17) rfl rfl (XT.aa_eq_t rfl) (by decide) (by decide)).aloadN X25 hx (hb hby d_rmgi_45) rfl rfl).bipush X25 hx (hb hby d_rmgi_46) (v := (10 : Int32)) rfl).iloadN X25 hx (hb hby d_rmgi_48) rfl
  obtain ⟨T27, v27, L27, X27, Q27, k27⟩ := k26.stat (y := (⟨"java/lang/Math", "max", "(II)I"⟩ : MethodName)) (Wd := 1) (cells' := 0) (slots' := 0) (argsL := [(.int (10 : Int32)), (.int (1 : Int32))]) (rest := [(.ref a1)]) X25 hx hZ hown (by rw [hml]; rfl) (hv 137 rfl) (hv 138 rfl) (hv 140 rfl) (hv 139 rfl) (hb hby d_rmgi_49) (by decide) (rmmx l Z a0 hw []  h0 n0 Z0) e25 rfl rfl pd_rmgi_0 rfl (Nat.le_of_eq rfl) (by decide) (by decide) rfl rfl (by decide) (by decide)
  obtain ⟨rfl, Nq27, e27q⟩ := Q27
  have N27 := Fr.app N0 Nq27
  have e27 : T27.heap = h0 := e27q
  have k27 : Go p e below m W T27 52 #[.val (.ref a1), .val (.int (1 : Int32)), .val (.int (0 : Int32)), .unset] [(.int (10 : Int32)), (.ref a1)] := k27
  obtain ⟨T28, h28, b28, c28, X28, e28, g28, E28, A28, O28, k28⟩ := k27.newR (cap := 10) (cells' := 1) (slots' := 10) X27 hx hZ hown (hv 141 rfl) (hv 142 rfl) e27 (hb hby d_rmgi_52) (by decide) (by decide) (by decide) rfl rfl (by decide) (by decide)
  have k28 : Go p e below m W T28 55 #[.val (.ref a1), .val (.int (1 : Int32)), .val (.int (0 : Int32)), .unset] [(.ref b28), (.ref a1)] := k28
  have Z28 : n0 ≤ h28.size := Nat.le_trans Z0 E28.1
  have G28 : n0 ≤ b28 := g28 ▸ Z0
  have H28 : h0.size ≤ b28 := g28 ▸ K0.1
  have K28 : Keep h0 h28 [a1] := K0.ext E28
  have V28 : Arv Z h28 b28 c28 (.object "java/lang/Object") (10 : Int32) [.null, .null, .null, .null, .null, .null, .null, .null, .null, .null] .null := A28 10
  have k29 : Go p e below m W T28 56 #[.val (.ref a1), .val (.int (1 : Int32)), .val (.int (0 : Int32)), .unset] [(.ref b28), (.ref a1), (.ref b28)] := k28.dupX1 X28 hx (hb hby d_rmgi_55) rfl rfl
  have g_1 := F1.ext E28
  have g_2 := E1.ext E28
  obtain ⟨T30, h30, l30, X30, e30, W30, N30, k30⟩ := k29.putF X28 hx hZ hown (host := "") (Or.inl (hv 25 rfl)) Via.refl e28 g_1 g_2 (Or.inl (hv 26 rfl)) (hv 2 rfl) (ty := (.array (.object "java/lang/Object"))) (by decide) rfl rfl N27 G1 (hb hby d_rmgi_56)
  have k30 : Go p e below m W T30 59 #[.val (.ref a1), .val (.int (1 : Int32)), .val (.int (0 : Int32)), .unset] [(.ref b28)] := k30
  have Z30 : n0 ≤ h30.size := (Wr.size W30).symm ▸ Z28
  have K30 : Keep h0 h30 [a1] := K28.wr W30 (Or.inl (List.mem_of_getElem? (i := 0) rfl))
  have g_3 := g_2.wr W30
  have g_4 := (F0.ext E28).other W30 (Or.inr (slot_ne (Or.inl (hv 23 rfl)) (Or.inl (hv 26 rfl)) (by decide) (by decide : parseFieldDescriptor "I" = some .int) (by decide : parseFieldDescriptor "[Ljava/lang/Object;" = some (.array (.object "java/lang/Object")))))
  have g_5 := g_1.same W30
  have g_6 := (F2.ext E28).other W30 (Or.inr (slot_ne (Or.inl (hv 78 rfl)) (Or.inl (hv 26 rfl)) (by decide) (by decide : parseFieldDescriptor "I" = some .int) (by decide : parseFieldDescriptor "[Ljava/lang/Object;" = some (.array (.object "java/lang/Object")))))
  have g_7 := (show a1 ≠ b28 from Nat.ne_of_lt (g28 ▸ E1.lt))
  have g_8 := V28.other W30 (Ne.symm g_7)
  exact k30.areturn X30 hx Bd.returns rfl rfl (hb hby d_rmgi_59) (BodyLoose.notSynchronized Bd) (by rw [e30]; exact ⟨b28, c28, rfl, N30, K30, g_3, g_4, g_5, g_6, g_8, G28, H28, O28, g_7⟩) (by decide) (by decide)

theorem d_rmg0_0 : decode jdk_38_method_7_code 0 = .ok (.aload_n 0, 1) := by decide +kernel
theorem d_rmg0_1 : decode jdk_38_method_7_code 1 = .ok (.aload_n 0, 1) := by decide +kernel
theorem d_rmg0_2 : decode jdk_38_method_7_code 2 = .ok (.getfield 48, 3) := by decide +kernel
theorem d_rmg0_5 : decode jdk_38_method_7_code 5 = .ok (.iconst 1, 1) := by decide +kernel
theorem d_rmg0_6 : decode jdk_38_method_7_code 6 = .ok (.iadd, 1) := by decide +kernel
theorem d_rmg0_7 : decode jdk_38_method_7_code 7 = .ok (.invokevirtual 69, 3) := by decide +kernel
theorem d_rmg0_10 : decode jdk_38_method_7_code 10 = .ok (.areturn, 1) := by decide +kernel
theorem pd_rmg0_0 : parseMethodDescriptor "(I)[Ljava/lang/Object;" = some ⟨[.int], (some (.array (.object "java/lang/Object")))⟩ := by decide +kernel
theorem ef_rmg0 (m : MethodId) (a1 : Addr) : entryFrame m #[(.ref a1)] 1 = mkF m 0 #[.val (.ref a1)] [] := by first | (simp [entryFrame, mkF, argsToLocals, Value.category]; done) | rfl
def Q_rmg0 (Z : State) (a1 : Addr) (de : Addr) (kd : ClassId) (h0 : Heap) (n0 : Nat) (v : Option Value) (h : Heap) (L : List Loc) : Prop := ∃ (ob : Addr) (ok : ClassId), v = some (.ref ob) ∧ Fr n0 L ∧ Keep h0 h [a1] ∧ Exa Z h a1 "java/util/ArrayList" ∧ Fld Z h a1 "java/util/AbstractList" "modCount" "I" (.int (1 : Int32)) ∧ Fld Z h a1 "java/util/ArrayList" "elementData" "[Ljava/lang/Object;" (.ref ob) ∧ Fld Z h a1 "java/util/ArrayList" "size" "I" (.int (0 : Int32)) ∧ Arv Z h ob ok (.object "java/lang/Object") (10 : Int32) [.null, .null, .null, .null, .null, .null, .null, .null, .null, .null] .null ∧ n0 ≤ ob ∧ h0.size ≤ ob ∧ Ovr Z ok "java/lang/Object" ∧ a1 ≠ ob
set_option maxRecDepth 65536 in
set_option maxHeartbeats 40000000 in
theorem rmg0 (l : Launch) (Z : State) (a0 : Array Value) (hw : ∀ d ∈ tables_1, d.before a0 Z = true) (ws : List Jvm.Cond) (a1 : Addr) (de : Addr) (kd : ClassId) (h0 : Heap) (n0 : Nat) (Z0 : n0 ≤ h0.size) (O0 : Old Z n0 h0) (SD : Sta Z Z.heap "java/util/ArrayList" "DEFAULTCAPACITY_EMPTY_ELEMENTDATA" "[Ljava/lang/Object;" (.ref de)) (VD : Arv Z Z.heap de kd (.object "java/lang/Object") (0 : Int32) [] .null) (E1 : Exa Z h0 a1 "java/util/ArrayList") (G1 : n0 ≤ a1) (F0 : Fld Z h0 a1 "java/util/AbstractList" "modCount" "I" (.int (1 : Int32))) (F1 : Fld Z h0 a1 "java/util/ArrayList" "elementData" "[Ljava/lang/Object;" (.ref de)) (F2 : Fld Z h0 a1 "java/util/ArrayList" "size" "I" (.int (0 : Int32))) :
    MetFree l (⟨"java/util/ArrayList", "grow", "()[Ljava/lang/Object;"⟩ : MethodName) (head1 (Jvm.Cond.code (⟨"java/util/ArrayList", "grow", "()[Ljava/lang/Object;"⟩ : MethodName) jdk_38_method_7_code 1 (some (.array (.object "java/lang/Object"))) :: ws) ({ frames := 2, cells := 1, slots := 10, locals := 29 } : Room)) (fun a U => a = #[(.ref a1)] ∧ Z.Warmed39 U.vm ∧ U.heap = h0) (fun _ _ _ _ _ => True) (fun _ U o U' => ∃ v L, o = .returned v ∧ Q_rmg0 Z a1 de kd h0 n0 v U'.heap L ∧ FrameEnd U o U' L ({ frames := 2, cells := 1, slots := 10, locals := 29 } : Room).cells ({ frames := 2, cells := 1, slots := 10, locals := 29 } : Room).slots) := by
  refine MetFree.of_bodySF (plainFor_of_name pn_rmar) hisR ?_
  intro p e s m args_ below meth c s₁ Bd hml0 hP hK
  obtain ⟨hargs, hZ, hh⟩ := hP
  have hx := Bd.exec
  have hby := Bd.bytes
  have hml : c.maxLocals = 1 := hml0
  have hown : s.vm.findClass "java/util/ArrayList" = some m.cls := findClass_of_methodNamed Bd.named
  have hnm := (name_of_methodNamed Bd.named Bd.method).1
  have X0 : Stand p l e ({ frames := 2, cells := 1, slots := 10, locals := 29 } : Room) s m args_ below meth c s₁ [] 0 0 := Stand.of_body Bd
  have e0 : s₁.heap = h0 := by rw [← hh, Bd.state]; rfl
  have N0 := Fr.nil n0
  have hv : ∀ (i : Nat) {d : Jvm.Cond}, tables_1[i]? = some d → d.before a0 Z = true := fun i d q => hw d (List.mem_of_getElem? q)
  have K0 : Keep h0 h0 [a1] := Keep.refl _ _
  have k0 : Go p e below m (s₁.setTop (entryFrame m args_ 1)) s₁ 0 #[.val (.ref a1)] [] := by rw [hargs]; exact fun t_ kt_ => castTop (ef_rmg0 m a1) kt_
  obtain ⟨W, hWW⟩ : ∃ W, W = s₁.setTop (entryFrame m args_ 1) := ⟨_, rfl⟩
  rw [← hWW] at k0 ⊢
  show Done p e below s W (Q_rmg0 Z a1 de kd h0 n0) ({ frames := 2, cells := 1, slots := 10, locals := 29 } : Room).cells ({ frames := 2, cells := 1, slots := 10, locals := 29 } : Room).slots
  have k20 : Go p e below m W s₁ 2 #[.val (.ref a1)] [(.ref a1), (.ref a1)] := (k0.aloadN X0 hx (hb hby d_rmg0_0) rfl rfl).aloadN X0 hx (hb hby d_rmg0_1) rfl rfl
  obtain ⟨T21, X21, e21, k21⟩ := k20.getF X0 hx hZ hown (host := "") (Or.inl (hv 87 rfl)) Via.refl e0 F2 (hb hby d_rmg0_2)
  have k21 : Go p e below m W T21 5 #[.val (.ref a1)] [(.int (0 : Int32)), (.ref a1)] := k21
  have k22 : Go p e below m W T21 7 #[.val (.ref a1)] [(.int (1 : Int32)), (.ref a1)] := ((k21.iconst X21 hx (hb hby d_rmg0_5) (v := (1 : Int32)) rfl).iadd X21 hx (hb hby d_rmg0_6)).cast (y := (1 : Int32)) (by decide)
  obtain ⟨T23, v23, L23, X23, Q23, k23⟩ := k22.priv (y := (⟨"java/util/ArrayList", "grow", "(I)[Ljava/lang/Object;"⟩ : MethodName)) (Wd := 0) (cells' := 1) (slots' := 10) (argsL := [(.int (1 : Int32))]) (rest := []) X21 hx hZ hown (by rw [hml]; rfl) (hv 132 rfl) (hv 133 rfl) (hv 135 rfl) (hv 134 rfl) (hv 136 rfl) (hv 3 rfl) (hb hby d_rmg0_7) (by decide) (rmgi l Z a0 hw [] a1 de kd h0 n0 Z0 O0 SD VD E1 G1 F0 F1 F2) e21 E1 rfl rfl pd_rmg0_0 rfl (Nat.le_of_eq rfl) (by decide) (by decide) rfl rfl (by decide) (by decide)
  obtain ⟨ob_23, ok_23, rfl, Nq23, Kq23, q23_0, q23_1, q23_2, q23_3, q23_4, q23_5, q23_6, q23_7, q23_8⟩ := Q23
  have N23 := Fr.app N0 Nq23
  obtain ⟨h23, e23⟩ : ∃ h, T23.heap = h := ⟨_, rfl⟩
  rw [e23] at Kq23 q23_0 q23_1 q23_2 q23_3 q23_4
  have Z23 : n0 ≤ h23.size := Nat.le_trans Z0 Kq23.1
  have K23 : Keep h0 h23 [a1] := K0.trans Kq23 (by intro x q; simp only [List.mem_cons, List.not_mem_nil, or_false] at q; rcases q with rfl; exact (Or.inl (List.mem_of_getElem? (i := 0) rfl)))
  have H24 : h0.size ≤ ob_23 := Nat.le_trans K0.1 q23_6
  have k23 : Go p e below m W T23 10 #[.val (.ref a1)] [(.ref ob_23)] := k23
  exact k23.areturn X23 hx Bd.returns rfl rfl (hb hby d_rmg0_10) (BodyLoose.notSynchronized Bd) (by rw [e23]; exact ⟨ob_23, ok_23, rfl, N23, K23, q23_0, q23_1, q23_2, q23_3, q23_4, q23_5, H24, q23_7, q23_8⟩) (by decide) (by decide)

theorem d_rmp0_0 : decode jdk_38_method_24_code 0 = .ok (.iload_n 3, 1) := by decide +kernel
theorem d_rmp0_1 : decode jdk_38_method_24_code 1 = .ok (.aload_n 2, 1) := by decide +kernel
theorem d_rmp0_2 : decode jdk_38_method_24_code 2 = .ok (.arraylength, 1) := by decide +kernel
theorem d_rmp0_3 : decode jdk_38_method_24_code 3 = .ok (.if_icmp .ne 8, 3) := by decide +kernel
theorem d_rmp0_6 : decode jdk_38_method_24_code 6 = .ok (.aload_n 0, 1) := by decide +kernel
theorem d_rmp0_7 : decode jdk_38_method_24_code 7 = .ok (.invokevirtual 129, 3) := by decide +kernel
theorem d_rmp0_10 : decode jdk_38_method_24_code 10 = .ok (.astore_n 2, 1) := by decide +kernel
theorem d_rmp0_11 : decode jdk_38_method_24_code 11 = .ok (.aload_n 2, 1) := by decide +kernel
theorem d_rmp0_12 : decode jdk_38_method_24_code 12 = .ok (.iload_n 3, 1) := by decide +kernel
theorem d_rmp0_13 : decode jdk_38_method_24_code 13 = .ok (.aload_n 1, 1) := by decide +kernel
theorem d_rmp0_14 : decode jdk_38_method_24_code 14 = .ok (.aastore, 1) := by decide +kernel
theorem d_rmp0_15 : decode jdk_38_method_24_code 15 = .ok (.aload_n 0, 1) := by decide +kernel
theorem d_rmp0_16 : decode jdk_38_method_24_code 16 = .ok (.iload_n 3, 1) := by decide +kernel
theorem d_rmp0_17 : decode jdk_38_method_24_code 17 = .ok (.iconst 1, 1) := by decide +kernel
theorem d_rmp0_18 : decode jdk_38_method_24_code 18 = .ok (.iadd, 1) := by decide +kernel
theorem d_rmp0_19 : decode jdk_38_method_24_code 19 = .ok (.putfield 48, 3) := by decide +kernel
theorem d_rmp0_22 : decode jdk_38_method_24_code 22 = .ok (.return_, 1) := by decide +kernel
theorem pd_rmp0_0 : parseMethodDescriptor "()[Ljava/lang/Object;" = some ⟨[], (some (.array (.object "java/lang/Object")))⟩ := by decide +kernel
theorem ef_rmp0 (m : MethodId) (a1 : Addr) (x : Addr) (de : Addr) : entryFrame m #[(.ref a1), (.ref x), (.ref de), (.int (0 : Int32))] 4 = mkF m 0 #[.val (.ref a1), .val (.ref x), .val (.ref de), .val (.int (0 : Int32))] [] := by first | (simp [entryFrame, mkF, argsToLocals, Value.category]; done) | rfl
def Q_rmp0 (Z : State) (a1 : Addr) (de : Addr) (kd : ClassId) (x : Addr) (h0 : Heap) (n0 : Nat) (v : Option Value) (h : Heap) (L : List Loc) : Prop := ∃ (ob : Addr) (ok : ClassId), v = none ∧ Fr n0 L ∧ Keep h0 h [a1] ∧ Exa Z h a1 "java/util/ArrayList" ∧ Fld Z h a1 "java/util/AbstractList" "modCount" "I" (.int (1 : Int32)) ∧ Fld Z h a1 "java/util/ArrayList" "elementData" "[Ljava/lang/Object;" (.ref ob) ∧ Fld Z h a1 "java/util/ArrayList" "size" "I" (.int (1 : Int32)) ∧ Arv Z h ob ok (.object "java/lang/Object") (10 : Int32) [(.ref x), .null, .null, .null, .null, .null, .null, .null, .null, .null] .null ∧ n0 ≤ ob ∧ h0.size ≤ ob ∧ Ovr Z ok "java/lang/Object" ∧ a1 ≠ ob
set_option maxRecDepth 65536 in
set_option maxHeartbeats 40000000 in
theorem rmp0 (l : Launch) (Z : State) (a0 : Array Value) (hw : ∀ d ∈ tables_1, d.before a0 Z = true) (ws : List Jvm.Cond) (a1 : Addr) (de : Addr) (kd : ClassId) (x : Addr) (h0 : Heap) (n0 : Nat) (Z0 : n0 ≤ h0.size) (O0 : Old Z n0 h0) (SD : Sta Z Z.heap "java/util/ArrayList" "DEFAULTCAPACITY_EMPTY_ELEMENTDATA" "[Ljava/lang/Object;" (.ref de)) (VD : Arv Z Z.heap de kd (.object "java/lang/Object") (0 : Int32) [] .null) (Ex : Exa Z h0 x "com/example/enact/enact/Classification$Flat") (E1 : Exa Z h0 a1 "java/util/ArrayList") (G1 : n0 ≤ a1) (F0 : Fld Z h0 a1 "java/util/AbstractList" "modCount" "I" (.int (1 : Int32))) (F1 : Fld Z h0 a1 "java/util/ArrayList" "elementData" "[Ljava/lang/Object;" (.ref de)) (F2 : Fld Z h0 a1 "java/util/ArrayList" "size" "I" (.int (0 : Int32))) :
    MetFree l (⟨"java/util/ArrayList", "add", "(Ljava/lang/Object;[Ljava/lang/Object;I)V"⟩ : MethodName) (head1 (Jvm.Cond.code (⟨"java/util/ArrayList", "add", "(Ljava/lang/Object;[Ljava/lang/Object;I)V"⟩ : MethodName) jdk_38_method_24_code 4 none :: ws) ({ frames := 3, cells := 1, slots := 10, locals := 41 } : Room)) (fun a U => a = #[(.ref a1), (.ref x), (.ref de), (.int (0 : Int32))] ∧ Z.Warmed39 U.vm ∧ U.heap = h0) (fun _ _ _ _ _ => True) (fun _ U o U' => ∃ v L, o = .returned v ∧ Q_rmp0 Z a1 de kd x h0 n0 v U'.heap L ∧ FrameEnd U o U' L ({ frames := 3, cells := 1, slots := 10, locals := 41 } : Room).cells ({ frames := 3, cells := 1, slots := 10, locals := 41 } : Room).slots) := by
  refine MetFree.of_bodySF (plainFor_of_name pn_rmar) hisR ?_
  intro p e s m args_ below meth c s₁ Bd hml0 hP hK
  obtain ⟨hargs, hZ, hh⟩ := hP
  have hx := Bd.exec
  have hby := Bd.bytes
  have hml : c.maxLocals = 4 := hml0
  have hown : s.vm.findClass "java/util/ArrayList" = some m.cls := findClass_of_methodNamed Bd.named
  have hnm := (name_of_methodNamed Bd.named Bd.method).1
  have X0 : Stand p l e ({ frames := 3, cells := 1, slots := 10, locals := 41 } : Room) s m args_ below meth c s₁ [] 0 0 := Stand.of_body Bd
  have e0 : s₁.heap = h0 := by rw [← hh, Bd.state]; rfl
  have N0 := Fr.nil n0
  have hv : ∀ (i : Nat) {d : Jvm.Cond}, tables_1[i]? = some d → d.before a0 Z = true := fun i d q => hw d (List.mem_of_getElem? q)
  have K0 : Keep h0 h0 [a1] := Keep.refl _ _
  have k0 : Go p e below m (s₁.setTop (entryFrame m args_ 4)) s₁ 0 #[.val (.ref a1), .val (.ref x), .val (.ref de), .val (.int (0 : Int32))] [] := by rw [hargs]; exact fun t_ kt_ => castTop (ef_rmp0 m a1 x de) kt_
  obtain ⟨W, hWW⟩ : ∃ W, W = s₁.setTop (entryFrame m args_ 4) := ⟨_, rfl⟩
  rw [← hWW] at k0 ⊢
  show Done p e below s W (Q_rmp0 Z a1 de kd x h0 n0) ({ frames := 3, cells := 1, slots := 10, locals := 41 } : Room).cells ({ frames := 3, cells := 1, slots := 10, locals := 41 } : Room).slots
  have k20 : Go p e below m W s₁ 2 #[.val (.ref a1), .val (.ref x), .val (.ref de), .val (.int (0 : Int32))] [(.ref de), (.int (0 : Int32))] := (k0.iloadN X0 hx (hb hby d_rmp0_0) rfl).aloadN X0 hx (hb hby d_rmp0_1) rfl rfl
  have k21 : Go p e below m W s₁ 7 #[.val (.ref a1), .val (.ref x), .val (.ref de), .val (.int (0 : Int32))] [(.ref a1)] := ((k20.arraylength X0 hx hZ e0 (VD.ext O0.2) (hb hby d_rmp0_2)).icmpNo X0 hx (hb hby d_rmp0_3) (XT.ii_ne_f (by decide))).aloadN X0 hx (hb hby d_rmp0_6) rfl rfl
  obtain ⟨T22, v22, L22, X22, Q22, k22⟩ := k21.priv (y := (⟨"java/util/ArrayList", "grow", "()[Ljava/lang/Object;"⟩ : MethodName)) (Wd := 0) (cells' := 1) (slots' := 10) (argsL := []) (rest := []) X0 hx hZ hown (by rw [hml]; rfl) (hv 127 rfl) (hv 128 rfl) (hv 130 rfl) (hv 129 rfl) (hv 131 rfl) (hv 3 rfl) (hb hby d_rmp0_7) (by decide) (rmg0 l Z a0 hw [] a1 de kd h0 n0 Z0 O0 SD VD E1 G1 F0 F1 F2) e0 E1 rfl rfl pd_rmp0_0 rfl (Nat.le_of_eq rfl) (by decide) (by decide) rfl rfl (by decide) (by decide)
  obtain ⟨ob_22, ok_22, rfl, Nq22, Kq22, q22_0, q22_1, q22_2, q22_3, q22_4, q22_5, q22_6, q22_7, q22_8⟩ := Q22
  have N22 := Fr.app N0 Nq22
  obtain ⟨h22, e22⟩ : ∃ h, T22.heap = h := ⟨_, rfl⟩
  rw [e22] at Kq22 q22_0 q22_1 q22_2 q22_3 q22_4
  have Z22 : n0 ≤ h22.size := Nat.le_trans Z0 Kq22.1
  have K22 : Keep h0 h22 [a1] := K0.trans Kq22 (by intro x q; simp only [List.mem_cons, List.not_mem_nil, or_false] at q; rcases q with rfl; exact (Or.inl (List.mem_of_getElem? (i := 0) rfl)))
  have H23 : h0.size ≤ ob_22 := Nat.le_trans K0.1 q22_6
  have k22 : Go p e below m W T22 10 #[.val (.ref a1), .val (.ref x), .val (.ref de), .val (.int (0 : Int32))] [(.ref ob_22)] := k22
  have k24 : Go p e below m W T22 11 #[.val (.ref a1), .val (.ref x), .val (.ref ob_22), .val (.int (0 : Int32))] [] := k22.astoreN X22 hx (hb hby d_rmp0_10) rfl rfl
  have k25 : Go p e below m W T22 14 #[.val (.ref a1), .val (.ref x), .val (.ref ob_22), .val (.int (0 : Int32))] [(.ref x), (.int (0 : Int32)), (.ref ob_22)] := ((k24.aloadN X22 hx (hb hby d_rmp0_11) rfl rfl).iloadN X22 hx (hb hby d_rmp0_12) rfl).aloadN X22 hx (hb hby d_rmp0_13) rfl rfl
  have g_1 := Ex.keep Kq22
  obtain ⟨T26, h26, l26, X26, e26, W26, V26, N26, k26⟩ := k25.aastore (i := 0) X22 hx hZ e22 q22_4 q22_7 (Or.inr ⟨_, rfl, (Ins.of_exa g_1 (hv 143 rfl))⟩) rfl rfl (by decide) (Nat.le_of_ble_eq_true rfl) N22 q22_5 (hb hby d_rmp0_14)
  have k26 : Go p e below m W T26 15 #[.val (.ref a1), .val (.ref x), .val (.ref ob_22), .val (.int (0 : Int32))] [] := k26
  have Z26 : n0 ≤ h26.size := (Wr.size W26).symm ▸ Z22
  have V26 : Arv Z h26 ob_22 ok_22 (.object "java/lang/Object") (10 : Int32) [(.ref x), .null, .null, .null, .null, .null, .null, .null, .null, .null] .null := V26
  have K26 : Keep h0 h26 [a1] := K22.wr W26 (Or.inr H23)
  have k27 : Go p e below m W T26 19 #[.val (.ref a1), .val (.ref x), .val (.ref ob_22), .val (.int (0 : Int32))] [(.int (1 : Int32)), (.ref a1)] := ((((k26.aloadN X26 hx (hb hby d_rmp0_15) rfl rfl).iloadN X26 hx (hb hby d_rmp0_16) rfl).iconst X26 hx (hb hby d_rmp0_17) (v := (1 : Int32)) rfl).iadd X26 hx (hb hby d_rmp0_18)).cast (y := (1 : Int32)) (by decide)
  have g_2 := q22_3.other W26 (Or.inl q22_8)
  have g_3 := q22_0.wr W26
  obtain ⟨T28, h28, l28, X28, e28, W28, N28, k28⟩ := k27.putF X26 hx hZ hown (host := "") (Or.inl (hv 87 rfl)) Via.refl e26 g_2 g_3 (Or.inl (hv 78 rfl)) (hv 2 rfl) (ty := .int) (by decide) rfl rfl N26 G1 (hb hby d_rmp0_19)
  have k28 : Go p e below m W T28 22 #[.val (.ref a1), .val (.ref x), .val (.ref ob_22), .val (.int (0 : Int32))] [] := k28
  have Z28 : n0 ≤ h28.size := (Wr.size W28).symm ▸ Z26
  have K28 : Keep h0 h28 [a1] := K26.wr W28 (Or.inl (List.mem_of_getElem? (i := 0) rfl))
  have g_4 := g_3.wr W28
  have g_5 := (q22_1.other W26 (Or.inl q22_8)).other W28 (Or.inr (slot_ne (Or.inl (hv 23 rfl)) (Or.inl (hv 78 rfl)) (by decide) (by decide : parseFieldDescriptor "I" = some .int) (by decide : parseFieldDescriptor "I" = some .int)))
  have g_6 := (q22_2.other W26 (Or.inl q22_8)).other W28 (Or.inr (slot_ne (Or.inl (hv 26 rfl)) (Or.inl (hv 78 rfl)) (by decide) (by decide : parseFieldDescriptor "[Ljava/lang/Object;" = some (.array (.object "java/lang/Object"))) (by decide : parseFieldDescriptor "I" = some .int)))
  have g_7 := g_2.same W28
  have g_8 := V26.other W28 (Ne.symm q22_8)
  exact k28.return_ X28 hx Bd.returns (hb hby d_rmp0_22) (BodyLoose.notSynchronized Bd) (by rw [e28]; exact ⟨ob_22, ok_22, rfl, N28, K28, g_4, g_5, g_6, g_7, g_8, q22_5, H23, q22_7, q22_8⟩) (by decide) (by decide)

theorem ef_rmp1 (m : MethodId) (a1 : Addr) (x : Addr) (b1 : Addr) : entryFrame m #[(.ref a1), (.ref x), (.ref b1), (.int (1 : Int32))] 4 = mkF m 0 #[.val (.ref a1), .val (.ref x), .val (.ref b1), .val (.int (1 : Int32))] [] := by first | (simp [entryFrame, mkF, argsToLocals, Value.category]; done) | rfl
def Q_rmp1 (Z : State) (a1 : Addr) (b1 : Addr) (k1 : ClassId) (y : Addr) (x : Addr) (h0 : Heap) (n0 : Nat) (v : Option Value) (h : Heap) (L : List Loc) : Prop := v = none ∧ Fr n0 L ∧ Keep h0 h [a1, b1] ∧ Exa Z h a1 "java/util/ArrayList" ∧ Fld Z h a1 "java/util/AbstractList" "modCount" "I" (.int (2 : Int32)) ∧ Fld Z h a1 "java/util/ArrayList" "elementData" "[Ljava/lang/Object;" (.ref b1) ∧ Fld Z h a1 "java/util/ArrayList" "size" "I" (.int (2 : Int32)) ∧ Arv Z h b1 k1 (.object "java/lang/Object") (10 : Int32) [(.ref y), (.ref x), .null, .null, .null, .null, .null, .null, .null, .null] .null
set_option maxRecDepth 65536 in
set_option maxHeartbeats 40000000 in
theorem rmp1 (l : Launch) (Z : State) (a0 : Array Value) (hw : ∀ d ∈ tables_1, d.before a0 Z = true) (ws : List Jvm.Cond) (a1 : Addr) (b1 : Addr) (k1 : ClassId) (y : Addr) (x : Addr) (h0 : Heap) (n0 : Nat) (Z0 : n0 ≤ h0.size) (Ex : Exa Z h0 x "com/example/enact/enact/Classification$Flat") (E1 : Exa Z h0 a1 "java/util/ArrayList") (G1 : n0 ≤ a1) (F0 : Fld Z h0 a1 "java/util/AbstractList" "modCount" "I" (.int (2 : Int32))) (F1 : Fld Z h0 a1 "java/util/ArrayList" "elementData" "[Ljava/lang/Object;" (.ref b1)) (F2 : Fld Z h0 a1 "java/util/ArrayList" "size" "I" (.int (1 : Int32))) (V1 : Arv Z h0 b1 k1 (.object "java/lang/Object") (10 : Int32) [(.ref y), .null, .null, .null, .null, .null, .null, .null, .null, .null] .null) (OV1 : Ovr Z k1 "java/lang/Object") (Gb : n0 ≤ b1) (nab : a1 ≠ b1) :
    MetFree l (⟨"java/util/ArrayList", "add", "(Ljava/lang/Object;[Ljava/lang/Object;I)V"⟩ : MethodName) (head1 (Jvm.Cond.code (⟨"java/util/ArrayList", "add", "(Ljava/lang/Object;[Ljava/lang/Object;I)V"⟩ : MethodName) jdk_38_method_24_code 4 none :: ws) ({ frames := 0, cells := 0, slots := 0, locals := 0 } : Room)) (fun a U => a = #[(.ref a1), (.ref x), (.ref b1), (.int (1 : Int32))] ∧ Z.Warmed39 U.vm ∧ U.heap = h0) (fun _ _ _ _ _ => True) (fun _ U o U' => ∃ v L, o = .returned v ∧ Q_rmp1 Z a1 b1 k1 y x h0 n0 v U'.heap L ∧ FrameEnd U o U' L ({ frames := 0, cells := 0, slots := 0, locals := 0 } : Room).cells ({ frames := 0, cells := 0, slots := 0, locals := 0 } : Room).slots) := by
  refine MetFree.of_bodySF (plainFor_of_name pn_rmar) hisR ?_
  intro p e s m args_ below meth c s₁ Bd hml0 hP hK
  obtain ⟨hargs, hZ, hh⟩ := hP
  have hx := Bd.exec
  have hby := Bd.bytes
  have hml : c.maxLocals = 4 := hml0
  have hown : s.vm.findClass "java/util/ArrayList" = some m.cls := findClass_of_methodNamed Bd.named
  have hnm := (name_of_methodNamed Bd.named Bd.method).1
  have X0 : Stand p l e ({ frames := 0, cells := 0, slots := 0, locals := 0 } : Room) s m args_ below meth c s₁ [] 0 0 := Stand.of_body Bd
  have e0 : s₁.heap = h0 := by rw [← hh, Bd.state]; rfl
  have N0 := Fr.nil n0
  have hv : ∀ (i : Nat) {d : Jvm.Cond}, tables_1[i]? = some d → d.before a0 Z = true := fun i d q => hw d (List.mem_of_getElem? q)
  have K0 : Keep h0 h0 [a1, b1] := Keep.refl _ _
  have k0 : Go p e below m (s₁.setTop (entryFrame m args_ 4)) s₁ 0 #[.val (.ref a1), .val (.ref x), .val (.ref b1), .val (.int (1 : Int32))] [] := by rw [hargs]; exact fun t_ kt_ => castTop (ef_rmp1 m a1 x b1) kt_
  obtain ⟨W, hWW⟩ : ∃ W, W = s₁.setTop (entryFrame m args_ 4) := ⟨_, rfl⟩
  rw [← hWW] at k0 ⊢
  show Done p e below s W (Q_rmp1 Z a1 b1 k1 y x h0 n0) ({ frames := 0, cells := 0, slots := 0, locals := 0 } : Room).cells ({ frames := 0, cells := 0, slots := 0, locals := 0 } : Room).slots
  have k20 : Go p e below m W s₁ 2 #[.val (.ref a1), .val (.ref x), .val (.ref b1), .val (.int (1 : Int32))] [(.ref b1), (.int (1 : Int32))] := (k0.iloadN X0 hx (hb hby d_rmp0_0) rfl).aloadN X0 hx (hb hby d_rmp0_1) rfl rfl
  have k21 : Go p e below m W s₁ 14 #[.val (.ref a1), .val (.ref x), .val (.ref b1), .val (.int (1 : Int32))] [(.ref x), (.int (1 : Int32)), (.ref b1)] := ((((k20.arraylength X0 hx hZ e0 V1 (hb hby d_rmp0_2)).icmpYes X0 hx (hb hby d_rmp0_3) (XT.ii_ne_t (by decide)) (by decide) (by decide)).aloadN X0 hx (hb hby d_rmp0_11) rfl rfl).iloadN X0 hx (hb hby d_rmp0_12) rfl).aloadN X0 hx (hb hby d_rmp0_13) rfl rfl
  obtain ⟨T22, h22, l22, X22, e22, W22, V22, N22, k22⟩ := k21.aastore (i := 1) X0 hx hZ e0 V1 OV1 (Or.inr ⟨_, rfl, (Ins.of_exa Ex (hv 143 rfl))⟩) rfl rfl (by decide) (Nat.le_of_ble_eq_true rfl) N0 Gb (hb hby d_rmp0_14)
  have k22 : Go p e below m W T22 15 #[.val (.ref a1), .val (.ref x), .val (.ref b1), .val (.int (1 : Int32))] [] := k22
  have Z22 : n0 ≤ h22.size := (Wr.size W22).symm ▸ Z0
  have V22 : Arv Z h22 b1 k1 (.object "java/lang/Object") (10 : Int32) [(.ref y), (.ref x), .null, .null, .null, .null, .null, .null, .null, .null] .null := V22
  have K22 : Keep h0 h22 [a1, b1] := K0.wr W22 (Or.inl (List.mem_of_getElem? (i := 1) rfl))
  have k23 : Go p e below m W T22 19 #[.val (.ref a1), .val (.ref x), .val (.ref b1), .val (.int (1 : Int32))] [(.int (2 : Int32)), (.ref a1)] := ((((k22.aloadN X22 hx (hb hby d_rmp0_15) rfl rfl).iloadN X22 hx (hb hby d_rmp0_16) rfl).iconst X22 hx (hb hby d_rmp0_17) (v := (1 : Int32)) rfl).iadd X22 hx (hb hby d_rmp0_18)).cast (y := (2 : Int32)) (by decide)
  have g_1 := F2.other W22 (Or.inl nab)
  have g_2 := E1.wr W22
  obtain ⟨T24, h24, l24, X24, e24, W24, N24, k24⟩ := k23.putF X22 hx hZ hown (host := "") (Or.inl (hv 87 rfl)) Via.refl e22 g_1 g_2 (Or.inl (hv 78 rfl)) (hv 2 rfl) (ty := .int) (by decide) rfl rfl N22 G1 (hb hby d_rmp0_19)
  have k24 : Go p e below m W T24 22 #[.val (.ref a1), .val (.ref x), .val (.ref b1), .val (.int (1 : Int32))] [] := k24
  have Z24 : n0 ≤ h24.size := (Wr.size W24).symm ▸ Z22
  have K24 : Keep h0 h24 [a1, b1] := K22.wr W24 (Or.inl (List.mem_of_getElem? (i := 0) rfl))
  have g_3 := g_2.wr W24
  have g_4 := (F0.other W22 (Or.inl nab)).other W24 (Or.inr (slot_ne (Or.inl (hv 23 rfl)) (Or.inl (hv 78 rfl)) (by decide) (by decide : parseFieldDescriptor "I" = some .int) (by decide : parseFieldDescriptor "I" = some .int)))
  have g_5 := (F1.other W22 (Or.inl nab)).other W24 (Or.inr (slot_ne (Or.inl (hv 26 rfl)) (Or.inl (hv 78 rfl)) (by decide) (by decide : parseFieldDescriptor "[Ljava/lang/Object;" = some (.array (.object "java/lang/Object"))) (by decide : parseFieldDescriptor "I" = some .int)))
  have g_6 := g_1.same W24
  have g_7 := V22.other W24 (Ne.symm nab)
  exact k24.return_ X24 hx Bd.returns (hb hby d_rmp0_22) (BodyLoose.notSynchronized Bd) (by rw [e24]; exact ⟨rfl, N24, K24, g_3, g_4, g_5, g_6, g_7⟩) (by decide) (by decide)

theorem d_rma0_0 : decode jdk_38_method_25_code 0 = .ok (.aload_n 0, 1) := by decide +kernel
theorem d_rma0_1 : decode jdk_38_method_25_code 1 = .ok (.dup, 1) := by decide +kernel
theorem d_rma0_2 : decode jdk_38_method_25_code 2 = .ok (.getfield 63, 3) := by decide +kernel
theorem d_rma0_5 : decode jdk_38_method_25_code 5 = .ok (.iconst 1, 1) := by decide +kernel
theorem d_rma0_6 : decode jdk_38_method_25_code 6 = .ok (.iadd, 1) := by decide +kernel
theorem d_rma0_7 : decode jdk_38_method_25_code 7 = .ok (.putfield 63, 3) := by decide +kernel
theorem d_rma0_10 : decode jdk_38_method_25_code 10 = .ok (.aload_n 0, 1) := by decide +kernel
theorem d_rma0_11 : decode jdk_38_method_25_code 11 = .ok (.aload_n 1, 1) := by decide +kernel
theorem d_rma0_12 : decode jdk_38_method_25_code 12 = .ok (.aload_n 0, 1) := by decide +kernel
theorem d_rma0_13 : decode jdk_38_method_25_code 13 = .ok (.getfield 9, 3) := by decide +kernel
theorem d_rma0_16 : decode jdk_38_method_25_code 16 = .ok (.aload_n 0, 1) := by decide +kernel
theorem d_rma0_17 : decode jdk_38_method_25_code 17 = .ok (.getfield 48, 3) := by decide +kernel
theorem d_rma0_20 : decode jdk_38_method_25_code 20 = .ok (.invokevirtual 131, 3) := by decide +kernel
theorem d_rma0_23 : decode jdk_38_method_25_code 23 = .ok (.iconst 1, 1) := by decide +kernel
theorem d_rma0_24 : decode jdk_38_method_25_code 24 = .ok (.ireturn, 1) := by decide +kernel
theorem pd_rma0_0 : parseMethodDescriptor "(Ljava/lang/Object;[Ljava/lang/Object;I)V" = some ⟨[(.object "java/lang/Object"), (.array (.object "java/lang/Object")), .int], none⟩ := by decide +kernel
theorem ef_rma0 (m : MethodId) (a1 : Addr) (x : Addr) : entryFrame m #[(.ref a1), (.ref x)] 2 = mkF m 0 #[.val (.ref a1), .val (.ref x)] [] := by first | (simp [entryFrame, mkF, argsToLocals, Value.category]; done) | rfl
def Q_rma0 (Z : State) (a1 : Addr) (de : Addr) (kd : ClassId) (x : Addr) (h0 : Heap) (n0 : Nat) (v : Option Value) (h : Heap) (L : List Loc) : Prop := ∃ (ob : Addr) (ok : ClassId), v = some (.int (1 : Int32)) ∧ Fr n0 L ∧ Keep h0 h [a1] ∧ Exa Z h a1 "java/util/ArrayList" ∧ Fld Z h a1 "java/util/AbstractList" "modCount" "I" (.int (1 : Int32)) ∧ Fld Z h a1 "java/util/ArrayList" "elementData" "[Ljava/lang/Object;" (.ref ob) ∧ Fld Z h a1 "java/util/ArrayList" "size" "I" (.int (1 : Int32)) ∧ Arv Z h ob ok (.object "java/lang/Object") (10 : Int32) [(.ref x), .null, .null, .null, .null, .null, .null, .null, .null, .null] .null ∧ n0 ≤ ob ∧ h0.size ≤ ob ∧ Ovr Z ok "java/lang/Object" ∧ a1 ≠ ob
set_option maxRecDepth 65536 in
set_option maxHeartbeats 40000000 in
theorem rma0 (l : Launch) (Z : State) (a0 : Array Value) (hw : ∀ d ∈ tables_1, d.before a0 Z = true) (ws : List Jvm.Cond) (a1 : Addr) (de : Addr) (kd : ClassId) (x : Addr) (h0 : Heap) (n0 : Nat) (Z0 : n0 ≤ h0.size) (O0 : Old Z n0 h0) (SD : Sta Z Z.heap "java/util/ArrayList" "DEFAULTCAPACITY_EMPTY_ELEMENTDATA" "[Ljava/lang/Object;" (.ref de)) (VD : Arv Z Z.heap de kd (.object "java/lang/Object") (0 : Int32) [] .null) (Ex : Exa Z h0 x "com/example/enact/enact/Classification$Flat") (E1 : Exa Z h0 a1 "java/util/ArrayList") (G1 : n0 ≤ a1) (F0 : Fld Z h0 a1 "java/util/AbstractList" "modCount" "I" (.int (0 : Int32))) (F1 : Fld Z h0 a1 "java/util/ArrayList" "elementData" "[Ljava/lang/Object;" (.ref de)) (F2 : Fld Z h0 a1 "java/util/ArrayList" "size" "I" (.int (0 : Int32))) :
    MetFree l (⟨"java/util/ArrayList", "add", "(Ljava/lang/Object;)Z"⟩ : MethodName) (head1 (Jvm.Cond.code (⟨"java/util/ArrayList", "add", "(Ljava/lang/Object;)Z"⟩ : MethodName) jdk_38_method_25_code 2 (some .boolean) :: ws) ({ frames := 4, cells := 1, slots := 10, locals := 56 } : Room)) (fun a U => a = #[(.ref a1), (.ref x)] ∧ Z.Warmed39 U.vm ∧ U.heap = h0) (fun _ _ _ _ _ => True) (fun _ U o U' => ∃ v L, o = .returned v ∧ Q_rma0 Z a1 de kd x h0 n0 v U'.heap L ∧ FrameEnd U o U' L ({ frames := 4, cells := 1, slots := 10, locals := 56 } : Room).cells ({ frames := 4, cells := 1, slots := 10, locals := 56 } : Room).slots) := by
  refine MetFree.of_bodySF (plainFor_of_name pn_rmar) hisR ?_
  intro p e s m args_ below meth c s₁ Bd hml0 hP hK
  obtain ⟨hargs, hZ, hh⟩ := hP
  have hx := Bd.exec
  have hby := Bd.bytes
  have hml : c.maxLocals = 2 := hml0
  have hown : s.vm.findClass "java/util/ArrayList" = some m.cls := findClass_of_methodNamed Bd.named
  have hnm := (name_of_methodNamed Bd.named Bd.method).1
  have X0 : Stand p l e ({ frames := 4, cells := 1, slots := 10, locals := 56 } : Room) s m args_ below meth c s₁ [] 0 0 := Stand.of_body Bd
  have e0 : s₁.heap = h0 := by rw [← hh, Bd.state]; rfl
  have N0 := Fr.nil n0
  have hv : ∀ (i : Nat) {d : Jvm.Cond}, tables_1[i]? = some d → d.before a0 Z = true := fun i d q => hw d (List.mem_of_getElem? q)
  have K0 : Keep h0 h0 [a1] := Keep.refl _ _
  have k0 : Go p e below m (s₁.setTop (entryFrame m args_ 2)) s₁ 0 #[.val (.ref a1), .val (.ref x)] [] := by rw [hargs]; exact fun t_ kt_ => castTop (ef_rma0 m a1 x) kt_
  obtain ⟨W, hWW⟩ : ∃ W, W = s₁.setTop (entryFrame m args_ 2) := ⟨_, rfl⟩
  rw [← hWW] at k0 ⊢
  show Done p e below s W (Q_rma0 Z a1 de kd x h0 n0) ({ frames := 4, cells := 1, slots := 10, locals := 56 } : Room).cells ({ frames := 4, cells := 1, slots := 10, locals := 56 } : Room).slots
  have k20 : Go p e below m W s₁ 2 #[.val (.ref a1), .val (.ref x)] [(.ref a1), (.ref a1)] := (k0.aloadN X0 hx (hb hby d_rma0_0) rfl rfl).dup X0 hx (hb hby d_rma0_1) rfl
  obtain ⟨T21, X21, e21, k21⟩ := k20.getF X0 hx hZ hown (host := "") (Or.inl (hv 121 rfl)) (Via.of (hv 63 rfl)) e0 F0 (hb hby d_rma0_2)
  have k21 : Go p e below m W T21 5 #[.val (.ref a1), .val (.ref x)] [(.int (0 : Int32)), (.ref a1)] := k21
  have k22 : Go p e below m W T21 7 #[.val (.ref a1), .val (.ref x)] [(.int (1 : Int32)), (.ref a1)] := ((k21.iconst X21 hx (hb hby d_rma0_5) (v := (1 : Int32)) rfl).iadd X21 hx (hb hby d_rma0_6)).cast (y := (1 : Int32)) (by decide)
  obtain ⟨T23, h23, l23, X23, e23, W23, N23, k23⟩ := k22.putF X21 hx hZ hown (host := "") (Or.inl (hv 121 rfl)) (Via.of (hv 63 rfl)) e21 F0 E1 (Or.inl (hv 23 rfl)) (hv 2 rfl) (ty := .int) (by decide) rfl rfl N0 G1 (hb hby d_rma0_7)
  have k23 : Go p e below m W T23 10 #[.val (.ref a1), .val (.ref x)] [] := k23
  have Z23 : n0 ≤ h23.size := (Wr.size W23).symm ▸ Z0
  have K23 : Keep h0 h23 [a1] := K0.wr W23 (Or.inl (List.mem_of_getElem? (i := 0) rfl))
  have k24 : Go p e below m W T23 13 #[.val (.ref a1), .val (.ref x)] [(.ref a1), (.ref x), (.ref a1)] := ((k23.aloadN X23 hx (hb hby d_rma0_10) rfl rfl).aloadN X23 hx (hb hby d_rma0_11) rfl rfl).aloadN X23 hx (hb hby d_rma0_12) rfl rfl
  have g_1 := F1.other W23 (Or.inr (slot_ne (Or.inl (hv 26 rfl)) (Or.inl (hv 23 rfl)) (by decide) (by decide : parseFieldDescriptor "[Ljava/lang/Object;" = some (.array (.object "java/lang/Object"))) (by decide : parseFieldDescriptor "I" = some .int)))
  obtain ⟨T25, X25, e25, k25⟩ := k24.getF X23 hx hZ hown (host := "") (Or.inl (hv 25 rfl)) Via.refl e23 g_1 (hb hby d_rma0_13)
  have k25 : Go p e below m W T25 16 #[.val (.ref a1), .val (.ref x)] [(.ref de), (.ref x), (.ref a1)] := k25
  have k26 : Go p e below m W T25 17 #[.val (.ref a1), .val (.ref x)] [(.ref a1), (.ref de), (.ref x), (.ref a1)] := k25.aloadN X25 hx (hb hby d_rma0_16) rfl rfl
  have g_2 := F2.other W23 (Or.inr (slot_ne (Or.inl (hv 78 rfl)) (Or.inl (hv 23 rfl)) (by decide) (by decide : parseFieldDescriptor "I" = some .int) (by decide : parseFieldDescriptor "I" = some .int)))
  obtain ⟨T27, X27, e27, k27⟩ := k26.getF X25 hx hZ hown (host := "") (Or.inl (hv 87 rfl)) Via.refl e25 g_2 (hb hby d_rma0_17)
  have k27 : Go p e below m W T27 20 #[.val (.ref a1), .val (.ref x)] [(.int (0 : Int32)), (.ref de), (.ref x), (.ref a1)] := k27
  have g_3 := O0.wr W23 G1
  have g_4 := Ex.wr W23
  have g_5 := E1.wr W23
  have g_6 := F0.same W23
  obtain ⟨T28, v28, L28, X28, Q28, k28⟩ := k27.priv (y := (⟨"java/util/ArrayList", "add", "(Ljava/lang/Object;[Ljava/lang/Object;I)V"⟩ : MethodName)) (Wd := 0) (cells' := 1) (slots' := 10) (argsL := [(.ref x), (.ref de), (.int (0 : Int32))]) (rest := []) X27 hx hZ hown (by rw [hml]; rfl) (hv 122 rfl) (hv 123 rfl) (hv 125 rfl) (hv 124 rfl) (hv 126 rfl) (hv 3 rfl) (hb hby d_rma0_20) (by decide) (rmp0 l Z a0 hw [] a1 de kd x h23 n0 Z23 g_3 SD VD g_4 g_5 G1 g_6 g_1 g_2) e27 g_5 rfl rfl pd_rma0_0 rfl (Nat.le_of_eq rfl) (by decide) (by decide) rfl rfl (by decide) (by decide)
  obtain ⟨ob_28, ok_28, rfl, Nq28, Kq28, q28_0, q28_1, q28_2, q28_3, q28_4, q28_5, q28_6, q28_7, q28_8⟩ := Q28
  have N28 := Fr.app N23 Nq28
  obtain ⟨h28, e28⟩ : ∃ h, T28.heap = h := ⟨_, rfl⟩
  rw [e28] at Kq28 q28_0 q28_1 q28_2 q28_3 q28_4
  have Z28 : n0 ≤ h28.size := Nat.le_trans Z23 Kq28.1
  have K28 : Keep h0 h28 [a1] := K23.trans Kq28 (by intro x q; simp only [List.mem_cons, List.not_mem_nil, or_false] at q; rcases q with rfl; exact (Or.inl (List.mem_of_getElem? (i := 0) rfl)))
  have H29 : h0.size ≤ ob_28 := Nat.le_trans K23.1 q28_6
  have k28 : Go p e below m W T28 23 #[.val (.ref a1), .val (.ref x)] [] := k28
  have k30 : Go p e below m W T28 24 #[.val (.ref a1), .val (.ref x)] [(.int (1 : Int32))] := k28.iconst X28 hx (hb hby d_rma0_23) (v := (1 : Int32)) rfl
  exact k30.ireturnN X28 hx (t := .boolean) Bd.returns (by simp) rfl (hb hby d_rma0_24) (BodyLoose.notSynchronized Bd) (by rw [e28]; exact ⟨ob_28, ok_28, rfl, N28, K28, q28_0, q28_1, q28_2, q28_3, q28_4, q28_5, H29, q28_7, q28_8⟩) (by decide) (by decide)

theorem ef_rma1 (m : MethodId) (a1 : Addr) (x : Addr) : entryFrame m #[(.ref a1), (.ref x)] 2 = mkF m 0 #[.val (.ref a1), .val (.ref x)] [] := by first | (simp [entryFrame, mkF, argsToLocals, Value.category]; done) | rfl
def Q_rma1 (Z : State) (a1 : Addr) (b1 : Addr) (k1 : ClassId) (y : Addr) (x : Addr) (h0 : Heap) (n0 : Nat) (v : Option Value) (h : Heap) (L : List Loc) : Prop := v = some (.int (1 : Int32)) ∧ Fr n0 L ∧ Keep h0 h [a1, b1] ∧ Exa Z h a1 "java/util/ArrayList" ∧ Fld Z h a1 "java/util/AbstractList" "modCount" "I" (.int (2 : Int32)) ∧ Fld Z h a1 "java/util/ArrayList" "elementData" "[Ljava/lang/Object;" (.ref b1) ∧ Fld Z h a1 "java/util/ArrayList" "size" "I" (.int (2 : Int32)) ∧ Arv Z h b1 k1 (.object "java/lang/Object") (10 : Int32) [(.ref y), (.ref x), .null, .null, .null, .null, .null, .null, .null, .null] .null
set_option maxRecDepth 65536 in
set_option maxHeartbeats 40000000 in
theorem rma1 (l : Launch) (Z : State) (a0 : Array Value) (hw : ∀ d ∈ tables_1, d.before a0 Z = true) (ws : List Jvm.Cond) (a1 : Addr) (b1 : Addr) (k1 : ClassId) (y : Addr) (x : Addr) (h0 : Heap) (n0 : Nat) (Z0 : n0 ≤ h0.size) (Ex : Exa Z h0 x "com/example/enact/enact/Classification$Flat") (E1 : Exa Z h0 a1 "java/util/ArrayList") (G1 : n0 ≤ a1) (F0 : Fld Z h0 a1 "java/util/AbstractList" "modCount" "I" (.int (1 : Int32))) (F1 : Fld Z h0 a1 "java/util/ArrayList" "elementData" "[Ljava/lang/Object;" (.ref b1)) (F2 : Fld Z h0 a1 "java/util/ArrayList" "size" "I" (.int (1 : Int32))) (V1 : Arv Z h0 b1 k1 (.object "java/lang/Object") (10 : Int32) [(.ref y), .null, .null, .null, .null, .null, .null, .null, .null, .null] .null) (OV1 : Ovr Z k1 "java/lang/Object") (Gb : n0 ≤ b1) (nab : a1 ≠ b1) :
    MetFree l (⟨"java/util/ArrayList", "add", "(Ljava/lang/Object;)Z"⟩ : MethodName) (head1 (Jvm.Cond.code (⟨"java/util/ArrayList", "add", "(Ljava/lang/Object;)Z"⟩ : MethodName) jdk_38_method_25_code 2 (some .boolean) :: ws) ({ frames := 1, cells := 0, slots := 0, locals := 15 } : Room)) (fun a U => a = #[(.ref a1), (.ref x)] ∧ Z.Warmed39 U.vm ∧ U.heap = h0) (fun _ _ _ _ _ => True) (fun _ U o U' => ∃ v L, o = .returned v ∧ Q_rma1 Z a1 b1 k1 y x h0 n0 v U'.heap L ∧ FrameEnd U o U' L ({ frames := 1, cells := 0, slots := 0, locals := 15 } : Room).cells ({ frames := 1, cells := 0, slots := 0, locals := 15 } : Room).slots) := by
  refine MetFree.of_bodySF (plainFor_of_name pn_rmar) hisR ?_
  intro p e s m args_ below meth c s₁ Bd hml0 hP hK
  obtain ⟨hargs, hZ, hh⟩ := hP
  have hx := Bd.exec
  have hby := Bd.bytes
  have hml : c.maxLocals = 2 := hml0
  have hown : s.vm.findClass "java/util/ArrayList" = some m.cls := findClass_of_methodNamed Bd.named
  have hnm := (name_of_methodNamed Bd.named Bd.method).1
  have X0 : Stand p l e ({ frames := 1, cells := 0, slots := 0, locals := 15 } : Room) s m args_ below meth c s₁ [] 0 0 := Stand.of_body Bd
  have e0 : s₁.heap = h0 := by rw [← hh, Bd.state]; rfl
  have N0 := Fr.nil n0
  have hv : ∀ (i : Nat) {d : Jvm.Cond}, tables_1[i]? = some d → d.before a0 Z = true := fun i d q => hw d (List.mem_of_getElem? q)
  have K0 : Keep h0 h0 [a1, b1] := Keep.refl _ _
  have k0 : Go p e below m (s₁.setTop (entryFrame m args_ 2)) s₁ 0 #[.val (.ref a1), .val (.ref x)] [] := by rw [hargs]; exact fun t_ kt_ => castTop (ef_rma1 m a1 x) kt_
  obtain ⟨W, hWW⟩ : ∃ W, W = s₁.setTop (entryFrame m args_ 2) := ⟨_, rfl⟩
  rw [← hWW] at k0 ⊢
  show Done p e below s W (Q_rma1 Z a1 b1 k1 y x h0 n0) ({ frames := 1, cells := 0, slots := 0, locals := 15 } : Room).cells ({ frames := 1, cells := 0, slots := 0, locals := 15 } : Room).slots
  have k20 : Go p e below m W s₁ 2 #[.val (.ref a1), .val (.ref x)] [(.ref a1), (.ref a1)] := (k0.aloadN X0 hx (hb hby d_rma0_0) rfl rfl).dup X0 hx (hb hby d_rma0_1) rfl
  obtain ⟨T21, X21, e21, k21⟩ := k20.getF X0 hx hZ hown (host := "") (Or.inl (hv 121 rfl)) (Via.of (hv 63 rfl)) e0 F0 (hb hby d_rma0_2)
  have k21 : Go p e below m W T21 5 #[.val (.ref a1), .val (.ref x)] [(.int (1 : Int32)), (.ref a1)] := k21
  have k22 : Go p e below m W T21 7 #[.val (.ref a1), .val (.ref x)] [(.int (2 : Int32)), (.ref a1)] := ((k21.iconst X21 hx (hb hby d_rma0_5) (v := (1 : Int32)) rfl).iadd X21 hx (hb hby d_rma0_6)).cast (y := (2 : Int32)) (by decide)
  obtain ⟨T23, h23, l23, X23, e23, W23, N23, k23⟩ := k22.putF X21 hx hZ hown (host := "") (Or.inl (hv 121 rfl)) (Via.of (hv 63 rfl)) e21 F0 E1 (Or.inl (hv 23 rfl)) (hv 2 rfl) (ty := .int) (by decide) rfl rfl N0 G1 (hb hby d_rma0_7)
  have k23 : Go p e below m W T23 10 #[.val (.ref a1), .val (.ref x)] [] := k23
  have Z23 : n0 ≤ h23.size := (Wr.size W23).symm ▸ Z0
  have K23 : Keep h0 h23 [a1, b1] := K0.wr W23 (Or.inl (List.mem_of_getElem? (i := 0) rfl))
  have k24 : Go p e below m W T23 13 #[.val (.ref a1), .val (.ref x)] [(.ref a1), (.ref x), (.ref a1)] := ((k23.aloadN X23 hx (hb hby d_rma0_10) rfl rfl).aloadN X23 hx (hb hby d_rma0_11) rfl rfl).aloadN X23 hx (hb hby d_rma0_12) rfl rfl
  have g_1 := F1.other W23 (Or.inr (slot_ne (Or.inl (hv 26 rfl)) (Or.inl (hv 23 rfl)) (by decide) (by decide : parseFieldDescriptor "[Ljava/lang/Object;" = some (.array (.object "java/lang/Object"))) (by decide : parseFieldDescriptor "I" = some .int)))
  obtain ⟨T25, X25, e25, k25⟩ := k24.getF X23 hx hZ hown (host := "") (Or.inl (hv 25 rfl)) Via.refl e23 g_1 (hb hby d_rma0_13)
  have k25 : Go p e below m W T25 16 #[.val (.ref a1), .val (.ref x)] [(.ref b1), (.ref x), (.ref a1)] := k25
  have k26 : Go p e below m W T25 17 #[.val (.ref a1), .val (.ref x)] [(.ref a1), (.ref b1), (.ref x), (.ref a1)] := k25.aloadN X25 hx (hb hby d_rma0_16) rfl rfl
  have g_2 := F2.other W23 (Or.inr (slot_ne (Or.inl (hv 78 rfl)) (Or.inl (hv 23 rfl)) (by decide) (by decide : parseFieldDescriptor "I" = some .int) (by decide : parseFieldDescriptor "I" = some .int)))
  obtain ⟨T27, X27, e27, k27⟩ := k26.getF X25 hx hZ hown (host := "") (Or.inl (hv 87 rfl)) Via.refl e25 g_2 (hb hby d_rma0_17)
  have k27 : Go p e below m W T27 20 #[.val (.ref a1), .val (.ref x)] [(.int (1 : Int32)), (.ref b1), (.ref x), (.ref a1)] := k27
  have g_3 := Ex.wr W23
  have g_4 := E1.wr W23
  have g_5 := F0.same W23
  have g_6 := V1.other W23 (Ne.symm nab)
  obtain ⟨T28, v28, L28, X28, Q28, k28⟩ := k27.priv (y := (⟨"java/util/ArrayList", "add", "(Ljava/lang/Object;[Ljava/lang/Object;I)V"⟩ : MethodName)) (Wd := 0) (cells' := 0) (slots' := 0) (argsL := [(.ref x), (.ref b1), (.int (1 : Int32))]) (rest := []) X27 hx hZ hown (by rw [hml]; rfl) (hv 122 rfl) (hv 123 rfl) (hv 125 rfl) (hv 124 rfl) (hv 126 rfl) (hv 3 rfl) (hb hby d_rma0_20) (by decide) (rmp1 l Z a0 hw [] a1 b1 k1 y x h23 n0 Z23 g_3 g_4 G1 g_5 g_1 g_2 g_6 OV1 Gb nab) e27 g_4 rfl rfl pd_rma0_0 rfl (Nat.le_of_eq rfl) (by decide) (by decide) rfl rfl (by decide) (by decide)
  obtain ⟨rfl, Nq28, Kq28, q28_0, q28_1, q28_2, q28_3, q28_4⟩ := Q28
  have N28 := Fr.app N23 Nq28
  obtain ⟨h28, e28⟩ : ∃ h, T28.heap = h := ⟨_, rfl⟩
  rw [e28] at Kq28 q28_0 q28_1 q28_2 q28_3 q28_4
  have Z28 : n0 ≤ h28.size := Nat.le_trans Z23 Kq28.1
  have K28 : Keep h0 h28 [a1, b1] := K23.trans Kq28 (by intro x q; simp only [List.mem_cons, List.not_mem_nil, or_false] at q; rcases q with rfl | rfl <;> first | exact (Or.inl (List.mem_of_getElem? (i := 0) rfl)) | exact (Or.inl (List.mem_of_getElem? (i := 1) rfl)))
  have k28 : Go p e below m W T28 23 #[.val (.ref a1), .val (.ref x)] [] := k28
  have k29 : Go p e below m W T28 24 #[.val (.ref a1), .val (.ref x)] [(.int (1 : Int32))] := k28.iconst X28 hx (hb hby d_rma0_23) (v := (1 : Int32)) rfl
  exact k29.ireturnN X28 hx (t := .boolean) Bd.returns (by simp) rfl (hb hby d_rma0_24) (BodyLoose.notSynchronized Bd) (by rw [e28]; exact ⟨rfl, N28, K28, q28_0, q28_1, q28_2, q28_3, q28_4⟩) (by decide) (by decide)

theorem d_rmre_0 : decode jdk_30_method_1_code 0 = .ok (.aload_n 0, 1) := by decide +kernel
theorem d_rmre_1 : decode jdk_30_method_1_code 1 = .ok (.invokespecial 1, 3) := by decide +kernel
theorem d_rmre_4 : decode jdk_30_method_1_code 4 = .ok (.return_, 1) := by decide +kernel
theorem pn_rmre : plainName "java/lang/Record" = true := by first | (simp [plainName, overriddenIn]; done) | decide +kernel
theorem ef_rmre (m : MethodId) (a1 : Addr) : entryFrame m #[(.ref a1)] 1 = mkF m 0 #[.val (.ref a1)] [] := by first | (simp [entryFrame, mkF, argsToLocals, Value.category]; done) | rfl
def Q_rmre (Z : State) (a1 : Addr) (h0 : Heap) (n0 : Nat) (v : Option Value) (h : Heap) (L : List Loc) : Prop := v = none ∧ Fr n0 L ∧ h = h0
set_option maxRecDepth 65536 in
set_option maxHeartbeats 40000000 in
theorem rmre (l : Launch) (Z : State) (a0 : Array Value) (hw : ∀ d ∈ tables_1, d.before a0 Z = true) (ws : List Jvm.Cond) (a1 : Addr) (h0 : Heap) (n0 : Nat) (Z0 : n0 ≤ h0.size)  :
    MetFree l (⟨"java/lang/Record", "<init>", "()V"⟩ : MethodName) (head1 (Jvm.Cond.code (⟨"java/lang/Record", "<init>", "()V"⟩ : MethodName) jdk_30_method_1_code 1 none :: ws) ({ frames := 1, cells := 0, slots := 0, locals := 12 } : Room)) (fun a U => a = #[(.ref a1)] ∧ Z.Warmed39 U.vm ∧ U.heap = h0) (fun _ _ _ _ _ => True) (fun _ U o U' => ∃ v L, o = .returned v ∧ Q_rmre Z a1 h0 n0 v U'.heap L ∧ FrameEnd U o U' L ({ frames := 1, cells := 0, slots := 0, locals := 12 } : Room).cells ({ frames := 1, cells := 0, slots := 0, locals := 12 } : Room).slots) := by
  refine MetFree.of_bodySF (plainFor_of_name pn_rmre) hisR ?_
  intro p e s m args_ below meth c s₁ Bd hml0 hP hK
  obtain ⟨hargs, hZ, hh⟩ := hP
  have hx := Bd.exec
  have hby := Bd.bytes
  have hml : c.maxLocals = 1 := hml0
  have hown : s.vm.findClass "java/lang/Record" = some m.cls := findClass_of_methodNamed Bd.named
  have hnm := (name_of_methodNamed Bd.named Bd.method).1
  have X0 : Stand p l e ({ frames := 1, cells := 0, slots := 0, locals := 12 } : Room) s m args_ below meth c s₁ [] 0 0 := Stand.of_body Bd
  have e0 : s₁.heap = h0 := by rw [← hh, Bd.state]; rfl
  have N0 := Fr.nil n0
  have hv : ∀ (i : Nat) {d : Jvm.Cond}, tables_1[i]? = some d → d.before a0 Z = true := fun i d q => hw d (List.mem_of_getElem? q)
  have k0 : Go p e below m (s₁.setTop (entryFrame m args_ 1)) s₁ 0 #[.val (.ref a1)] [] := by rw [hargs]; exact fun t_ kt_ => castTop (ef_rmre m a1) kt_
  obtain ⟨W, hWW⟩ : ∃ W, W = s₁.setTop (entryFrame m args_ 1) := ⟨_, rfl⟩
  rw [← hWW] at k0 ⊢
  show Done p e below s W (Q_rmre Z a1 h0 n0) ({ frames := 1, cells := 0, slots := 0, locals := 12 } : Room).cells ({ frames := 1, cells := 0, slots := 0, locals := 12 } : Room).slots
  have k20 : Go p e below m W s₁ 1 #[.val (.ref a1)] [(.ref a1)] := k0.aloadN X0 hx (hb hby d_rmre_0) rfl rfl
  obtain ⟨T21, X21, e21, k21⟩ := k20.initO (Wd := 0) X0 hx hZ hown (by rw [hml]; rfl) (hv 106 rfl) (hv 20 rfl) (hv 21 rfl) e0 (hb hby d_rmre_1) (Nat.le_of_eq rfl) (by decide) (by decide)
  have k21 : Go p e below m W T21 4 #[.val (.ref a1)] [] := k21
  exact k21.return_ X21 hx Bd.returns (hb hby d_rmre_4) (BodyLoose.notSynchronized Bd) (by rw [e21]; exact ⟨rfl, N0, rfl⟩) (by decide) (by decide)

theorem d_rmfl_0 : decode prog_6_method_1_code 0 = .ok (.aload_n 0, 1) := by decide +kernel
theorem d_rmfl_1 : decode prog_6_method_1_code 1 = .ok (.invokespecial 1, 3) := by decide +kernel
theorem d_rmfl_4 : decode prog_6_method_1_code 4 = .ok (.aload_n 0, 1) := by decide +kernel
theorem d_rmfl_5 : decode prog_6_method_1_code 5 = .ok (.iload_n 1, 1) := by decide +kernel
theorem d_rmfl_6 : decode prog_6_method_1_code 6 = .ok (.putfield 7, 3) := by decide +kernel
theorem d_rmfl_9 : decode prog_6_method_1_code 9 = .ok (.aload_n 0, 1) := by decide +kernel
theorem d_rmfl_10 : decode prog_6_method_1_code 10 = .ok (.iload_n 2, 1) := by decide +kernel
theorem d_rmfl_11 : decode prog_6_method_1_code 11 = .ok (.putfield 13, 3) := by decide +kernel
theorem d_rmfl_14 : decode prog_6_method_1_code 14 = .ok (.aload_n 0, 1) := by decide +kernel
theorem d_rmfl_15 : decode prog_6_method_1_code 15 = .ok (.iload_n 3, 1) := by decide +kernel
theorem d_rmfl_16 : decode prog_6_method_1_code 16 = .ok (.putfield 16, 3) := by decide +kernel
theorem d_rmfl_19 : decode prog_6_method_1_code 19 = .ok (.return_, 1) := by decide +kernel
theorem pn_rmfl : plainName "com/example/enact/enact/Classification$Flat" = true := by first | (simp [plainName, overriddenIn]; done) | decide +kernel
theorem ef_rmfl (m : MethodId) (a1 : Addr) (p1 : Int32) (p2 : Int32) (p3 : Int32) : entryFrame m #[(.ref a1), (.int p1), (.int p2), (.int p3)] 4 = mkF m 0 #[.val (.ref a1), .val (.int p1), .val (.int p2), .val (.int p3)] [] := by first | (simp [entryFrame, mkF, argsToLocals, Value.category]; done) | rfl
def Q_rmfl (Z : State) (a1 : Addr) (p1 : Int32) (p2 : Int32) (p3 : Int32) (u0 : Value) (u1 : Value) (u2 : Value) (h0 : Heap) (n0 : Nat) (v : Option Value) (h : Heap) (L : List Loc) : Prop := v = none ∧ Fr n0 L ∧ Keep h0 h [a1] ∧ Exa Z h a1 "com/example/enact/enact/Classification$Flat" ∧ Fld Z h a1 "com/example/enact/enact/Classification$Flat" "place" "I" (.int p1) ∧ Fld Z h a1 "com/example/enact/enact/Classification$Flat" "feeder" "I" (.int p2)
set_option maxRecDepth 65536 in
set_option maxHeartbeats 40000000 in
theorem rmfl (l : Launch) (Z : State) (a0 : Array Value) (hw : ∀ d ∈ tables_1, d.before a0 Z = true) (ws : List Jvm.Cond) (a1 : Addr) (p1 : Int32) (p2 : Int32) (p3 : Int32) (u0 : Value) (u1 : Value) (u2 : Value) (h0 : Heap) (n0 : Nat) (Z0 : n0 ≤ h0.size) (E1 : Exa Z h0 a1 "com/example/enact/enact/Classification$Flat") (G1 : n0 ≤ a1) (F0 : Fld Z h0 a1 "com/example/enact/enact/Classification$Flat" "place" "I" u0) (F1 : Fld Z h0 a1 "com/example/enact/enact/Classification$Flat" "feeder" "I" u1) (F2 : Fld Z h0 a1 "com/example/enact/enact/Classification$Flat" "drainer" "I" u2) :
    MetFree l (⟨"com/example/enact/enact/Classification$Flat", "<init>", "(III)V"⟩ : MethodName) (head1 (Jvm.Cond.code (⟨"com/example/enact/enact/Classification$Flat", "<init>", "(III)V"⟩ : MethodName) prog_6_method_1_code 4 none :: ws) ({ frames := 2, cells := 0, slots := 0, locals := 24 } : Room)) (fun a U => a = #[(.ref a1), (.int p1), (.int p2), (.int p3)] ∧ Z.Warmed39 U.vm ∧ U.heap = h0) (fun _ _ _ _ _ => True) (fun _ U o U' => ∃ v L, o = .returned v ∧ Q_rmfl Z a1 p1 p2 p3 u0 u1 u2 h0 n0 v U'.heap L ∧ FrameEnd U o U' L ({ frames := 2, cells := 0, slots := 0, locals := 24 } : Room).cells ({ frames := 2, cells := 0, slots := 0, locals := 24 } : Room).slots) := by
  refine MetFree.of_bodySF (plainFor_of_name pn_rmfl) hisR ?_
  intro p e s m args_ below meth c s₁ Bd hml0 hP hK
  obtain ⟨hargs, hZ, hh⟩ := hP
  have hx := Bd.exec
  have hby := Bd.bytes
  have hml : c.maxLocals = 4 := hml0
  have hown : s.vm.findClass "com/example/enact/enact/Classification$Flat" = some m.cls := findClass_of_methodNamed Bd.named
  have hnm := (name_of_methodNamed Bd.named Bd.method).1
  have X0 : Stand p l e ({ frames := 2, cells := 0, slots := 0, locals := 24 } : Room) s m args_ below meth c s₁ [] 0 0 := Stand.of_body Bd
  have e0 : s₁.heap = h0 := by rw [← hh, Bd.state]; rfl
  have N0 := Fr.nil n0
  have hv : ∀ (i : Nat) {d : Jvm.Cond}, tables_1[i]? = some d → d.before a0 Z = true := fun i d q => hw d (List.mem_of_getElem? q)
  have K0 : Keep h0 h0 [a1] := Keep.refl _ _
  have k0 : Go p e below m (s₁.setTop (entryFrame m args_ 4)) s₁ 0 #[.val (.ref a1), .val (.int p1), .val (.int p2), .val (.int p3)] [] := by rw [hargs]; exact fun t_ kt_ => castTop (ef_rmfl m a1 p1 p2 p3) kt_
  obtain ⟨W, hWW⟩ : ∃ W, W = s₁.setTop (entryFrame m args_ 4) := ⟨_, rfl⟩
  rw [← hWW] at k0 ⊢
  show Done p e below s W (Q_rmfl Z a1 p1 p2 p3 u0 u1 u2 h0 n0) ({ frames := 2, cells := 0, slots := 0, locals := 24 } : Room).cells ({ frames := 2, cells := 0, slots := 0, locals := 24 } : Room).slots
  have k20 : Go p e below m W s₁ 1 #[.val (.ref a1), .val (.int p1), .val (.int p2), .val (.int p3)] [(.ref a1)] := k0.aloadN X0 hx (hb hby d_rmfl_0) rfl rfl
  obtain ⟨T21, v21, L21, X21, Q21, k21⟩ := k20.spec (y := (⟨"java/lang/Record", "<init>", "()V"⟩ : MethodName)) (b := a1) (Wd := 0) (cells' := 0) (slots' := 0) (argsL := []) (rest := []) X0 hx hZ hown (by rw [hml]; rfl) rfl (hv 101 rfl) (hv 102 rfl) (hv 105 rfl) (hv 104 rfl) (hb hby d_rmfl_1) (by decide) (rmre l Z a0 hw [] a1 h0 n0 Z0) e0 rfl rfl pd_rmal_0 rfl (Nat.le_of_eq rfl) (by decide) (by decide) rfl rfl (by decide) (by decide)
  obtain ⟨rfl, Nq21, e21q⟩ := Q21
  have N21 := Fr.app N0 Nq21
  have e21 : T21.heap = h0 := e21q
  have k21 : Go p e below m W T21 4 #[.val (.ref a1), .val (.int p1), .val (.int p2), .val (.int p3)] [] := k21
  have k22 : Go p e below m W T21 6 #[.val (.ref a1), .val (.int p1), .val (.int p2), .val (.int p3)] [(.int p1), (.ref a1)] := (k21.aloadN X21 hx (hb hby d_rmfl_4) rfl rfl).iloadN X21 hx (hb hby d_rmfl_5) rfl
  obtain ⟨T23, h23, l23, X23, e23, W23, N23, k23⟩ := k22.putF X21 hx hZ hown (host := "") (Or.inl (hv 107 rfl)) Via.refl e21 F0 E1 (Or.inr ⟨(hv 108 rfl), rfl, hnm⟩) (hv 96 rfl) (ty := .int) (by decide) rfl rfl N21 G1 (hb hby d_rmfl_6)
  have k23 : Go p e below m W T23 9 #[.val (.ref a1), .val (.int p1), .val (.int p2), .val (.int p3)] [] := k23
  have Z23 : n0 ≤ h23.size := (Wr.size W23).symm ▸ Z0
  have K23 : Keep h0 h23 [a1] := K0.wr W23 (Or.inl (List.mem_of_getElem? (i := 0) rfl))
  have k24 : Go p e below m W T23 11 #[.val (.ref a1), .val (.int p1), .val (.int p2), .val (.int p3)] [(.int p2), (.ref a1)] := (k23.aloadN X23 hx (hb hby d_rmfl_9) rfl rfl).iloadN X23 hx (hb hby d_rmfl_10) rfl
  have g_1 := F1.other W23 (Or.inr (slot_ne (Or.inr (hv 110 rfl)) (Or.inr (hv 108 rfl)) (by decide) (by decide : parseFieldDescriptor "I" = some .int) (by decide : parseFieldDescriptor "I" = some .int)))
  have g_2 := E1.wr W23
  obtain ⟨T25, h25, l25, X25, e25, W25, N25, k25⟩ := k24.putF X23 hx hZ hown (host := "") (Or.inl (hv 109 rfl)) Via.refl e23 g_1 g_2 (Or.inr ⟨(hv 110 rfl), rfl, hnm⟩) (hv 96 rfl) (ty := .int) (by decide) rfl rfl N23 G1 (hb hby d_rmfl_11)
  have k25 : Go p e below m W T25 14 #[.val (.ref a1), .val (.int p1), .val (.int p2), .val (.int p3)] [] := k25
  have Z25 : n0 ≤ h25.size := (Wr.size W25).symm ▸ Z23
  have K25 : Keep h0 h25 [a1] := K23.wr W25 (Or.inl (List.mem_of_getElem? (i := 0) rfl))
  have k26 : Go p e below m W T25 16 #[.val (.ref a1), .val (.int p1), .val (.int p2), .val (.int p3)] [(.int p3), (.ref a1)] := (k25.aloadN X25 hx (hb hby d_rmfl_14) rfl rfl).iloadN X25 hx (hb hby d_rmfl_15) rfl
  have g_3 := (F2.other W23 (Or.inr (slot_ne (Or.inr (hv 112 rfl)) (Or.inr (hv 108 rfl)) (by decide) (by decide : parseFieldDescriptor "I" = some .int) (by decide : parseFieldDescriptor "I" = some .int)))).other W25 (Or.inr (slot_ne (Or.inr (hv 112 rfl)) (Or.inr (hv 110 rfl)) (by decide) (by decide : parseFieldDescriptor "I" = some .int) (by decide : parseFieldDescriptor "I" = some .int)))
  have g_4 := g_2.wr W25
  obtain ⟨T27, h27, l27, X27, e27, W27, N27, k27⟩ := k26.putF X25 hx hZ hown (host := "") (Or.inl (hv 111 rfl)) Via.refl e25 g_3 g_4 (Or.inr ⟨(hv 112 rfl), rfl, hnm⟩) (hv 96 rfl) (ty := .int) (by decide) rfl rfl N25 G1 (hb hby d_rmfl_16)
  have k27 : Go p e below m W T27 19 #[.val (.ref a1), .val (.int p1), .val (.int p2), .val (.int p3)] [] := k27
  have Z27 : n0 ≤ h27.size := (Wr.size W27).symm ▸ Z25
  have K27 : Keep h0 h27 [a1] := K25.wr W27 (Or.inl (List.mem_of_getElem? (i := 0) rfl))
  have g_5 := g_4.wr W27
  have g_6 := ((F0.same W23).other W25 (Or.inr (slot_ne (Or.inr (hv 108 rfl)) (Or.inr (hv 110 rfl)) (by decide) (by decide : parseFieldDescriptor "I" = some .int) (by decide : parseFieldDescriptor "I" = some .int)))).other W27 (Or.inr (slot_ne (Or.inr (hv 108 rfl)) (Or.inr (hv 112 rfl)) (by decide) (by decide : parseFieldDescriptor "I" = some .int) (by decide : parseFieldDescriptor "I" = some .int)))
  have g_7 := (g_1.same W25).other W27 (Or.inr (slot_ne (Or.inr (hv 110 rfl)) (Or.inr (hv 112 rfl)) (by decide) (by decide : parseFieldDescriptor "I" = some .int) (by decide : parseFieldDescriptor "I" = some .int)))
  exact k27.return_ X27 hx Bd.returns (hb hby d_rmfl_19) (BodyLoose.notSynchronized Bd) (by rw [e27]; exact ⟨rfl, N27, K27, g_5, g_6, g_7⟩) (by decide) (by decide)

theorem d_rmfe_0 : decode prog_6_method_6_code 0 = .ok (.aload_n 0, 1) := by decide +kernel
theorem d_rmfe_1 : decode prog_6_method_6_code 1 = .ok (.getfield 13, 3) := by decide +kernel
theorem d_rmfe_4 : decode prog_6_method_6_code 4 = .ok (.ireturn, 1) := by decide +kernel
theorem ef_rmfe (m : MethodId) (a1 : Addr) : entryFrame m #[(.ref a1)] 1 = mkF m 0 #[.val (.ref a1)] [] := by first | (simp [entryFrame, mkF, argsToLocals, Value.category]; done) | rfl
def Q_rmfe (Z : State) (a1 : Addr) (w2 : Int32) (h0 : Heap) (n0 : Nat) (v : Option Value) (h : Heap) (L : List Loc) : Prop := v = some (.int w2) ∧ Fr n0 L ∧ h = h0
set_option maxRecDepth 65536 in
set_option maxHeartbeats 40000000 in
theorem rmfe (l : Launch) (Z : State) (a0 : Array Value) (hw : ∀ d ∈ tables_1, d.before a0 Z = true) (ws : List Jvm.Cond) (a1 : Addr) (w2 : Int32) (h0 : Heap) (n0 : Nat) (Z0 : n0 ≤ h0.size) (F1 : Fld Z h0 a1 "com/example/enact/enact/Classification$Flat" "feeder" "I" (.int w2)) :
    MetFree l (⟨"com/example/enact/enact/Classification$Flat", "feeder", "()I"⟩ : MethodName) (head1 (Jvm.Cond.code (⟨"com/example/enact/enact/Classification$Flat", "feeder", "()I"⟩ : MethodName) prog_6_method_6_code 1 (some .int) :: ws) ({ frames := 0, cells := 0, slots := 0, locals := 0 } : Room)) (fun a U => a = #[(.ref a1)] ∧ Z.Warmed39 U.vm ∧ U.heap = h0) (fun _ _ _ _ _ => True) (fun _ U o U' => ∃ v L, o = .returned v ∧ Q_rmfe Z a1 w2 h0 n0 v U'.heap L ∧ FrameEnd U o U' L ({ frames := 0, cells := 0, slots := 0, locals := 0 } : Room).cells ({ frames := 0, cells := 0, slots := 0, locals := 0 } : Room).slots) := by
  refine MetFree.of_bodySF (plainFor_of_name pn_rmfl) hisR ?_
  intro p e s m args_ below meth c s₁ Bd hml0 hP hK
  obtain ⟨hargs, hZ, hh⟩ := hP
  have hx := Bd.exec
  have hby := Bd.bytes
  have hml : c.maxLocals = 1 := hml0
  have hown : s.vm.findClass "com/example/enact/enact/Classification$Flat" = some m.cls := findClass_of_methodNamed Bd.named
  have hnm := (name_of_methodNamed Bd.named Bd.method).1
  have X0 : Stand p l e ({ frames := 0, cells := 0, slots := 0, locals := 0 } : Room) s m args_ below meth c s₁ [] 0 0 := Stand.of_body Bd
  have e0 : s₁.heap = h0 := by rw [← hh, Bd.state]; rfl
  have N0 := Fr.nil n0
  have hv : ∀ (i : Nat) {d : Jvm.Cond}, tables_1[i]? = some d → d.before a0 Z = true := fun i d q => hw d (List.mem_of_getElem? q)
  have k0 : Go p e below m (s₁.setTop (entryFrame m args_ 1)) s₁ 0 #[.val (.ref a1)] [] := by rw [hargs]; exact fun t_ kt_ => castTop (ef_rmfe m a1) kt_
  obtain ⟨W, hWW⟩ : ∃ W, W = s₁.setTop (entryFrame m args_ 1) := ⟨_, rfl⟩
  rw [← hWW] at k0 ⊢
  show Done p e below s W (Q_rmfe Z a1 w2 h0 n0) ({ frames := 0, cells := 0, slots := 0, locals := 0 } : Room).cells ({ frames := 0, cells := 0, slots := 0, locals := 0 } : Room).slots
  have k20 : Go p e below m W s₁ 1 #[.val (.ref a1)] [(.ref a1)] := k0.aloadN X0 hx (hb hby d_rmfe_0) rfl rfl
  obtain ⟨T21, X21, e21, k21⟩ := k20.getF X0 hx hZ hown (host := "") (Or.inl (hv 109 rfl)) Via.refl e0 F1 (hb hby d_rmfe_1)
  have k21 : Go p e below m W T21 4 #[.val (.ref a1)] [(.int w2)] := k21
  exact k21.ireturnI X21 hx Bd.returns (hb hby d_rmfe_4) (BodyLoose.notSynchronized Bd) (by rw [e21]; exact ⟨rfl, N0, rfl⟩) (by decide) (by decide)

theorem d_rmfp_0 : decode prog_6_method_5_code 0 = .ok (.aload_n 0, 1) := by decide +kernel
theorem d_rmfp_1 : decode prog_6_method_5_code 1 = .ok (.getfield 7, 3) := by decide +kernel
theorem d_rmfp_4 : decode prog_6_method_5_code 4 = .ok (.ireturn, 1) := by decide +kernel
theorem ef_rmfp (m : MethodId) (a1 : Addr) : entryFrame m #[(.ref a1)] 1 = mkF m 0 #[.val (.ref a1)] [] := by first | (simp [entryFrame, mkF, argsToLocals, Value.category]; done) | rfl
def Q_rmfp (Z : State) (a1 : Addr) (w2 : Int32) (h0 : Heap) (n0 : Nat) (v : Option Value) (h : Heap) (L : List Loc) : Prop := v = some (.int w2) ∧ Fr n0 L ∧ h = h0
set_option maxRecDepth 65536 in
set_option maxHeartbeats 40000000 in
theorem rmfp (l : Launch) (Z : State) (a0 : Array Value) (hw : ∀ d ∈ tables_1, d.before a0 Z = true) (ws : List Jvm.Cond) (a1 : Addr) (w2 : Int32) (h0 : Heap) (n0 : Nat) (Z0 : n0 ≤ h0.size) (F1 : Fld Z h0 a1 "com/example/enact/enact/Classification$Flat" "place" "I" (.int w2)) :
    MetFree l (⟨"com/example/enact/enact/Classification$Flat", "place", "()I"⟩ : MethodName) (head1 (Jvm.Cond.code (⟨"com/example/enact/enact/Classification$Flat", "place", "()I"⟩ : MethodName) prog_6_method_5_code 1 (some .int) :: ws) ({ frames := 0, cells := 0, slots := 0, locals := 0 } : Room)) (fun a U => a = #[(.ref a1)] ∧ Z.Warmed39 U.vm ∧ U.heap = h0) (fun _ _ _ _ _ => True) (fun _ U o U' => ∃ v L, o = .returned v ∧ Q_rmfp Z a1 w2 h0 n0 v U'.heap L ∧ FrameEnd U o U' L ({ frames := 0, cells := 0, slots := 0, locals := 0 } : Room).cells ({ frames := 0, cells := 0, slots := 0, locals := 0 } : Room).slots) := by
  refine MetFree.of_bodySF (plainFor_of_name pn_rmfl) hisR ?_
  intro p e s m args_ below meth c s₁ Bd hml0 hP hK
  obtain ⟨hargs, hZ, hh⟩ := hP
  have hx := Bd.exec
  have hby := Bd.bytes
  have hml : c.maxLocals = 1 := hml0
  have hown : s.vm.findClass "com/example/enact/enact/Classification$Flat" = some m.cls := findClass_of_methodNamed Bd.named
  have hnm := (name_of_methodNamed Bd.named Bd.method).1
  have X0 : Stand p l e ({ frames := 0, cells := 0, slots := 0, locals := 0 } : Room) s m args_ below meth c s₁ [] 0 0 := Stand.of_body Bd
  have e0 : s₁.heap = h0 := by rw [← hh, Bd.state]; rfl
  have N0 := Fr.nil n0
  have hv : ∀ (i : Nat) {d : Jvm.Cond}, tables_1[i]? = some d → d.before a0 Z = true := fun i d q => hw d (List.mem_of_getElem? q)
  have k0 : Go p e below m (s₁.setTop (entryFrame m args_ 1)) s₁ 0 #[.val (.ref a1)] [] := by rw [hargs]; exact fun t_ kt_ => castTop (ef_rmfp m a1) kt_
  obtain ⟨W, hWW⟩ : ∃ W, W = s₁.setTop (entryFrame m args_ 1) := ⟨_, rfl⟩
  rw [← hWW] at k0 ⊢
  show Done p e below s W (Q_rmfp Z a1 w2 h0 n0) ({ frames := 0, cells := 0, slots := 0, locals := 0 } : Room).cells ({ frames := 0, cells := 0, slots := 0, locals := 0 } : Room).slots
  have k20 : Go p e below m W s₁ 1 #[.val (.ref a1)] [(.ref a1)] := k0.aloadN X0 hx (hb hby d_rmfp_0) rfl rfl
  obtain ⟨T21, X21, e21, k21⟩ := k20.getF X0 hx hZ hown (host := "") (Or.inl (hv 107 rfl)) Via.refl e0 F1 (hb hby d_rmfp_1)
  have k21 : Go p e below m W T21 4 #[.val (.ref a1)] [(.int w2)] := k21
  exact k21.ireturnI X21 hx Bd.returns (hb hby d_rmfp_4) (BodyLoose.notSynchronized Bd) (by rw [e21]; exact ⟨rfl, N0, rfl⟩) (by decide) (by decide)

theorem d_rmii_0 : decode jdk_49_method_1_code 0 = .ok (.aload_n 0, 1) := by decide +kernel
theorem d_rmii_1 : decode jdk_49_method_1_code 1 = .ok (.aload_n 1, 1) := by decide +kernel
theorem d_rmii_2 : decode jdk_49_method_1_code 2 = .ok (.putfield 1, 3) := by decide +kernel
theorem d_rmii_5 : decode jdk_49_method_1_code 5 = .ok (.aload_n 0, 1) := by decide +kernel
theorem d_rmii_6 : decode jdk_49_method_1_code 6 = .ok (.invokespecial 7, 3) := by decide +kernel
theorem d_rmii_9 : decode jdk_49_method_1_code 9 = .ok (.aload_n 0, 1) := by decide +kernel
theorem d_rmii_10 : decode jdk_49_method_1_code 10 = .ok (.iconst (-1), 1) := by decide +kernel
theorem d_rmii_11 : decode jdk_49_method_1_code 11 = .ok (.putfield 13, 3) := by decide +kernel
theorem d_rmii_14 : decode jdk_49_method_1_code 14 = .ok (.aload_n 0, 1) := by decide +kernel
theorem d_rmii_15 : decode jdk_49_method_1_code 15 = .ok (.aload_n 0, 1) := by decide +kernel
theorem d_rmii_16 : decode jdk_49_method_1_code 16 = .ok (.getfield 1, 3) := by decide +kernel
theorem d_rmii_19 : decode jdk_49_method_1_code 19 = .ok (.getfield 17, 3) := by decide +kernel
theorem d_rmii_22 : decode jdk_49_method_1_code 22 = .ok (.putfield 22, 3) := by decide +kernel
theorem d_rmii_25 : decode jdk_49_method_1_code 25 = .ok (.return_, 1) := by decide +kernel
theorem pn_rmii : plainName "java/util/ArrayList$Itr" = true := by first | (simp [plainName, overriddenIn]; done) | decide +kernel
theorem ef_rmii (m : MethodId) (a1 : Addr) (l1 : Addr) : entryFrame m #[(.ref a1), (.ref l1)] 2 = mkF m 0 #[.val (.ref a1), .val (.ref l1)] [] := by first | (simp [entryFrame, mkF, argsToLocals, Value.category]; done) | rfl
def Q_rmii (Z : State) (a1 : Addr) (l1 : Addr) (w : Int32) (u0 : Value) (u1 : Value) (u2 : Value) (h0 : Heap) (n0 : Nat) (v : Option Value) (h : Heap) (L : List Loc) : Prop := v = none ∧ Fr n0 L ∧ Keep h0 h [a1] ∧ Exa Z h a1 "java/util/ArrayList$Itr" ∧ Fld Z h a1 "java/util/ArrayList$Itr" "this$0" "Ljava/util/ArrayList;" (.ref l1) ∧ Fld Z h a1 "java/util/ArrayList$Itr" "lastRet" "I" (.int (-1 : Int32)) ∧ Fld Z h a1 "java/util/ArrayList$Itr" "expectedModCount" "I" (.int w) ∧ Fld Z h a1 "java/util/ArrayList$Itr" "cursor" "I" (.int (0 : Int32))
set_option maxRecDepth 65536 in
set_option maxHeartbeats 40000000 in
theorem rmii (l : Launch) (Z : State) (a0 : Array Value) (hw : ∀ d ∈ tables_1, d.before a0 Z = true) (ws : List Jvm.Cond) (a1 : Addr) (l1 : Addr) (w : Int32) (u0 : Value) (u1 : Value) (u2 : Value) (h0 : Heap) (n0 : Nat) (Z0 : n0 ≤ h0.size) (E1 : Exa Z h0 a1 "java/util/ArrayList$Itr") (G1 : n0 ≤ a1) (F0 : Fld Z h0 a1 "java/util/ArrayList$Itr" "this$0" "Ljava/util/ArrayList;" u0) (F1 : Fld Z h0 a1 "java/util/ArrayList$Itr" "lastRet" "I" u1) (F2 : Fld Z h0 a1 "java/util/ArrayList$Itr" "expectedModCount" "I" u2) (F3 : Fld Z h0 a1 "java/util/ArrayList$Itr" "cursor" "I" (.int (0 : Int32))) (F4 : Fld Z h0 l1 "java/util/AbstractList" "modCount" "I" (.int w)) (nal : l1 ≠ a1) :
    MetFree l (⟨"java/util/ArrayList$Itr", "<init>", "(Ljava/util/ArrayList;)V"⟩ : MethodName) (head1 (Jvm.Cond.code (⟨"java/util/ArrayList$Itr", "<init>", "(Ljava/util/ArrayList;)V"⟩ : MethodName) jdk_49_method_1_code 2 none :: ws) ({ frames := 1, cells := 0, slots := 0, locals := 12 } : Room)) (fun a U => a = #[(.ref a1), (.ref l1)] ∧ Z.Warmed39 U.vm ∧ U.heap = h0) (fun _ _ _ _ _ => True) (fun _ U o U' => ∃ v L, o = .returned v ∧ Q_rmii Z a1 l1 w u0 u1 u2 h0 n0 v U'.heap L ∧ FrameEnd U o U' L ({ frames := 1, cells := 0, slots := 0, locals := 12 } : Room).cells ({ frames := 1, cells := 0, slots := 0, locals := 12 } : Room).slots) := by
  refine MetFree.of_bodySF (plainFor_of_name pn_rmii) hisR ?_
  intro p e s m args_ below meth c s₁ Bd hml0 hP hK
  obtain ⟨hargs, hZ, hh⟩ := hP
  have hx := Bd.exec
  have hby := Bd.bytes
  have hml : c.maxLocals = 2 := hml0
  have hown : s.vm.findClass "java/util/ArrayList$Itr" = some m.cls := findClass_of_methodNamed Bd.named
  have hnm := (name_of_methodNamed Bd.named Bd.method).1
  have X0 : Stand p l e ({ frames := 1, cells := 0, slots := 0, locals := 12 } : Room) s m args_ below meth c s₁ [] 0 0 := Stand.of_body Bd
  have e0 : s₁.heap = h0 := by rw [← hh, Bd.state]; rfl
  have N0 := Fr.nil n0
  have hv : ∀ (i : Nat) {d : Jvm.Cond}, tables_1[i]? = some d → d.before a0 Z = true := fun i d q => hw d (List.mem_of_getElem? q)
  have K0 : Keep h0 h0 [a1] := Keep.refl _ _
  have k0 : Go p e below m (s₁.setTop (entryFrame m args_ 2)) s₁ 0 #[.val (.ref a1), .val (.ref l1)] [] := by rw [hargs]; exact fun t_ kt_ => castTop (ef_rmii m a1 l1) kt_
  obtain ⟨W, hWW⟩ : ∃ W, W = s₁.setTop (entryFrame m args_ 2) := ⟨_, rfl⟩
  rw [← hWW] at k0 ⊢
  show Done p e below s W (Q_rmii Z a1 l1 w u0 u1 u2 h0 n0) ({ frames := 1, cells := 0, slots := 0, locals := 12 } : Room).cells ({ frames := 1, cells := 0, slots := 0, locals := 12 } : Room).slots
  have k20 : Go p e below m W s₁ 2 #[.val (.ref a1), .val (.ref l1)] [(.ref l1), (.ref a1)] := (k0.aloadN X0 hx (hb hby d_rmii_0) rfl rfl).aloadN X0 hx (hb hby d_rmii_1) rfl rfl
  obtain ⟨T21, h21, l21, X21, e21, W21, N21, k21⟩ := k20.putF X0 hx hZ hown (host := "") (Or.inl (hv 57 rfl)) Via.refl e0 F0 E1 (Or.inr ⟨(hv 58 rfl), rfl, hnm⟩) (hv 51 rfl) (ty := (.object "java/util/ArrayList")) (by decide) rfl rfl N0 G1 (hb hby d_rmii_2)
  have k21 : Go p e below m W T21 5 #[.val (.ref a1), .val (.ref l1)] [] := k21
  have Z21 : n0 ≤ h21.size := (Wr.size W21).symm ▸ Z0
  have K21 : Keep h0 h21 [a1] := K0.wr W21 (Or.inl (List.mem_of_getElem? (i := 0) rfl))
  have k22 : Go p e below m W T21 6 #[.val (.ref a1), .val (.ref l1)] [(.ref a1)] := k21.aloadN X21 hx (hb hby d_rmii_5) rfl rfl
  obtain ⟨T23, X23, e23, k23⟩ := k22.initO (Wd := 0) X21 hx hZ hown (by rw [hml]; rfl) (hv 59 rfl) (hv 20 rfl) (hv 21 rfl) e21 (hb hby d_rmii_6) (Nat.le_of_eq rfl) (by decide) (by decide)
  have k23 : Go p e below m W T23 9 #[.val (.ref a1), .val (.ref l1)] [] := k23
  have k24 : Go p e below m W T23 11 #[.val (.ref a1), .val (.ref l1)] [(.int (-1 : Int32)), (.ref a1)] := (k23.aloadN X23 hx (hb hby d_rmii_9) rfl rfl).iconst X23 hx (hb hby d_rmii_10) (v := (-1 : Int32)) rfl
  have g_1 := F1.other W21 (Or.inr (slot_ne (Or.inl (hv 61 rfl)) (Or.inr (hv 58 rfl)) (by decide) (by decide : parseFieldDescriptor "I" = some .int) (by decide : parseFieldDescriptor "Ljava/util/ArrayList;" = some (.object "java/util/ArrayList"))))
  have g_2 := E1.wr W21
  obtain ⟨T25, h25, l25, X25, e25, W25, N25, k25⟩ := k24.putF X23 hx hZ hown (host := "") (Or.inl (hv 60 rfl)) Via.refl e23 g_1 g_2 (Or.inl (hv 61 rfl)) (hv 51 rfl) (ty := .int) (by decide) rfl rfl N21 G1 (hb hby d_rmii_11)
  have k25 : Go p e below m W T25 14 #[.val (.ref a1), .val (.ref l1)] [] := k25
  have Z25 : n0 ≤ h25.size := (Wr.size W25).symm ▸ Z21
  have K25 : Keep h0 h25 [a1] := K21.wr W25 (Or.inl (List.mem_of_getElem? (i := 0) rfl))
  have k26 : Go p e below m W T25 16 #[.val (.ref a1), .val (.ref l1)] [(.ref a1), (.ref a1)] := (k25.aloadN X25 hx (hb hby d_rmii_14) rfl rfl).aloadN X25 hx (hb hby d_rmii_15) rfl rfl
  have g_3 := (F0.same W21).other W25 (Or.inr (slot_ne (Or.inr (hv 58 rfl)) (Or.inl (hv 61 rfl)) (by decide) (by decide : parseFieldDescriptor "Ljava/util/ArrayList;" = some (.object "java/util/ArrayList")) (by decide : parseFieldDescriptor "I" = some .int)))
  obtain ⟨T27, X27, e27, k27⟩ := k26.getF X25 hx hZ hown (host := "") (Or.inl (hv 57 rfl)) Via.refl e25 g_3 (hb hby d_rmii_16)
  have k27 : Go p e below m W T27 19 #[.val (.ref a1), .val (.ref l1)] [(.ref l1), (.ref a1)] := k27
  have g_4 := (F4.other W21 (Or.inl nal)).other W25 (Or.inl nal)
  obtain ⟨T28, X28, e28, k28⟩ := k27.getF X27 hx hZ hown (host := "") (Or.inl (hv 62 rfl)) (Via.of (hv 63 rfl)) e27 g_4 (hb hby d_rmii_19)
  have k28 : Go p e below m W T28 22 #[.val (.ref a1), .val (.ref l1)] [(.int w), (.ref a1)] := k28
  have g_5 := (F2.other W21 (Or.inr (slot_ne (Or.inl (hv 65 rfl)) (Or.inr (hv 58 rfl)) (by decide) (by decide : parseFieldDescriptor "I" = some .int) (by decide : parseFieldDescriptor "Ljava/util/ArrayList;" = some (.object "java/util/ArrayList"))))).other W25 (Or.inr (slot_ne (Or.inl (hv 65 rfl)) (Or.inl (hv 61 rfl)) (by decide) (by decide : parseFieldDescriptor "I" = some .int) (by decide : parseFieldDescriptor "I" = some .int)))
  have g_6 := g_2.wr W25
  obtain ⟨T29, h29, l29, X29, e29, W29, N29, k29⟩ := k28.putF X28 hx hZ hown (host := "") (Or.inl (hv 64 rfl)) Via.refl e28 g_5 g_6 (Or.inl (hv 65 rfl)) (hv 51 rfl) (ty := .int) (by decide) rfl rfl N25 G1 (hb hby d_rmii_22)
  have k29 : Go p e below m W T29 25 #[.val (.ref a1), .val (.ref l1)] [] := k29
  have Z29 : n0 ≤ h29.size := (Wr.size W29).symm ▸ Z25
  have K29 : Keep h0 h29 [a1] := K25.wr W29 (Or.inl (List.mem_of_getElem? (i := 0) rfl))
  have g_7 := g_6.wr W29
  have g_8 := g_3.other W29 (Or.inr (slot_ne (Or.inr (hv 58 rfl)) (Or.inl (hv 65 rfl)) (by decide) (by decide : parseFieldDescriptor "Ljava/util/ArrayList;" = some (.object "java/util/ArrayList")) (by decide : parseFieldDescriptor "I" = some .int)))
  have g_9 := (g_1.same W25).other W29 (Or.inr (slot_ne (Or.inl (hv 61 rfl)) (Or.inl (hv 65 rfl)) (by decide) (by decide : parseFieldDescriptor "I" = some .int) (by decide : parseFieldDescriptor "I" = some .int)))
  have g_10 := g_5.same W29
  have g_11 := ((F3.other W21 (Or.inr (slot_ne (Or.inl (hv 76 rfl)) (Or.inr (hv 58 rfl)) (by decide) (by decide : parseFieldDescriptor "I" = some .int) (by decide : parseFieldDescriptor "Ljava/util/ArrayList;" = some (.object "java/util/ArrayList"))))).other W25 (Or.inr (slot_ne (Or.inl (hv 76 rfl)) (Or.inl (hv 61 rfl)) (by decide) (by decide : parseFieldDescriptor "I" = some .int) (by decide : parseFieldDescriptor "I" = some .int)))).other W29 (Or.inr (slot_ne (Or.inl (hv 76 rfl)) (Or.inl (hv 65 rfl)) (by decide) (by decide : parseFieldDescriptor "I" = some .int) (by decide : parseFieldDescriptor "I" = some .int)))
  exact k29.return_ X29 hx Bd.returns (hb hby d_rmii_25) (BodyLoose.notSynchronized Bd) (by rw [e29]; exact ⟨rfl, N29, K29, g_7, g_8, g_9, g_10, g_11⟩) (by decide) (by decide)

theorem d_rmit_0 : decode jdk_38_method_55_code 0 = .ok (.new 267, 3) := by decide +kernel
theorem d_rmit_3 : decode jdk_38_method_55_code 3 = .ok (.dup, 1) := by decide +kernel
theorem d_rmit_4 : decode jdk_38_method_55_code 4 = .ok (.aload_n 0, 1) := by decide +kernel
theorem d_rmit_5 : decode jdk_38_method_55_code 5 = .ok (.invokespecial 269, 3) := by decide +kernel
theorem d_rmit_8 : decode jdk_38_method_55_code 8 = .ok (.areturn, 1) := by decide +kernel
theorem pd_rmit_0 : parseMethodDescriptor "(Ljava/util/ArrayList;)V" = some ⟨[(.object "java/util/ArrayList")], none⟩ := by decide +kernel
theorem ef_rmit (m : MethodId) (l1 : Addr) : entryFrame m #[(.ref l1)] 1 = mkF m 0 #[.val (.ref l1)] [] := by first | (simp [entryFrame, mkF, argsToLocals, Value.category]; done) | rfl
def Q_rmit (Z : State) (l1 : Addr) (w : Int32) (h0 : Heap) (n0 : Nat) (v : Option Value) (h : Heap) (L : List Loc) : Prop := ∃ (oi : Addr), v = some (.ref oi) ∧ Fr n0 L ∧ Keep h0 h [] ∧ Exa Z h oi "java/util/ArrayList$Itr" ∧ Fld Z h oi "java/util/ArrayList$Itr" "this$0" "Ljava/util/ArrayList;" (.ref l1) ∧ Fld Z h oi "java/util/ArrayList$Itr" "lastRet" "I" (.int (-1 : Int32)) ∧ Fld Z h oi "java/util/ArrayList$Itr" "expectedModCount" "I" (.int w) ∧ Fld Z h oi "java/util/ArrayList$Itr" "cursor" "I" (.int (0 : Int32)) ∧ n0 ≤ oi ∧ h0.size ≤ oi
set_option maxRecDepth 65536 in
set_option maxHeartbeats 40000000 in
theorem rmit (l : Launch) (Z : State) (a0 : Array Value) (hw : ∀ d ∈ tables_1, d.before a0 Z = true) (ws : List Jvm.Cond) (l1 : Addr) (w : Int32) (h0 : Heap) (n0 : Nat) (Z0 : n0 ≤ h0.size) (E1 : Exa Z h0 l1 "java/util/ArrayList") (F4 : Fld Z h0 l1 "java/util/AbstractList" "modCount" "I" (.int w)) :
    MetFree l (⟨"java/util/ArrayList", "iterator", "()Ljava/util/Iterator;"⟩ : MethodName) (head1 (Jvm.Cond.code (⟨"java/util/ArrayList", "iterator", "()Ljava/util/Iterator;"⟩ : MethodName) jdk_38_method_55_code 1 (some (.object "java/util/Iterator")) :: ws) ({ frames := 2, cells := 1, slots := 4, locals := 26 } : Room)) (fun a U => a = #[(.ref l1)] ∧ Z.Warmed39 U.vm ∧ U.heap = h0) (fun _ _ _ _ _ => True) (fun _ U o U' => ∃ v L, o = .returned v ∧ Q_rmit Z l1 w h0 n0 v U'.heap L ∧ FrameEnd U o U' L ({ frames := 2, cells := 1, slots := 4, locals := 26 } : Room).cells ({ frames := 2, cells := 1, slots := 4, locals := 26 } : Room).slots) := by
  refine MetFree.of_bodySF (plainFor_of_name pn_rmar) hisR ?_
  intro p e s m args_ below meth c s₁ Bd hml0 hP hK
  obtain ⟨hargs, hZ, hh⟩ := hP
  have hx := Bd.exec
  have hby := Bd.bytes
  have hml : c.maxLocals = 1 := hml0
  have hown : s.vm.findClass "java/util/ArrayList" = some m.cls := findClass_of_methodNamed Bd.named
  have hnm := (name_of_methodNamed Bd.named Bd.method).1
  have X0 : Stand p l e ({ frames := 2, cells := 1, slots := 4, locals := 26 } : Room) s m args_ below meth c s₁ [] 0 0 := Stand.of_body Bd
  have e0 : s₁.heap = h0 := by rw [← hh, Bd.state]; rfl
  have N0 := Fr.nil n0
  have hv : ∀ (i : Nat) {d : Jvm.Cond}, tables_1[i]? = some d → d.before a0 Z = true := fun i d q => hw d (List.mem_of_getElem? q)
  have K0 : Keep h0 h0 [] := Keep.refl _ _
  have k0 : Go p e below m (s₁.setTop (entryFrame m args_ 1)) s₁ 0 #[.val (.ref l1)] [] := by rw [hargs]; exact fun t_ kt_ => castTop (ef_rmit m l1) kt_
  obtain ⟨W, hWW⟩ : ∃ W, W = s₁.setTop (entryFrame m args_ 1) := ⟨_, rfl⟩
  rw [← hWW] at k0 ⊢
  show Done p e below s W (Q_rmit Z l1 w h0 n0) ({ frames := 2, cells := 1, slots := 4, locals := 26 } : Room).cells ({ frames := 2, cells := 1, slots := 4, locals := 26 } : Room).slots
  obtain ⟨T20, h20, b20, X20, e20, g20, E20, A20, D20, k20⟩ := k0.newO (cells' := 1) (slots' := 4) X0 hx hZ hown (hv 50 rfl) (hv 51 rfl) (hv 52 rfl) e0 (hb hby d_rmit_0) rfl rfl (by decide) (by decide)
  have k20 : Go p e below m W T20 3 #[.val (.ref l1)] [(.ref b20)] := k20
  have Z20 : n0 ≤ h20.size := Nat.le_trans Z0 E20.1
  have G20 : n0 ≤ b20 := g20 ▸ Z0
  have H20 : h0.size ≤ b20 := g20 ▸ K0.1
  have K20 : Keep h0 h20 [] := K0.ext E20
  have f21 : Fld Z h20 b20 "java/util/ArrayList$Itr" "this$0" "Ljava/util/ArrayList;" .null := D20 (Or.inr (hv 58 rfl)) (ty := (.object "java/util/ArrayList")) (by decide)
  have f22 : Fld Z h20 b20 "java/util/ArrayList$Itr" "lastRet" "I" (.int (0 : Int32)) := D20 (Or.inl (hv 61 rfl)) (ty := .int) (by decide)
  have f23 : Fld Z h20 b20 "java/util/ArrayList$Itr" "expectedModCount" "I" (.int (0 : Int32)) := D20 (Or.inl (hv 65 rfl)) (ty := .int) (by decide)
  have f24 : Fld Z h20 b20 "java/util/ArrayList$Itr" "cursor" "I" (.int (0 : Int32)) := D20 (Or.inl (hv 76 rfl)) (ty := .int) (by decide)
  have k25 : Go p e below m W T20 5 #[.val (.ref l1)] [(.ref l1), (.ref b20), (.ref b20)] := (k20.dup X20 hx (hb hby d_rmit_3) rfl).aloadN X20 hx (hb hby d_rmit_4) rfl rfl
  have g_1 := F4.ext E20
  have g_2 := (show l1 ≠ b20 from Nat.ne_of_lt (g20 ▸ E1.lt))
  obtain ⟨T26, v26, L26, X26, Q26, k26⟩ := k25.spec (y := (⟨"java/util/ArrayList$Itr", "<init>", "(Ljava/util/ArrayList;)V"⟩ : MethodName)) (b := b20) (Wd := 1) (cells' := 1) (slots' := 4) (argsL := [(.ref l1)]) (rest := [(.ref b20)]) X20 hx hZ hown (by rw [hml]; rfl) rfl (hv 53 rfl) (hv 54 rfl) (hv 56 rfl) (hv 52 rfl) (hb hby d_rmit_5) (by decide) (rmii l Z a0 hw [] b20 l1 w .null (.int (0 : Int32)) (.int (0 : Int32)) h20 n0 Z20 A20 G20 f21 f22 f23 f24 g_1 g_2) e20 rfl rfl pd_rmit_0 rfl (Nat.le_of_eq rfl) (by decide) (by decide) rfl rfl (by decide) (by decide)
  obtain ⟨rfl, Nq26, Kq26, q26_0, q26_1, q26_2, q26_3, q26_4⟩ := Q26
  have N26 := Fr.app N0 Nq26
  obtain ⟨h26, e26⟩ : ∃ h, T26.heap = h := ⟨_, rfl⟩
  rw [e26] at Kq26 q26_0 q26_1 q26_2 q26_3 q26_4
  have Z26 : n0 ≤ h26.size := Nat.le_trans Z20 Kq26.1
  have K26 : Keep h0 h26 [] := K20.trans Kq26 (by intro x q; simp only [List.mem_cons, List.not_mem_nil, or_false] at q; rcases q with rfl; exact (Or.inr H20))
  have k26 : Go p e below m W T26 8 #[.val (.ref l1)] [(.ref b20)] := k26
  exact k26.areturn X26 hx Bd.returns rfl rfl (hb hby d_rmit_8) (BodyLoose.notSynchronized Bd) (by rw [e26]; exact ⟨b20, rfl, N26, K26, q26_0, q26_1, q26_2, q26_3, q26_4, G20, H20⟩) (by decide) (by decide)

theorem d_rmhn00_0 : decode jdk_49_method_2_code 0 = .ok (.aload_n 0, 1) := by decide +kernel
theorem d_rmhn00_1 : decode jdk_49_method_2_code 1 = .ok (.getfield 25, 3) := by decide +kernel
theorem d_rmhn00_4 : decode jdk_49_method_2_code 4 = .ok (.aload_n 0, 1) := by decide +kernel
theorem d_rmhn00_5 : decode jdk_49_method_2_code 5 = .ok (.getfield 1, 3) := by decide +kernel
theorem d_rmhn00_8 : decode jdk_49_method_2_code 8 = .ok (.getfield 28, 3) := by decide +kernel
theorem d_rmhn00_11 : decode jdk_49_method_2_code 11 = .ok (.if_icmp .eq 7, 3) := by decide +kernel
theorem d_rmhn00_18 : decode jdk_49_method_2_code 18 = .ok (.iconst 0, 1) := by decide +kernel
theorem d_rmhn00_19 : decode jdk_49_method_2_code 19 = .ok (.ireturn, 1) := by decide +kernel
theorem ef_rmhn00 (m : MethodId) (a1 : Addr) : entryFrame m #[(.ref a1)] 1 = mkF m 0 #[.val (.ref a1)] [] := by first | (simp [entryFrame, mkF, argsToLocals, Value.category]; done) | rfl
def Q_rmhn00 (Z : State) (a1 : Addr) (l1 : Addr) (h0 : Heap) (n0 : Nat) (v : Option Value) (h : Heap) (L : List Loc) : Prop := v = some (.int (0 : Int32)) ∧ Fr n0 L ∧ h = h0
set_option maxRecDepth 65536 in
set_option maxHeartbeats 40000000 in
theorem rmhn00 (l : Launch) (Z : State) (a0 : Array Value) (hw : ∀ d ∈ tables_1, d.before a0 Z = true) (ws : List Jvm.Cond) (a1 : Addr) (l1 : Addr) (h0 : Heap) (n0 : Nat) (Z0 : n0 ≤ h0.size) (F0 : Fld Z h0 a1 "java/util/ArrayList$Itr" "this$0" "Ljava/util/ArrayList;" (.ref l1)) (F1 : Fld Z h0 a1 "java/util/ArrayList$Itr" "cursor" "I" (.int (0 : Int32))) (F2 : Fld Z h0 l1 "java/util/ArrayList" "size" "I" (.int (0 : Int32))) :
    MetFree l (⟨"java/util/ArrayList$Itr", "hasNext", "()Z"⟩ : MethodName) (head1 (Jvm.Cond.code (⟨"java/util/ArrayList$Itr", "hasNext", "()Z"⟩ : MethodName) jdk_49_method_2_code 1 (some .boolean) :: ws) ({ frames := 0, cells := 0, slots := 0, locals := 0 } : Room)) (fun a U => a = #[(.ref a1)] ∧ Z.Warmed39 U.vm ∧ U.heap = h0) (fun _ _ _ _ _ => True) (fun _ U o U' => ∃ v L, o = .returned v ∧ Q_rmhn00 Z a1 l1 h0 n0 v U'.heap L ∧ FrameEnd U o U' L ({ frames := 0, cells := 0, slots := 0, locals := 0 } : Room).cells ({ frames := 0, cells := 0, slots := 0, locals := 0 } : Room).slots) := by
  refine MetFree.of_bodySF (plainFor_of_name pn_rmii) hisR ?_
  intro p e s m args_ below meth c s₁ Bd hml0 hP hK
  obtain ⟨hargs, hZ, hh⟩ := hP
  have hx := Bd.exec
  have hby := Bd.bytes
  have hml : c.maxLocals = 1 := hml0
  have hown : s.vm.findClass "java/util/ArrayList$Itr" = some m.cls := findClass_of_methodNamed Bd.named
  have hnm := (name_of_methodNamed Bd.named Bd.method).1
  have X0 : Stand p l e ({ frames := 0, cells := 0, slots := 0, locals := 0 } : Room) s m args_ below meth c s₁ [] 0 0 := Stand.of_body Bd
  have e0 : s₁.heap = h0 := by rw [← hh, Bd.state]; rfl
  have N0 := Fr.nil n0
  have hv : ∀ (i : Nat) {d : Jvm.Cond}, tables_1[i]? = some d → d.before a0 Z = true := fun i d q => hw d (List.mem_of_getElem? q)
  have k0 : Go p e below m (s₁.setTop (entryFrame m args_ 1)) s₁ 0 #[.val (.ref a1)] [] := by rw [hargs]; exact fun t_ kt_ => castTop (ef_rmhn00 m a1) kt_
  obtain ⟨W, hWW⟩ : ∃ W, W = s₁.setTop (entryFrame m args_ 1) := ⟨_, rfl⟩
  rw [← hWW] at k0 ⊢
  show Done p e below s W (Q_rmhn00 Z a1 l1 h0 n0) ({ frames := 0, cells := 0, slots := 0, locals := 0 } : Room).cells ({ frames := 0, cells := 0, slots := 0, locals := 0 } : Room).slots
  have k20 : Go p e below m W s₁ 1 #[.val (.ref a1)] [(.ref a1)] := k0.aloadN X0 hx (hb hby d_rmhn00_0) rfl rfl
  obtain ⟨T21, X21, e21, k21⟩ := k20.getF X0 hx hZ hown (host := "") (Or.inl (hv 75 rfl)) Via.refl e0 F1 (hb hby d_rmhn00_1)
  have k21 : Go p e below m W T21 4 #[.val (.ref a1)] [(.int (0 : Int32))] := k21
  have k22 : Go p e below m W T21 5 #[.val (.ref a1)] [(.ref a1), (.int (0 : Int32))] := k21.aloadN X21 hx (hb hby d_rmhn00_4) rfl rfl
  obtain ⟨T23, X23, e23, k23⟩ := k22.getF X21 hx hZ hown (host := "") (Or.inl (hv 57 rfl)) Via.refl e21 F0 (hb hby d_rmhn00_5)
  have k23 : Go p e below m W T23 8 #[.val (.ref a1)] [(.ref l1), (.int (0 : Int32))] := k23
  obtain ⟨T24, X24, e24, k24⟩ := k23.getF X23 hx hZ hown (host := "java/util/ArrayList") (Or.inr (hv 77 rfl)) Via.refl e23 F2 (hb hby d_rmhn00_8)
  have k24 : Go p e below m W T24 11 #[.val (.ref a1)] [(.int (0 : Int32)), (.int (0 : Int32))] := k24
  have k25 : Go p e below m W T24 19 #[.val (.ref a1)] [(.int (0 : Int32))] := (k24.icmpYes X24 hx (hb hby d_rmhn00_11) (XT.ii_eq_t (by decide)) (by decide) (by decide)).iconst X24 hx (hb hby d_rmhn00_18) (v := (0 : Int32)) rfl
  exact k25.ireturnN X24 hx (t := .boolean) Bd.returns (by simp) rfl (hb hby d_rmhn00_19) (BodyLoose.notSynchronized Bd) (by rw [e24]; exact ⟨rfl, N0, rfl⟩) (by decide) (by decide)

theorem d_rmem0_0 : decode jdk_38_method_9_code 0 = .ok (.aload_n 0, 1) := by decide +kernel
theorem d_rmem0_1 : decode jdk_38_method_9_code 1 = .ok (.getfield 48, 3) := by decide +kernel
theorem d_rmem0_4 : decode jdk_38_method_9_code 4 = .ok (.ifCond .ne 7, 3) := by decide +kernel
theorem d_rmem0_7 : decode jdk_38_method_9_code 7 = .ok (.iconst 1, 1) := by decide +kernel
theorem d_rmem0_8 : decode jdk_38_method_9_code 8 = .ok (.goto 4, 3) := by decide +kernel
theorem d_rmem0_12 : decode jdk_38_method_9_code 12 = .ok (.ireturn, 1) := by decide +kernel
theorem ef_rmem0 (m : MethodId) (a1 : Addr) : entryFrame m #[(.ref a1)] 1 = mkF m 0 #[.val (.ref a1)] [] := by first | (simp [entryFrame, mkF, argsToLocals, Value.category]; done) | rfl
def Q_rmem0 (Z : State) (a1 : Addr) (h0 : Heap) (n0 : Nat) (v : Option Value) (h : Heap) (L : List Loc) : Prop := v = some (.int (1 : Int32)) ∧ Fr n0 L ∧ h = h0
set_option maxRecDepth 65536 in
set_option maxHeartbeats 40000000 in
theorem rmem0 (l : Launch) (Z : State) (a0 : Array Value) (hw : ∀ d ∈ tables_1, d.before a0 Z = true) (ws : List Jvm.Cond) (a1 : Addr) (h0 : Heap) (n0 : Nat) (Z0 : n0 ≤ h0.size) (F2 : Fld Z h0 a1 "java/util/ArrayList" "size" "I" (.int (0 : Int32))) :
    MetFree l (⟨"java/util/ArrayList", "isEmpty", "()Z"⟩ : MethodName) (head1 (Jvm.Cond.code (⟨"java/util/ArrayList", "isEmpty", "()Z"⟩ : MethodName) jdk_38_method_9_code 1 (some .boolean) :: ws) ({ frames := 0, cells := 0, slots := 0, locals := 0 } : Room)) (fun a U => a = #[(.ref a1)] ∧ Z.Warmed39 U.vm ∧ U.heap = h0) (fun _ _ _ _ _ => True) (fun _ U o U' => ∃ v L, o = .returned v ∧ Q_rmem0 Z a1 h0 n0 v U'.heap L ∧ FrameEnd U o U' L ({ frames := 0, cells := 0, slots := 0, locals := 0 } : Room).cells ({ frames := 0, cells := 0, slots := 0, locals := 0 } : Room).slots) := by
  refine MetFree.of_bodySF (plainFor_of_name pn_rmar) hisR ?_
  intro p e s m args_ below meth c s₁ Bd hml0 hP hK
  obtain ⟨hargs, hZ, hh⟩ := hP
  have hx := Bd.exec
  have hby := Bd.bytes
  have hml : c.maxLocals = 1 := hml0
  have hown : s.vm.findClass "java/util/ArrayList" = some m.cls := findClass_of_methodNamed Bd.named
  have hnm := (name_of_methodNamed Bd.named Bd.method).1
  have X0 : Stand p l e ({ frames := 0, cells := 0, slots := 0, locals := 0 } : Room) s m args_ below meth c s₁ [] 0 0 := Stand.of_body Bd
  have e0 : s₁.heap = h0 := by rw [← hh, Bd.state]; rfl
  have N0 := Fr.nil n0
  have hv : ∀ (i : Nat) {d : Jvm.Cond}, tables_1[i]? = some d → d.before a0 Z = true := fun i d q => hw d (List.mem_of_getElem? q)
  have k0 : Go p e below m (s₁.setTop (entryFrame m args_ 1)) s₁ 0 #[.val (.ref a1)] [] := by rw [hargs]; exact fun t_ kt_ => castTop (ef_rmem0 m a1) kt_
  obtain ⟨W, hWW⟩ : ∃ W, W = s₁.setTop (entryFrame m args_ 1) := ⟨_, rfl⟩
  rw [← hWW] at k0 ⊢
  show Done p e below s W (Q_rmem0 Z a1 h0 n0) ({ frames := 0, cells := 0, slots := 0, locals := 0 } : Room).cells ({ frames := 0, cells := 0, slots := 0, locals := 0 } : Room).slots
  have k20 : Go p e below m W s₁ 1 #[.val (.ref a1)] [(.ref a1)] := k0.aloadN X0 hx (hb hby d_rmem0_0) rfl rfl
  obtain ⟨T21, X21, e21, k21⟩ := k20.getF X0 hx hZ hown (host := "") (Or.inl (hv 87 rfl)) Via.refl e0 F2 (hb hby d_rmem0_1)
  have k21 : Go p e below m W T21 4 #[.val (.ref a1)] [(.int (0 : Int32))] := k21
  have k22 : Go p e below m W T21 12 #[.val (.ref a1)] [(.int (1 : Int32))] := ((k21.ifNo X21 hx (hb hby d_rmem0_4) (XT.i0_ne_f (by decide))).iconst X21 hx (hb hby d_rmem0_7) (v := (1 : Int32)) rfl).goto X21 hx (hb hby d_rmem0_8) (by decide) (by decide)
  exact k22.ireturnN X21 hx (t := .boolean) Bd.returns (by simp) rfl (hb hby d_rmem0_12) (BodyLoose.notSynchronized Bd) (by rw [e21]; exact ⟨rfl, N0, rfl⟩) (by decide) (by decide)

theorem d_rmhn00_14 : decode jdk_49_method_2_code 14 = .ok (.iconst 1, 1) := by decide +kernel
theorem d_rmhn00_15 : decode jdk_49_method_2_code 15 = .ok (.goto 4, 3) := by decide +kernel
theorem ef_rmhn01 (m : MethodId) (a1 : Addr) : entryFrame m #[(.ref a1)] 1 = mkF m 0 #[.val (.ref a1)] [] := by first | (simp [entryFrame, mkF, argsToLocals, Value.category]; done) | rfl
def Q_rmhn01 (Z : State) (a1 : Addr) (l1 : Addr) (h0 : Heap) (n0 : Nat) (v : Option Value) (h : Heap) (L : List Loc) : Prop := v = some (.int (1 : Int32)) ∧ Fr n0 L ∧ h = h0
set_option maxRecDepth 65536 in
set_option maxHeartbeats 40000000 in
theorem rmhn01 (l : Launch) (Z : State) (a0 : Array Value) (hw : ∀ d ∈ tables_1, d.before a0 Z = true) (ws : List Jvm.Cond) (a1 : Addr) (l1 : Addr) (h0 : Heap) (n0 : Nat) (Z0 : n0 ≤ h0.size) (F0 : Fld Z h0 a1 "java/util/ArrayList$Itr" "this$0" "Ljava/util/ArrayList;" (.ref l1)) (F1 : Fld Z h0 a1 "java/util/ArrayList$Itr" "cursor" "I" (.int (0 : Int32))) (F2 : Fld Z h0 l1 "java/util/ArrayList" "size" "I" (.int (1 : Int32))) :
    MetFree l (⟨"java/util/ArrayList$Itr", "hasNext", "()Z"⟩ : MethodName) (head1 (Jvm.Cond.code (⟨"java/util/ArrayList$Itr", "hasNext", "()Z"⟩ : MethodName) jdk_49_method_2_code 1 (some .boolean) :: ws) ({ frames := 0, cells := 0, slots := 0, locals := 0 } : Room)) (fun a U => a = #[(.ref a1)] ∧ Z.Warmed39 U.vm ∧ U.heap = h0) (fun _ _ _ _ _ => True) (fun _ U o U' => ∃ v L, o = .returned v ∧ Q_rmhn01 Z a1 l1 h0 n0 v U'.heap L ∧ FrameEnd U o U' L ({ frames := 0, cells := 0, slots := 0, locals := 0 } : Room).cells ({ frames := 0, cells := 0, slots := 0, locals := 0 } : Room).slots) := by
  refine MetFree.of_bodySF (plainFor_of_name pn_rmii) hisR ?_
  intro p e s m args_ below meth c s₁ Bd hml0 hP hK
  obtain ⟨hargs, hZ, hh⟩ := hP
  have hx := Bd.exec
  have hby := Bd.bytes
  have hml : c.maxLocals = 1 := hml0
  have hown : s.vm.findClass "java/util/ArrayList$Itr" = some m.cls := findClass_of_methodNamed Bd.named
  have hnm := (name_of_methodNamed Bd.named Bd.method).1
  have X0 : Stand p l e ({ frames := 0, cells := 0, slots := 0, locals := 0 } : Room) s m args_ below meth c s₁ [] 0 0 := Stand.of_body Bd
  have e0 : s₁.heap = h0 := by rw [← hh, Bd.state]; rfl
  have N0 := Fr.nil n0
  have hv : ∀ (i : Nat) {d : Jvm.Cond}, tables_1[i]? = some d → d.before a0 Z = true := fun i d q => hw d (List.mem_of_getElem? q)
  have k0 : Go p e below m (s₁.setTop (entryFrame m args_ 1)) s₁ 0 #[.val (.ref a1)] [] := by rw [hargs]; exact fun t_ kt_ => castTop (ef_rmhn01 m a1) kt_
  obtain ⟨W, hWW⟩ : ∃ W, W = s₁.setTop (entryFrame m args_ 1) := ⟨_, rfl⟩
  rw [← hWW] at k0 ⊢
  show Done p e below s W (Q_rmhn01 Z a1 l1 h0 n0) ({ frames := 0, cells := 0, slots := 0, locals := 0 } : Room).cells ({ frames := 0, cells := 0, slots := 0, locals := 0 } : Room).slots
  have k20 : Go p e below m W s₁ 1 #[.val (.ref a1)] [(.ref a1)] := k0.aloadN X0 hx (hb hby d_rmhn00_0) rfl rfl
  obtain ⟨T21, X21, e21, k21⟩ := k20.getF X0 hx hZ hown (host := "") (Or.inl (hv 75 rfl)) Via.refl e0 F1 (hb hby d_rmhn00_1)
  have k21 : Go p e below m W T21 4 #[.val (.ref a1)] [(.int (0 : Int32))] := k21
  have k22 : Go p e below m W T21 5 #[.val (.ref a1)] [(.ref a1), (.int (0 : Int32))] := k21.aloadN X21 hx (hb hby d_rmhn00_4) rfl rfl
  obtain ⟨T23, X23, e23, k23⟩ := k22.getF X21 hx hZ hown (host := "") (Or.inl (hv 57 rfl)) Via.refl e21 F0 (hb hby d_rmhn00_5)
  have k23 : Go p e below m W T23 8 #[.val (.ref a1)] [(.ref l1), (.int (0 : Int32))] := k23
  obtain ⟨T24, X24, e24, k24⟩ := k23.getF X23 hx hZ hown (host := "java/util/ArrayList") (Or.inr (hv 77 rfl)) Via.refl e23 F2 (hb hby d_rmhn00_8)
  have k24 : Go p e below m W T24 11 #[.val (.ref a1)] [(.int (1 : Int32)), (.int (0 : Int32))] := k24
  have k25 : Go p e below m W T24 19 #[.val (.ref a1)] [(.int (1 : Int32))] := ((k24.icmpNo X24 hx (hb hby d_rmhn00_11) (XT.ii_eq_f (by decide))).iconst X24 hx (hb hby d_rmhn00_14) (v := (1 : Int32)) rfl).goto X24 hx (hb hby d_rmhn00_15) (by decide) (by decide)
  exact k25.ireturnN X24 hx (t := .boolean) Bd.returns (by simp) rfl (hb hby d_rmhn00_19) (BodyLoose.notSynchronized Bd) (by rw [e24]; exact ⟨rfl, N0, rfl⟩) (by decide) (by decide)

theorem ef_rmhn11 (m : MethodId) (a1 : Addr) : entryFrame m #[(.ref a1)] 1 = mkF m 0 #[.val (.ref a1)] [] := by first | (simp [entryFrame, mkF, argsToLocals, Value.category]; done) | rfl
def Q_rmhn11 (Z : State) (a1 : Addr) (l1 : Addr) (h0 : Heap) (n0 : Nat) (v : Option Value) (h : Heap) (L : List Loc) : Prop := v = some (.int (0 : Int32)) ∧ Fr n0 L ∧ h = h0
set_option maxRecDepth 65536 in
set_option maxHeartbeats 40000000 in
theorem rmhn11 (l : Launch) (Z : State) (a0 : Array Value) (hw : ∀ d ∈ tables_1, d.before a0 Z = true) (ws : List Jvm.Cond) (a1 : Addr) (l1 : Addr) (h0 : Heap) (n0 : Nat) (Z0 : n0 ≤ h0.size) (F0 : Fld Z h0 a1 "java/util/ArrayList$Itr" "this$0" "Ljava/util/ArrayList;" (.ref l1)) (F1 : Fld Z h0 a1 "java/util/ArrayList$Itr" "cursor" "I" (.int (1 : Int32))) (F2 : Fld Z h0 l1 "java/util/ArrayList" "size" "I" (.int (1 : Int32))) :
    MetFree l (⟨"java/util/ArrayList$Itr", "hasNext", "()Z"⟩ : MethodName) (head1 (Jvm.Cond.code (⟨"java/util/ArrayList$Itr", "hasNext", "()Z"⟩ : MethodName) jdk_49_method_2_code 1 (some .boolean) :: ws) ({ frames := 0, cells := 0, slots := 0, locals := 0 } : Room)) (fun a U => a = #[(.ref a1)] ∧ Z.Warmed39 U.vm ∧ U.heap = h0) (fun _ _ _ _ _ => True) (fun _ U o U' => ∃ v L, o = .returned v ∧ Q_rmhn11 Z a1 l1 h0 n0 v U'.heap L ∧ FrameEnd U o U' L ({ frames := 0, cells := 0, slots := 0, locals := 0 } : Room).cells ({ frames := 0, cells := 0, slots := 0, locals := 0 } : Room).slots) := by
  refine MetFree.of_bodySF (plainFor_of_name pn_rmii) hisR ?_
  intro p e s m args_ below meth c s₁ Bd hml0 hP hK
  obtain ⟨hargs, hZ, hh⟩ := hP
  have hx := Bd.exec
  have hby := Bd.bytes
  have hml : c.maxLocals = 1 := hml0
  have hown : s.vm.findClass "java/util/ArrayList$Itr" = some m.cls := findClass_of_methodNamed Bd.named
  have hnm := (name_of_methodNamed Bd.named Bd.method).1
  have X0 : Stand p l e ({ frames := 0, cells := 0, slots := 0, locals := 0 } : Room) s m args_ below meth c s₁ [] 0 0 := Stand.of_body Bd
  have e0 : s₁.heap = h0 := by rw [← hh, Bd.state]; rfl
  have N0 := Fr.nil n0
  have hv : ∀ (i : Nat) {d : Jvm.Cond}, tables_1[i]? = some d → d.before a0 Z = true := fun i d q => hw d (List.mem_of_getElem? q)
  have k0 : Go p e below m (s₁.setTop (entryFrame m args_ 1)) s₁ 0 #[.val (.ref a1)] [] := by rw [hargs]; exact fun t_ kt_ => castTop (ef_rmhn11 m a1) kt_
  obtain ⟨W, hWW⟩ : ∃ W, W = s₁.setTop (entryFrame m args_ 1) := ⟨_, rfl⟩
  rw [← hWW] at k0 ⊢
  show Done p e below s W (Q_rmhn11 Z a1 l1 h0 n0) ({ frames := 0, cells := 0, slots := 0, locals := 0 } : Room).cells ({ frames := 0, cells := 0, slots := 0, locals := 0 } : Room).slots
  have k20 : Go p e below m W s₁ 1 #[.val (.ref a1)] [(.ref a1)] := k0.aloadN X0 hx (hb hby d_rmhn00_0) rfl rfl
  obtain ⟨T21, X21, e21, k21⟩ := k20.getF X0 hx hZ hown (host := "") (Or.inl (hv 75 rfl)) Via.refl e0 F1 (hb hby d_rmhn00_1)
  have k21 : Go p e below m W T21 4 #[.val (.ref a1)] [(.int (1 : Int32))] := k21
  have k22 : Go p e below m W T21 5 #[.val (.ref a1)] [(.ref a1), (.int (1 : Int32))] := k21.aloadN X21 hx (hb hby d_rmhn00_4) rfl rfl
  obtain ⟨T23, X23, e23, k23⟩ := k22.getF X21 hx hZ hown (host := "") (Or.inl (hv 57 rfl)) Via.refl e21 F0 (hb hby d_rmhn00_5)
  have k23 : Go p e below m W T23 8 #[.val (.ref a1)] [(.ref l1), (.int (1 : Int32))] := k23
  obtain ⟨T24, X24, e24, k24⟩ := k23.getF X23 hx hZ hown (host := "java/util/ArrayList") (Or.inr (hv 77 rfl)) Via.refl e23 F2 (hb hby d_rmhn00_8)
  have k24 : Go p e below m W T24 11 #[.val (.ref a1)] [(.int (1 : Int32)), (.int (1 : Int32))] := k24
  have k25 : Go p e below m W T24 19 #[.val (.ref a1)] [(.int (0 : Int32))] := (k24.icmpYes X24 hx (hb hby d_rmhn00_11) (XT.ii_eq_t (by decide)) (by decide) (by decide)).iconst X24 hx (hb hby d_rmhn00_18) (v := (0 : Int32)) rfl
  exact k25.ireturnN X24 hx (t := .boolean) Bd.returns (by simp) rfl (hb hby d_rmhn00_19) (BodyLoose.notSynchronized Bd) (by rw [e24]; exact ⟨rfl, N0, rfl⟩) (by decide) (by decide)

theorem d_rmem0_11 : decode jdk_38_method_9_code 11 = .ok (.iconst 0, 1) := by decide +kernel
theorem ef_rmem1 (m : MethodId) (a1 : Addr) : entryFrame m #[(.ref a1)] 1 = mkF m 0 #[.val (.ref a1)] [] := by first | (simp [entryFrame, mkF, argsToLocals, Value.category]; done) | rfl
def Q_rmem1 (Z : State) (a1 : Addr) (h0 : Heap) (n0 : Nat) (v : Option Value) (h : Heap) (L : List Loc) : Prop := v = some (.int (0 : Int32)) ∧ Fr n0 L ∧ h = h0
set_option maxRecDepth 65536 in
set_option maxHeartbeats 40000000 in
theorem rmem1 (l : Launch) (Z : State) (a0 : Array Value) (hw : ∀ d ∈ tables_1, d.before a0 Z = true) (ws : List Jvm.Cond) (a1 : Addr) (h0 : Heap) (n0 : Nat) (Z0 : n0 ≤ h0.size) (F2 : Fld Z h0 a1 "java/util/ArrayList" "size" "I" (.int (1 : Int32))) :
    MetFree l (⟨"java/util/ArrayList", "isEmpty", "()Z"⟩ : MethodName) (head1 (Jvm.Cond.code (⟨"java/util/ArrayList", "isEmpty", "()Z"⟩ : MethodName) jdk_38_method_9_code 1 (some .boolean) :: ws) ({ frames := 0, cells := 0, slots := 0, locals := 0 } : Room)) (fun a U => a = #[(.ref a1)] ∧ Z.Warmed39 U.vm ∧ U.heap = h0) (fun _ _ _ _ _ => True) (fun _ U o U' => ∃ v L, o = .returned v ∧ Q_rmem1 Z a1 h0 n0 v U'.heap L ∧ FrameEnd U o U' L ({ frames := 0, cells := 0, slots := 0, locals := 0 } : Room).cells ({ frames := 0, cells := 0, slots := 0, locals := 0 } : Room).slots) := by
  refine MetFree.of_bodySF (plainFor_of_name pn_rmar) hisR ?_
  intro p e s m args_ below meth c s₁ Bd hml0 hP hK
  obtain ⟨hargs, hZ, hh⟩ := hP
  have hx := Bd.exec
  have hby := Bd.bytes
  have hml : c.maxLocals = 1 := hml0
  have hown : s.vm.findClass "java/util/ArrayList" = some m.cls := findClass_of_methodNamed Bd.named
  have hnm := (name_of_methodNamed Bd.named Bd.method).1
  have X0 : Stand p l e ({ frames := 0, cells := 0, slots := 0, locals := 0 } : Room) s m args_ below meth c s₁ [] 0 0 := Stand.of_body Bd
  have e0 : s₁.heap = h0 := by rw [← hh, Bd.state]; rfl
  have N0 := Fr.nil n0
  have hv : ∀ (i : Nat) {d : Jvm.Cond}, tables_1[i]? = some d → d.before a0 Z = true := fun i d q => hw d (List.mem_of_getElem? q)
  have k0 : Go p e below m (s₁.setTop (entryFrame m args_ 1)) s₁ 0 #[.val (.ref a1)] [] := by rw [hargs]; exact fun t_ kt_ => castTop (ef_rmem1 m a1) kt_
  obtain ⟨W, hWW⟩ : ∃ W, W = s₁.setTop (entryFrame m args_ 1) := ⟨_, rfl⟩
  rw [← hWW] at k0 ⊢
  show Done p e below s W (Q_rmem1 Z a1 h0 n0) ({ frames := 0, cells := 0, slots := 0, locals := 0 } : Room).cells ({ frames := 0, cells := 0, slots := 0, locals := 0 } : Room).slots
  have k20 : Go p e below m W s₁ 1 #[.val (.ref a1)] [(.ref a1)] := k0.aloadN X0 hx (hb hby d_rmem0_0) rfl rfl
  obtain ⟨T21, X21, e21, k21⟩ := k20.getF X0 hx hZ hown (host := "") (Or.inl (hv 87 rfl)) Via.refl e0 F2 (hb hby d_rmem0_1)
  have k21 : Go p e below m W T21 4 #[.val (.ref a1)] [(.int (1 : Int32))] := k21
  have k22 : Go p e below m W T21 12 #[.val (.ref a1)] [(.int (0 : Int32))] := (k21.ifYes X21 hx (hb hby d_rmem0_4) (XT.i0_ne_t (by decide)) (by decide) (by decide)).iconst X21 hx (hb hby d_rmem0_11) (v := (0 : Int32)) rfl
  exact k22.ireturnN X21 hx (t := .boolean) Bd.returns (by simp) rfl (hb hby d_rmem0_12) (BodyLoose.notSynchronized Bd) (by rw [e21]; exact ⟨rfl, N0, rfl⟩) (by decide) (by decide)

theorem ef_rmhn02 (m : MethodId) (a1 : Addr) : entryFrame m #[(.ref a1)] 1 = mkF m 0 #[.val (.ref a1)] [] := by first | (simp [entryFrame, mkF, argsToLocals, Value.category]; done) | rfl
def Q_rmhn02 (Z : State) (a1 : Addr) (l1 : Addr) (h0 : Heap) (n0 : Nat) (v : Option Value) (h : Heap) (L : List Loc) : Prop := v = some (.int (1 : Int32)) ∧ Fr n0 L ∧ h = h0
set_option maxRecDepth 65536 in
set_option maxHeartbeats 40000000 in
theorem rmhn02 (l : Launch) (Z : State) (a0 : Array Value) (hw : ∀ d ∈ tables_1, d.before a0 Z = true) (ws : List Jvm.Cond) (a1 : Addr) (l1 : Addr) (h0 : Heap) (n0 : Nat) (Z0 : n0 ≤ h0.size) (F0 : Fld Z h0 a1 "java/util/ArrayList$Itr" "this$0" "Ljava/util/ArrayList;" (.ref l1)) (F1 : Fld Z h0 a1 "java/util/ArrayList$Itr" "cursor" "I" (.int (0 : Int32))) (F2 : Fld Z h0 l1 "java/util/ArrayList" "size" "I" (.int (2 : Int32))) :
    MetFree l (⟨"java/util/ArrayList$Itr", "hasNext", "()Z"⟩ : MethodName) (head1 (Jvm.Cond.code (⟨"java/util/ArrayList$Itr", "hasNext", "()Z"⟩ : MethodName) jdk_49_method_2_code 1 (some .boolean) :: ws) ({ frames := 0, cells := 0, slots := 0, locals := 0 } : Room)) (fun a U => a = #[(.ref a1)] ∧ Z.Warmed39 U.vm ∧ U.heap = h0) (fun _ _ _ _ _ => True) (fun _ U o U' => ∃ v L, o = .returned v ∧ Q_rmhn02 Z a1 l1 h0 n0 v U'.heap L ∧ FrameEnd U o U' L ({ frames := 0, cells := 0, slots := 0, locals := 0 } : Room).cells ({ frames := 0, cells := 0, slots := 0, locals := 0 } : Room).slots) := by
  refine MetFree.of_bodySF (plainFor_of_name pn_rmii) hisR ?_
  intro p e s m args_ below meth c s₁ Bd hml0 hP hK
  obtain ⟨hargs, hZ, hh⟩ := hP
  have hx := Bd.exec
  have hby := Bd.bytes
  have hml : c.maxLocals = 1 := hml0
  have hown : s.vm.findClass "java/util/ArrayList$Itr" = some m.cls := findClass_of_methodNamed Bd.named
  have hnm := (name_of_methodNamed Bd.named Bd.method).1
  have X0 : Stand p l e ({ frames := 0, cells := 0, slots := 0, locals := 0 } : Room) s m args_ below meth c s₁ [] 0 0 := Stand.of_body Bd
  have e0 : s₁.heap = h0 := by rw [← hh, Bd.state]; rfl
  have N0 := Fr.nil n0
  have hv : ∀ (i : Nat) {d : Jvm.Cond}, tables_1[i]? = some d → d.before a0 Z = true := fun i d q => hw d (List.mem_of_getElem? q)
  have k0 : Go p e below m (s₁.setTop (entryFrame m args_ 1)) s₁ 0 #[.val (.ref a1)] [] := by rw [hargs]; exact fun t_ kt_ => castTop (ef_rmhn02 m a1) kt_
  obtain ⟨W, hWW⟩ : ∃ W, W = s₁.setTop (entryFrame m args_ 1) := ⟨_, rfl⟩
  rw [← hWW] at k0 ⊢
  show Done p e below s W (Q_rmhn02 Z a1 l1 h0 n0) ({ frames := 0, cells := 0, slots := 0, locals := 0 } : Room).cells ({ frames := 0, cells := 0, slots := 0, locals := 0 } : Room).slots
  have k20 : Go p e below m W s₁ 1 #[.val (.ref a1)] [(.ref a1)] := k0.aloadN X0 hx (hb hby d_rmhn00_0) rfl rfl
  obtain ⟨T21, X21, e21, k21⟩ := k20.getF X0 hx hZ hown (host := "") (Or.inl (hv 75 rfl)) Via.refl e0 F1 (hb hby d_rmhn00_1)
  have k21 : Go p e below m W T21 4 #[.val (.ref a1)] [(.int (0 : Int32))] := k21
  have k22 : Go p e below m W T21 5 #[.val (.ref a1)] [(.ref a1), (.int (0 : Int32))] := k21.aloadN X21 hx (hb hby d_rmhn00_4) rfl rfl
  obtain ⟨T23, X23, e23, k23⟩ := k22.getF X21 hx hZ hown (host := "") (Or.inl (hv 57 rfl)) Via.refl e21 F0 (hb hby d_rmhn00_5)
  have k23 : Go p e below m W T23 8 #[.val (.ref a1)] [(.ref l1), (.int (0 : Int32))] := k23
  obtain ⟨T24, X24, e24, k24⟩ := k23.getF X23 hx hZ hown (host := "java/util/ArrayList") (Or.inr (hv 77 rfl)) Via.refl e23 F2 (hb hby d_rmhn00_8)
  have k24 : Go p e below m W T24 11 #[.val (.ref a1)] [(.int (2 : Int32)), (.int (0 : Int32))] := k24
  have k25 : Go p e below m W T24 19 #[.val (.ref a1)] [(.int (1 : Int32))] := ((k24.icmpNo X24 hx (hb hby d_rmhn00_11) (XT.ii_eq_f (by decide))).iconst X24 hx (hb hby d_rmhn00_14) (v := (1 : Int32)) rfl).goto X24 hx (hb hby d_rmhn00_15) (by decide) (by decide)
  exact k25.ireturnN X24 hx (t := .boolean) Bd.returns (by simp) rfl (hb hby d_rmhn00_19) (BodyLoose.notSynchronized Bd) (by rw [e24]; exact ⟨rfl, N0, rfl⟩) (by decide) (by decide)

theorem ef_rmhn12 (m : MethodId) (a1 : Addr) : entryFrame m #[(.ref a1)] 1 = mkF m 0 #[.val (.ref a1)] [] := by first | (simp [entryFrame, mkF, argsToLocals, Value.category]; done) | rfl
def Q_rmhn12 (Z : State) (a1 : Addr) (l1 : Addr) (h0 : Heap) (n0 : Nat) (v : Option Value) (h : Heap) (L : List Loc) : Prop := v = some (.int (1 : Int32)) ∧ Fr n0 L ∧ h = h0
set_option maxRecDepth 65536 in
set_option maxHeartbeats 40000000 in
theorem rmhn12 (l : Launch) (Z : State) (a0 : Array Value) (hw : ∀ d ∈ tables_1, d.before a0 Z = true) (ws : List Jvm.Cond) (a1 : Addr) (l1 : Addr) (h0 : Heap) (n0 : Nat) (Z0 : n0 ≤ h0.size) (F0 : Fld Z h0 a1 "java/util/ArrayList$Itr" "this$0" "Ljava/util/ArrayList;" (.ref l1)) (F1 : Fld Z h0 a1 "java/util/ArrayList$Itr" "cursor" "I" (.int (1 : Int32))) (F2 : Fld Z h0 l1 "java/util/ArrayList" "size" "I" (.int (2 : Int32))) :
    MetFree l (⟨"java/util/ArrayList$Itr", "hasNext", "()Z"⟩ : MethodName) (head1 (Jvm.Cond.code (⟨"java/util/ArrayList$Itr", "hasNext", "()Z"⟩ : MethodName) jdk_49_method_2_code 1 (some .boolean) :: ws) ({ frames := 0, cells := 0, slots := 0, locals := 0 } : Room)) (fun a U => a = #[(.ref a1)] ∧ Z.Warmed39 U.vm ∧ U.heap = h0) (fun _ _ _ _ _ => True) (fun _ U o U' => ∃ v L, o = .returned v ∧ Q_rmhn12 Z a1 l1 h0 n0 v U'.heap L ∧ FrameEnd U o U' L ({ frames := 0, cells := 0, slots := 0, locals := 0 } : Room).cells ({ frames := 0, cells := 0, slots := 0, locals := 0 } : Room).slots) := by
  refine MetFree.of_bodySF (plainFor_of_name pn_rmii) hisR ?_
  intro p e s m args_ below meth c s₁ Bd hml0 hP hK
  obtain ⟨hargs, hZ, hh⟩ := hP
  have hx := Bd.exec
  have hby := Bd.bytes
  have hml : c.maxLocals = 1 := hml0
  have hown : s.vm.findClass "java/util/ArrayList$Itr" = some m.cls := findClass_of_methodNamed Bd.named
  have hnm := (name_of_methodNamed Bd.named Bd.method).1
  have X0 : Stand p l e ({ frames := 0, cells := 0, slots := 0, locals := 0 } : Room) s m args_ below meth c s₁ [] 0 0 := Stand.of_body Bd
  have e0 : s₁.heap = h0 := by rw [← hh, Bd.state]; rfl
  have N0 := Fr.nil n0
  have hv : ∀ (i : Nat) {d : Jvm.Cond}, tables_1[i]? = some d → d.before a0 Z = true := fun i d q => hw d (List.mem_of_getElem? q)
  have k0 : Go p e below m (s₁.setTop (entryFrame m args_ 1)) s₁ 0 #[.val (.ref a1)] [] := by rw [hargs]; exact fun t_ kt_ => castTop (ef_rmhn12 m a1) kt_
  obtain ⟨W, hWW⟩ : ∃ W, W = s₁.setTop (entryFrame m args_ 1) := ⟨_, rfl⟩
  rw [← hWW] at k0 ⊢
  show Done p e below s W (Q_rmhn12 Z a1 l1 h0 n0) ({ frames := 0, cells := 0, slots := 0, locals := 0 } : Room).cells ({ frames := 0, cells := 0, slots := 0, locals := 0 } : Room).slots
  have k20 : Go p e below m W s₁ 1 #[.val (.ref a1)] [(.ref a1)] := k0.aloadN X0 hx (hb hby d_rmhn00_0) rfl rfl
  obtain ⟨T21, X21, e21, k21⟩ := k20.getF X0 hx hZ hown (host := "") (Or.inl (hv 75 rfl)) Via.refl e0 F1 (hb hby d_rmhn00_1)
  have k21 : Go p e below m W T21 4 #[.val (.ref a1)] [(.int (1 : Int32))] := k21
  have k22 : Go p e below m W T21 5 #[.val (.ref a1)] [(.ref a1), (.int (1 : Int32))] := k21.aloadN X21 hx (hb hby d_rmhn00_4) rfl rfl
  obtain ⟨T23, X23, e23, k23⟩ := k22.getF X21 hx hZ hown (host := "") (Or.inl (hv 57 rfl)) Via.refl e21 F0 (hb hby d_rmhn00_5)
  have k23 : Go p e below m W T23 8 #[.val (.ref a1)] [(.ref l1), (.int (1 : Int32))] := k23
  obtain ⟨T24, X24, e24, k24⟩ := k23.getF X23 hx hZ hown (host := "java/util/ArrayList") (Or.inr (hv 77 rfl)) Via.refl e23 F2 (hb hby d_rmhn00_8)
  have k24 : Go p e below m W T24 11 #[.val (.ref a1)] [(.int (2 : Int32)), (.int (1 : Int32))] := k24
  have k25 : Go p e below m W T24 19 #[.val (.ref a1)] [(.int (1 : Int32))] := ((k24.icmpNo X24 hx (hb hby d_rmhn00_11) (XT.ii_eq_f (by decide))).iconst X24 hx (hb hby d_rmhn00_14) (v := (1 : Int32)) rfl).goto X24 hx (hb hby d_rmhn00_15) (by decide) (by decide)
  exact k25.ireturnN X24 hx (t := .boolean) Bd.returns (by simp) rfl (hb hby d_rmhn00_19) (BodyLoose.notSynchronized Bd) (by rw [e24]; exact ⟨rfl, N0, rfl⟩) (by decide) (by decide)

theorem ef_rmhn22 (m : MethodId) (a1 : Addr) : entryFrame m #[(.ref a1)] 1 = mkF m 0 #[.val (.ref a1)] [] := by first | (simp [entryFrame, mkF, argsToLocals, Value.category]; done) | rfl
def Q_rmhn22 (Z : State) (a1 : Addr) (l1 : Addr) (h0 : Heap) (n0 : Nat) (v : Option Value) (h : Heap) (L : List Loc) : Prop := v = some (.int (0 : Int32)) ∧ Fr n0 L ∧ h = h0
set_option maxRecDepth 65536 in
set_option maxHeartbeats 40000000 in
theorem rmhn22 (l : Launch) (Z : State) (a0 : Array Value) (hw : ∀ d ∈ tables_1, d.before a0 Z = true) (ws : List Jvm.Cond) (a1 : Addr) (l1 : Addr) (h0 : Heap) (n0 : Nat) (Z0 : n0 ≤ h0.size) (F0 : Fld Z h0 a1 "java/util/ArrayList$Itr" "this$0" "Ljava/util/ArrayList;" (.ref l1)) (F1 : Fld Z h0 a1 "java/util/ArrayList$Itr" "cursor" "I" (.int (2 : Int32))) (F2 : Fld Z h0 l1 "java/util/ArrayList" "size" "I" (.int (2 : Int32))) :
    MetFree l (⟨"java/util/ArrayList$Itr", "hasNext", "()Z"⟩ : MethodName) (head1 (Jvm.Cond.code (⟨"java/util/ArrayList$Itr", "hasNext", "()Z"⟩ : MethodName) jdk_49_method_2_code 1 (some .boolean) :: ws) ({ frames := 0, cells := 0, slots := 0, locals := 0 } : Room)) (fun a U => a = #[(.ref a1)] ∧ Z.Warmed39 U.vm ∧ U.heap = h0) (fun _ _ _ _ _ => True) (fun _ U o U' => ∃ v L, o = .returned v ∧ Q_rmhn22 Z a1 l1 h0 n0 v U'.heap L ∧ FrameEnd U o U' L ({ frames := 0, cells := 0, slots := 0, locals := 0 } : Room).cells ({ frames := 0, cells := 0, slots := 0, locals := 0 } : Room).slots) := by
  refine MetFree.of_bodySF (plainFor_of_name pn_rmii) hisR ?_
  intro p e s m args_ below meth c s₁ Bd hml0 hP hK
  obtain ⟨hargs, hZ, hh⟩ := hP
  have hx := Bd.exec
  have hby := Bd.bytes
  have hml : c.maxLocals = 1 := hml0
  have hown : s.vm.findClass "java/util/ArrayList$Itr" = some m.cls := findClass_of_methodNamed Bd.named
  have hnm := (name_of_methodNamed Bd.named Bd.method).1
  have X0 : Stand p l e ({ frames := 0, cells := 0, slots := 0, locals := 0 } : Room) s m args_ below meth c s₁ [] 0 0 := Stand.of_body Bd
  have e0 : s₁.heap = h0 := by rw [← hh, Bd.state]; rfl
  have N0 := Fr.nil n0
  have hv : ∀ (i : Nat) {d : Jvm.Cond}, tables_1[i]? = some d → d.before a0 Z = true := fun i d q => hw d (List.mem_of_getElem? q)
  have k0 : Go p e below m (s₁.setTop (entryFrame m args_ 1)) s₁ 0 #[.val (.ref a1)] [] := by rw [hargs]; exact fun t_ kt_ => castTop (ef_rmhn22 m a1) kt_
  obtain ⟨W, hWW⟩ : ∃ W, W = s₁.setTop (entryFrame m args_ 1) := ⟨_, rfl⟩
  rw [← hWW] at k0 ⊢
  show Done p e below s W (Q_rmhn22 Z a1 l1 h0 n0) ({ frames := 0, cells := 0, slots := 0, locals := 0 } : Room).cells ({ frames := 0, cells := 0, slots := 0, locals := 0 } : Room).slots
  have k20 : Go p e below m W s₁ 1 #[.val (.ref a1)] [(.ref a1)] := k0.aloadN X0 hx (hb hby d_rmhn00_0) rfl rfl
  obtain ⟨T21, X21, e21, k21⟩ := k20.getF X0 hx hZ hown (host := "") (Or.inl (hv 75 rfl)) Via.refl e0 F1 (hb hby d_rmhn00_1)
  have k21 : Go p e below m W T21 4 #[.val (.ref a1)] [(.int (2 : Int32))] := k21
  have k22 : Go p e below m W T21 5 #[.val (.ref a1)] [(.ref a1), (.int (2 : Int32))] := k21.aloadN X21 hx (hb hby d_rmhn00_4) rfl rfl
  obtain ⟨T23, X23, e23, k23⟩ := k22.getF X21 hx hZ hown (host := "") (Or.inl (hv 57 rfl)) Via.refl e21 F0 (hb hby d_rmhn00_5)
  have k23 : Go p e below m W T23 8 #[.val (.ref a1)] [(.ref l1), (.int (2 : Int32))] := k23
  obtain ⟨T24, X24, e24, k24⟩ := k23.getF X23 hx hZ hown (host := "java/util/ArrayList") (Or.inr (hv 77 rfl)) Via.refl e23 F2 (hb hby d_rmhn00_8)
  have k24 : Go p e below m W T24 11 #[.val (.ref a1)] [(.int (2 : Int32)), (.int (2 : Int32))] := k24
  have k25 : Go p e below m W T24 19 #[.val (.ref a1)] [(.int (0 : Int32))] := (k24.icmpYes X24 hx (hb hby d_rmhn00_11) (XT.ii_eq_t (by decide)) (by decide) (by decide)).iconst X24 hx (hb hby d_rmhn00_18) (v := (0 : Int32)) rfl
  exact k25.ireturnN X24 hx (t := .boolean) Bd.returns (by simp) rfl (hb hby d_rmhn00_19) (BodyLoose.notSynchronized Bd) (by rw [e24]; exact ⟨rfl, N0, rfl⟩) (by decide) (by decide)

theorem ef_rmem2 (m : MethodId) (a1 : Addr) : entryFrame m #[(.ref a1)] 1 = mkF m 0 #[.val (.ref a1)] [] := by first | (simp [entryFrame, mkF, argsToLocals, Value.category]; done) | rfl
def Q_rmem2 (Z : State) (a1 : Addr) (h0 : Heap) (n0 : Nat) (v : Option Value) (h : Heap) (L : List Loc) : Prop := v = some (.int (0 : Int32)) ∧ Fr n0 L ∧ h = h0
set_option maxRecDepth 65536 in
set_option maxHeartbeats 40000000 in
theorem rmem2 (l : Launch) (Z : State) (a0 : Array Value) (hw : ∀ d ∈ tables_1, d.before a0 Z = true) (ws : List Jvm.Cond) (a1 : Addr) (h0 : Heap) (n0 : Nat) (Z0 : n0 ≤ h0.size) (F2 : Fld Z h0 a1 "java/util/ArrayList" "size" "I" (.int (2 : Int32))) :
    MetFree l (⟨"java/util/ArrayList", "isEmpty", "()Z"⟩ : MethodName) (head1 (Jvm.Cond.code (⟨"java/util/ArrayList", "isEmpty", "()Z"⟩ : MethodName) jdk_38_method_9_code 1 (some .boolean) :: ws) ({ frames := 0, cells := 0, slots := 0, locals := 0 } : Room)) (fun a U => a = #[(.ref a1)] ∧ Z.Warmed39 U.vm ∧ U.heap = h0) (fun _ _ _ _ _ => True) (fun _ U o U' => ∃ v L, o = .returned v ∧ Q_rmem2 Z a1 h0 n0 v U'.heap L ∧ FrameEnd U o U' L ({ frames := 0, cells := 0, slots := 0, locals := 0 } : Room).cells ({ frames := 0, cells := 0, slots := 0, locals := 0 } : Room).slots) := by
  refine MetFree.of_bodySF (plainFor_of_name pn_rmar) hisR ?_
  intro p e s m args_ below meth c s₁ Bd hml0 hP hK
  obtain ⟨hargs, hZ, hh⟩ := hP
  have hx := Bd.exec
  have hby := Bd.bytes
  have hml : c.maxLocals = 1 := hml0
  have hown : s.vm.findClass "java/util/ArrayList" = some m.cls := findClass_of_methodNamed Bd.named
  have hnm := (name_of_methodNamed Bd.named Bd.method).1
  have X0 : Stand p l e ({ frames := 0, cells := 0, slots := 0, locals := 0 } : Room) s m args_ below meth c s₁ [] 0 0 := Stand.of_body Bd
  have e0 : s₁.heap = h0 := by rw [← hh, Bd.state]; rfl
  have N0 := Fr.nil n0
  have hv : ∀ (i : Nat) {d : Jvm.Cond}, tables_1[i]? = some d → d.before a0 Z = true := fun i d q => hw d (List.mem_of_getElem? q)
  have k0 : Go p e below m (s₁.setTop (entryFrame m args_ 1)) s₁ 0 #[.val (.ref a1)] [] := by rw [hargs]; exact fun t_ kt_ => castTop (ef_rmem2 m a1) kt_
  obtain ⟨W, hWW⟩ : ∃ W, W = s₁.setTop (entryFrame m args_ 1) := ⟨_, rfl⟩
  rw [← hWW] at k0 ⊢
  show Done p e below s W (Q_rmem2 Z a1 h0 n0) ({ frames := 0, cells := 0, slots := 0, locals := 0 } : Room).cells ({ frames := 0, cells := 0, slots := 0, locals := 0 } : Room).slots
  have k20 : Go p e below m W s₁ 1 #[.val (.ref a1)] [(.ref a1)] := k0.aloadN X0 hx (hb hby d_rmem0_0) rfl rfl
  obtain ⟨T21, X21, e21, k21⟩ := k20.getF X0 hx hZ hown (host := "") (Or.inl (hv 87 rfl)) Via.refl e0 F2 (hb hby d_rmem0_1)
  have k21 : Go p e below m W T21 4 #[.val (.ref a1)] [(.int (2 : Int32))] := k21
  have k22 : Go p e below m W T21 12 #[.val (.ref a1)] [(.int (0 : Int32))] := (k21.ifYes X21 hx (hb hby d_rmem0_4) (XT.i0_ne_t (by decide)) (by decide) (by decide)).iconst X21 hx (hb hby d_rmem0_11) (v := (0 : Int32)) rfl
  exact k22.ireturnN X21 hx (t := .boolean) Bd.returns (by simp) rfl (hb hby d_rmem0_12) (BodyLoose.notSynchronized Bd) (by rw [e21]; exact ⟨rfl, N0, rfl⟩) (by decide) (by decide)

theorem d_rmcm_0 : decode jdk_49_method_6_code 0 = .ok (.aload_n 0, 1) := by decide +kernel
theorem d_rmcm_1 : decode jdk_49_method_6_code 1 = .ok (.getfield 1, 3) := by decide +kernel
theorem d_rmcm_4 : decode jdk_49_method_6_code 4 = .ok (.getfield 17, 3) := by decide +kernel
theorem d_rmcm_7 : decode jdk_49_method_6_code 7 = .ok (.aload_n 0, 1) := by decide +kernel
theorem d_rmcm_8 : decode jdk_49_method_6_code 8 = .ok (.getfield 22, 3) := by decide +kernel
theorem d_rmcm_11 : decode jdk_49_method_6_code 11 = .ok (.if_icmp .eq 11, 3) := by decide +kernel
theorem d_rmcm_22 : decode jdk_49_method_6_code 22 = .ok (.return_, 1) := by decide +kernel
theorem ef_rmcm (m : MethodId) (a1 : Addr) : entryFrame m #[(.ref a1)] 1 = mkF m 0 #[.val (.ref a1)] [] := by first | (simp [entryFrame, mkF, argsToLocals, Value.category]; done) | rfl
def Q_rmcm (Z : State) (a1 : Addr) (l1 : Addr) (w : Int32) (h0 : Heap) (n0 : Nat) (v : Option Value) (h : Heap) (L : List Loc) : Prop := v = none ∧ Fr n0 L ∧ h = h0
set_option maxRecDepth 65536 in
set_option maxHeartbeats 40000000 in
theorem rmcm (l : Launch) (Z : State) (a0 : Array Value) (hw : ∀ d ∈ tables_1, d.before a0 Z = true) (ws : List Jvm.Cond) (a1 : Addr) (l1 : Addr) (w : Int32) (h0 : Heap) (n0 : Nat) (Z0 : n0 ≤ h0.size) (F0 : Fld Z h0 a1 "java/util/ArrayList$Itr" "this$0" "Ljava/util/ArrayList;" (.ref l1)) (F1 : Fld Z h0 l1 "java/util/AbstractList" "modCount" "I" (.int w)) (F2 : Fld Z h0 a1 "java/util/ArrayList$Itr" "expectedModCount" "I" (.int w)) :
    MetFree l (⟨"java/util/ArrayList$Itr", "checkForComodification", "()V"⟩ : MethodName) (head1 (Jvm.Cond.code (⟨"java/util/ArrayList$Itr", "checkForComodification", "()V"⟩ : MethodName) jdk_49_method_6_code 1 none :: ws) ({ frames := 0, cells := 0, slots := 0, locals := 0 } : Room)) (fun a U => a = #[(.ref a1)] ∧ Z.Warmed39 U.vm ∧ U.heap = h0) (fun _ _ _ _ _ => True) (fun _ U o U' => ∃ v L, o = .returned v ∧ Q_rmcm Z a1 l1 w h0 n0 v U'.heap L ∧ FrameEnd U o U' L ({ frames := 0, cells := 0, slots := 0, locals := 0 } : Room).cells ({ frames := 0, cells := 0, slots := 0, locals := 0 } : Room).slots) := by
  refine MetFree.of_bodySF (plainFor_of_name pn_rmii) hisR ?_
  intro p e s m args_ below meth c s₁ Bd hml0 hP hK
  obtain ⟨hargs, hZ, hh⟩ := hP
  have hx := Bd.exec
  have hby := Bd.bytes
  have hml : c.maxLocals = 1 := hml0
  have hown : s.vm.findClass "java/util/ArrayList$Itr" = some m.cls := findClass_of_methodNamed Bd.named
  have hnm := (name_of_methodNamed Bd.named Bd.method).1
  have X0 : Stand p l e ({ frames := 0, cells := 0, slots := 0, locals := 0 } : Room) s m args_ below meth c s₁ [] 0 0 := Stand.of_body Bd
  have e0 : s₁.heap = h0 := by rw [← hh, Bd.state]; rfl
  have N0 := Fr.nil n0
  have hv : ∀ (i : Nat) {d : Jvm.Cond}, tables_1[i]? = some d → d.before a0 Z = true := fun i d q => hw d (List.mem_of_getElem? q)
  have k0 : Go p e below m (s₁.setTop (entryFrame m args_ 1)) s₁ 0 #[.val (.ref a1)] [] := by rw [hargs]; exact fun t_ kt_ => castTop (ef_rmcm m a1) kt_
  obtain ⟨W, hWW⟩ : ∃ W, W = s₁.setTop (entryFrame m args_ 1) := ⟨_, rfl⟩
  rw [← hWW] at k0 ⊢
  show Done p e below s W (Q_rmcm Z a1 l1 w h0 n0) ({ frames := 0, cells := 0, slots := 0, locals := 0 } : Room).cells ({ frames := 0, cells := 0, slots := 0, locals := 0 } : Room).slots
  have k20 : Go p e below m W s₁ 1 #[.val (.ref a1)] [(.ref a1)] := k0.aloadN X0 hx (hb hby d_rmcm_0) rfl rfl
  obtain ⟨T21, X21, e21, k21⟩ := k20.getF X0 hx hZ hown (host := "") (Or.inl (hv 57 rfl)) Via.refl e0 F0 (hb hby d_rmcm_1)
  have k21 : Go p e below m W T21 4 #[.val (.ref a1)] [(.ref l1)] := k21
  obtain ⟨T22, X22, e22, k22⟩ := k21.getF X21 hx hZ hown (host := "") (Or.inl (hv 62 rfl)) (Via.of (hv 63 rfl)) e21 F1 (hb hby d_rmcm_4)
  have k22 : Go p e below m W T22 7 #[.val (.ref a1)] [(.int w)] := k22
  have k23 : Go p e below m W T22 8 #[.val (.ref a1)] [(.ref a1), (.int w)] := k22.aloadN X22 hx (hb hby d_rmcm_7) rfl rfl
  obtain ⟨T24, X24, e24, k24⟩ := k23.getF X22 hx hZ hown (host := "") (Or.inl (hv 64 rfl)) Via.refl e22 F2 (hb hby d_rmcm_8)
  have k24 : Go p e below m W T24 11 #[.val (.ref a1)] [(.int w), (.int w)] := k24
  have k25 : Go p e below m W T24 22 #[.val (.ref a1)] [] := k24.icmpYes X24 hx (hb hby d_rmcm_11) (XT.ii_eq_t rfl) (by decide) (by decide)
  exact k25.return_ X24 hx Bd.returns (hb hby d_rmcm_22) (BodyLoose.notSynchronized Bd) (by rw [e24]; exact ⟨rfl, N0, rfl⟩) (by decide) (by decide)

theorem d_rmnx01_0 : decode jdk_49_method_3_code 0 = .ok (.aload_n 0, 1) := by decide +kernel
theorem d_rmnx01_1 : decode jdk_49_method_3_code 1 = .ok (.invokevirtual 31, 3) := by decide +kernel
theorem d_rmnx01_4 : decode jdk_49_method_3_code 4 = .ok (.aload_n 0, 1) := by decide +kernel
theorem d_rmnx01_5 : decode jdk_49_method_3_code 5 = .ok (.getfield 25, 3) := by decide +kernel
theorem d_rmnx01_8 : decode jdk_49_method_3_code 8 = .ok (.istore_n 1, 1) := by decide +kernel
theorem d_rmnx01_9 : decode jdk_49_method_3_code 9 = .ok (.iload_n 1, 1) := by decide +kernel
theorem d_rmnx01_10 : decode jdk_49_method_3_code 10 = .ok (.aload_n 0, 1) := by decide +kernel
theorem d_rmnx01_11 : decode jdk_49_method_3_code 11 = .ok (.getfield 1, 3) := by decide +kernel
theorem d_rmnx01_14 : decode jdk_49_method_3_code 14 = .ok (.getfield 28, 3) := by decide +kernel
theorem d_rmnx01_17 : decode jdk_49_method_3_code 17 = .ok (.if_icmp .lt 11, 3) := by decide +kernel
theorem d_rmnx01_28 : decode jdk_49_method_3_code 28 = .ok (.aload_n 0, 1) := by decide +kernel
theorem d_rmnx01_29 : decode jdk_49_method_3_code 29 = .ok (.getfield 1, 3) := by decide +kernel
theorem d_rmnx01_32 : decode jdk_49_method_3_code 32 = .ok (.getfield 37, 3) := by decide +kernel
theorem d_rmnx01_35 : decode jdk_49_method_3_code 35 = .ok (.astore_n 2, 1) := by decide +kernel
theorem d_rmnx01_36 : decode jdk_49_method_3_code 36 = .ok (.iload_n 1, 1) := by decide +kernel
theorem d_rmnx01_37 : decode jdk_49_method_3_code 37 = .ok (.aload_n 2, 1) := by decide +kernel
theorem d_rmnx01_38 : decode jdk_49_method_3_code 38 = .ok (.arraylength, 1) := by decide +kernel
theorem d_rmnx01_39 : decode jdk_49_method_3_code 39 = .ok (.if_icmp .lt 11, 3) := by decide +kernel
theorem d_rmnx01_50 : decode jdk_49_method_3_code 50 = .ok (.aload_n 0, 1) := by decide +kernel
theorem d_rmnx01_51 : decode jdk_49_method_3_code 51 = .ok (.iload_n 1, 1) := by decide +kernel
theorem d_rmnx01_52 : decode jdk_49_method_3_code 52 = .ok (.iconst 1, 1) := by decide +kernel
theorem d_rmnx01_53 : decode jdk_49_method_3_code 53 = .ok (.iadd, 1) := by decide +kernel
theorem d_rmnx01_54 : decode jdk_49_method_3_code 54 = .ok (.putfield 25, 3) := by decide +kernel
theorem d_rmnx01_57 : decode jdk_49_method_3_code 57 = .ok (.aload_n 2, 1) := by decide +kernel
theorem d_rmnx01_58 : decode jdk_49_method_3_code 58 = .ok (.aload_n 0, 1) := by decide +kernel
theorem d_rmnx01_59 : decode jdk_49_method_3_code 59 = .ok (.iload_n 1, 1) := by decide +kernel
theorem d_rmnx01_60 : decode jdk_49_method_3_code 60 = .ok (.dup_x1, 1) := by decide +kernel
theorem d_rmnx01_61 : decode jdk_49_method_3_code 61 = .ok (.putfield 13, 3) := by decide +kernel
theorem d_rmnx01_64 : decode jdk_49_method_3_code 64 = .ok (.aaload, 1) := by decide +kernel
theorem d_rmnx01_65 : decode jdk_49_method_3_code 65 = .ok (.areturn, 1) := by decide +kernel
theorem ef_rmnx01 (m : MethodId) (a1 : Addr) : entryFrame m #[(.ref a1)] 3 = mkF m 0 #[.val (.ref a1), .unset, .unset] [] := by first | (simp [entryFrame, mkF, argsToLocals, Value.category]; done) | rfl
def Q_rmnx01 (Z : State) (a1 : Addr) (l1 : Addr) (d1 : Addr) (k1 : ClassId) (w : Int32) (u1 : Value) (x0 : Addr) (h0 : Heap) (n0 : Nat) (v : Option Value) (h : Heap) (L : List Loc) : Prop := v = some (.ref x0) ∧ Fr n0 L ∧ Keep h0 h [a1] ∧ Exa Z h a1 "java/util/ArrayList$Itr" ∧ Fld Z h a1 "java/util/ArrayList$Itr" "this$0" "Ljava/util/ArrayList;" (.ref l1) ∧ Fld Z h a1 "java/util/ArrayList$Itr" "lastRet" "I" (.int (0 : Int32)) ∧ Fld Z h a1 "java/util/ArrayList$Itr" "expectedModCount" "I" (.int w) ∧ Fld Z h a1 "java/util/ArrayList$Itr" "cursor" "I" (.int (1 : Int32))
set_option maxRecDepth 65536 in
set_option maxHeartbeats 40000000 in
theorem rmnx01 (l : Launch) (Z : State) (a0 : Array Value) (hw : ∀ d ∈ tables_1, d.before a0 Z = true) (ws : List Jvm.Cond) (a1 : Addr) (l1 : Addr) (d1 : Addr) (k1 : ClassId) (w : Int32) (u1 : Value) (x0 : Addr) (h0 : Heap) (n0 : Nat) (Z0 : n0 ≤ h0.size) (E1 : Exa Z h0 a1 "java/util/ArrayList$Itr") (G1 : n0 ≤ a1) (F0 : Fld Z h0 a1 "java/util/ArrayList$Itr" "this$0" "Ljava/util/ArrayList;" (.ref l1)) (F1 : Fld Z h0 a1 "java/util/ArrayList$Itr" "lastRet" "I" u1) (F2 : Fld Z h0 a1 "java/util/ArrayList$Itr" "expectedModCount" "I" (.int w)) (F3 : Fld Z h0 a1 "java/util/ArrayList$Itr" "cursor" "I" (.int (0 : Int32))) (F4 : Fld Z h0 l1 "java/util/AbstractList" "modCount" "I" (.int w)) (F5 : Fld Z h0 l1 "java/util/ArrayList" "size" "I" (.int (1 : Int32))) (F6 : Fld Z h0 l1 "java/util/ArrayList" "elementData" "[Ljava/lang/Object;" (.ref d1)) (V1 : Arv Z h0 d1 k1 (.object "java/lang/Object") (10 : Int32) [(.ref x0), .null, .null, .null, .null, .null, .null, .null, .null, .null] .null) (nla : l1 ≠ a1) (nda : d1 ≠ a1) :
    MetFree l (⟨"java/util/ArrayList$Itr", "next", "()Ljava/lang/Object;"⟩ : MethodName) (head1 (Jvm.Cond.code (⟨"java/util/ArrayList$Itr", "next", "()Ljava/lang/Object;"⟩ : MethodName) jdk_49_method_3_code 3 (some (.object "java/lang/Object")) :: ws) ({ frames := 1, cells := 0, slots := 0, locals := 12 } : Room)) (fun a U => a = #[(.ref a1)] ∧ Z.Warmed39 U.vm ∧ U.heap = h0) (fun _ _ _ _ _ => True) (fun _ U o U' => ∃ v L, o = .returned v ∧ Q_rmnx01 Z a1 l1 d1 k1 w u1 x0 h0 n0 v U'.heap L ∧ FrameEnd U o U' L ({ frames := 1, cells := 0, slots := 0, locals := 12 } : Room).cells ({ frames := 1, cells := 0, slots := 0, locals := 12 } : Room).slots) := by
  refine MetFree.of_bodySF (plainFor_of_name pn_rmii) hisR ?_
  intro p e s m args_ below meth c s₁ Bd hml0 hP hK
  obtain ⟨hargs, hZ, hh⟩ := hP
  have hx := Bd.exec
  have hby := Bd.bytes
  have hml : c.maxLocals = 3 := hml0
  have hown : s.vm.findClass "java/util/ArrayList$Itr" = some m.cls := findClass_of_methodNamed Bd.named
  have hnm := (name_of_methodNamed Bd.named Bd.method).1
  have X0 : Stand p l e ({ frames := 1, cells := 0, slots := 0, locals := 12 } : Room) s m args_ below meth c s₁ [] 0 0 := Stand.of_body Bd
  have e0 : s₁.heap = h0 := by rw [← hh, Bd.state]; rfl
  have N0 := Fr.nil n0
  have hv : ∀ (i : Nat) {d : Jvm.Cond}, tables_1[i]? = some d → d.before a0 Z = true := fun i d q => hw d (List.mem_of_getElem? q)
  have K0 : Keep h0 h0 [a1] := Keep.refl _ _
  have k0 : Go p e below m (s₁.setTop (entryFrame m args_ 3)) s₁ 0 #[.val (.ref a1), .unset, .unset] [] := by rw [hargs]; exact fun t_ kt_ => castTop (ef_rmnx01 m a1) kt_
  obtain ⟨W, hWW⟩ : ∃ W, W = s₁.setTop (entryFrame m args_ 3) := ⟨_, rfl⟩
  rw [← hWW] at k0 ⊢
  show Done p e below s W (Q_rmnx01 Z a1 l1 d1 k1 w u1 x0 h0 n0) ({ frames := 1, cells := 0, slots := 0, locals := 12 } : Room).cells ({ frames := 1, cells := 0, slots := 0, locals := 12 } : Room).slots
  have k20 : Go p e below m W s₁ 1 #[.val (.ref a1), .unset, .unset] [(.ref a1)] := k0.aloadN X0 hx (hb hby d_rmnx01_0) rfl rfl
  obtain ⟨T21, v21, L21, X21, Q21, k21⟩ := k20.virt (y := (⟨"java/util/ArrayList$Itr", "checkForComodification", "()V"⟩ : MethodName)) (z := (⟨"java/util/ArrayList$Itr", "checkForComodification", "()V"⟩ : MethodName)) (Wd := 0) (cells' := 0) (slots' := 0) (argsL := []) (rest := []) X0 hx hZ hown (by rw [hml]; rfl) (hv 152 rfl) (hv 153 rfl) (notFace_of_selects (args := #[]) (mvT hZ (hv 155 rfl))) (hv 155 rfl) (hv 154 rfl) (hv 156 rfl) (hv 52 rfl) (hb hby d_rmnx01_1) (by decide) (rmcm l Z a0 hw [] a1 l1 w h0 n0 Z0 F0 F4 F2) e0 E1 rfl rfl pd_rmal_0 rfl (Nat.le_of_eq rfl) (by decide) (by decide) rfl rfl (by decide) (by decide)
  obtain ⟨rfl, Nq21, e21q⟩ := Q21
  have N21 := Fr.app N0 Nq21
  have e21 : T21.heap = h0 := e21q
  have k21 : Go p e below m W T21 4 #[.val (.ref a1), .unset, .unset] [] := k21
  have k22 : Go p e below m W T21 5 #[.val (.ref a1), .unset, .unset] [(.ref a1)] := k21.aloadN X21 hx (hb hby d_rmnx01_4) rfl rfl
  obtain ⟨T23, X23, e23, k23⟩ := k22.getF X21 hx hZ hown (host := "") (Or.inl (hv 75 rfl)) Via.refl e21 F3 (hb hby d_rmnx01_5)
  have k23 : Go p e below m W T23 8 #[.val (.ref a1), .unset, .unset] [(.int (0 : Int32))] := k23
  have k24 : Go p e below m W T23 9 #[.val (.ref a1), .val (.int (0 : Int32)), .unset] [] := k23.istoreN X23 hx (hb hby d_rmnx01_8) rfl
  have k25 : Go p e below m W T23 11 #[.val (.ref a1), .val (.int (0 : Int32)), .unset] [(.ref a1), (.int (0 : Int32))] := (k24.iloadN X23 hx (hb hby d_rmnx01_9) rfl).aloadN X23 hx (hb hby d_rmnx01_10) rfl rfl
  obtain ⟨T26, X26, e26, k26⟩ := k25.getF X23 hx hZ hown (host := "") (Or.inl (hv 57 rfl)) Via.refl e23 F0 (hb hby d_rmnx01_11)
  have k26 : Go p e below m W T26 14 #[.val (.ref a1), .val (.int (0 : Int32)), .unset] [(.ref l1), (.int (0 : Int32))] := k26
  obtain ⟨T27, X27, e27, k27⟩ := k26.getF X26 hx hZ hown (host := "java/util/ArrayList") (Or.inr (hv 77 rfl)) Via.refl e26 F5 (hb hby d_rmnx01_14)
  have k27 : Go p e below m W T27 17 #[.val (.ref a1), .val (.int (0 : Int32)), .unset] [(.int (1 : Int32)), (.int (0 : Int32))] := k27
  have k28 : Go p e below m W T27 29 #[.val (.ref a1), .val (.int (0 : Int32)), .unset] [(.ref a1)] := (k27.icmpYes X27 hx (hb hby d_rmnx01_17) (XT.ii_lt_t (by decide)) (by decide) (by decide)).aloadN X27 hx (hb hby d_rmnx01_28) rfl rfl
  obtain ⟨T29, X29, e29, k29⟩ := k28.getF X27 hx hZ hown (host := "") (Or.inl (hv 57 rfl)) Via.refl e27 F0 (hb hby d_rmnx01_29)
  have k29 : Go p e below m W T29 32 #[.val (.ref a1), .val (.int (0 : Int32)), .unset] [(.ref l1)] := k29
  obtain ⟨T30, X30, e30, k30⟩ := k29.getF X29 hx hZ hown (host := "") (Or.inl (hv 157 rfl)) Via.refl e29 F6 (hb hby d_rmnx01_32)
  have k30 : Go p e below m W T30 35 #[.val (.ref a1), .val (.int (0 : Int32)), .unset] [(.ref d1)] := k30
  have k31 : Go p e below m W T30 36 #[.val (.ref a1), .val (.int (0 : Int32)), .val (.ref d1)] [] := k30.astoreN X30 hx (hb hby d_rmnx01_35) rfl rfl
  have k32 : Go p e below m W T30 38 #[.val (.ref a1), .val (.int (0 : Int32)), .val (.ref d1)] [(.ref d1), (.int (0 : Int32))] := (k31.iloadN X30 hx (hb hby d_rmnx01_36) rfl).aloadN X30 hx (hb hby d_rmnx01_37) rfl rfl
  have k33 : Go p e below m W T30 54 #[.val (.ref a1), .val (.int (0 : Int32)), .val (.ref d1)] [(.int (1 : Int32)), (.ref a1)] := ((((((k32.arraylength X30 hx hZ e30 V1 (hb hby d_rmnx01_38)).icmpYes X30 hx (hb hby d_rmnx01_39) (XT.ii_lt_t (by decide)) (by decide) (by decide)).aloadN X30 hx (hb hby d_rmnx01_50) rfl rfl).iloadN X30 hx (hb hby d_rmnx01_51) rfl).iconst X30 hx (hb hby d_rmnx01_52) (v := (1 : Int32)) rfl).iadd X30 hx (hb hby d_rmnx01_53)).cast (y := (1 : Int32)) (by decide)
  obtain ⟨T34, h34, l34, X34, e34, W34, N34, k34⟩ := k33.putF X30 hx hZ hown (host := "") (Or.inl (hv 75 rfl)) Via.refl e30 F3 E1 (Or.inl (hv 76 rfl)) (hv 51 rfl) (ty := .int) (by decide) rfl rfl N21 G1 (hb hby d_rmnx01_54)
  have k34 : Go p e below m W T34 57 #[.val (.ref a1), .val (.int (0 : Int32)), .val (.ref d1)] [] := k34
  have Z34 : n0 ≤ h34.size := (Wr.size W34).symm ▸ Z0
  have K34 : Keep h0 h34 [a1] := K0.wr W34 (Or.inl (List.mem_of_getElem? (i := 0) rfl))
  have k35 : Go p e below m W T34 61 #[.val (.ref a1), .val (.int (0 : Int32)), .val (.ref d1)] [(.int (0 : Int32)), (.ref a1), (.int (0 : Int32)), (.ref d1)] := (((k34.aloadN X34 hx (hb hby d_rmnx01_57) rfl rfl).aloadN X34 hx (hb hby d_rmnx01_58) rfl rfl).iloadN X34 hx (hb hby d_rmnx01_59) rfl).dupX1 X34 hx (hb hby d_rmnx01_60) rfl rfl
  have g_1 := F1.other W34 (Or.inr (slot_ne (Or.inl (hv 61 rfl)) (Or.inl (hv 76 rfl)) (by decide) (by decide : parseFieldDescriptor "I" = some .int) (by decide : parseFieldDescriptor "I" = some .int)))
  have g_2 := E1.wr W34
  obtain ⟨T36, h36, l36, X36, e36, W36, N36, k36⟩ := k35.putF X34 hx hZ hown (host := "") (Or.inl (hv 60 rfl)) Via.refl e34 g_1 g_2 (Or.inl (hv 61 rfl)) (hv 51 rfl) (ty := .int) (by decide) rfl rfl N34 G1 (hb hby d_rmnx01_61)
  have k36 : Go p e below m W T36 64 #[.val (.ref a1), .val (.int (0 : Int32)), .val (.ref d1)] [(.int (0 : Int32)), (.ref d1)] := k36
  have Z36 : n0 ≤ h36.size := (Wr.size W36).symm ▸ Z34
  have K36 : Keep h0 h36 [a1] := K34.wr W36 (Or.inl (List.mem_of_getElem? (i := 0) rfl))
  have g_3 := (V1.other W34 nda).other W36 nda
  have k37 : Go p e below m W T36 65 #[.val (.ref a1), .val (.int (0 : Int32)), .val (.ref d1)] [(.ref x0)] := k36.aaload (i := 0) (n := 10) X36 hx hZ e36 g_3 rfl rfl (by decide) (by decide) rfl rfl (hb hby d_rmnx01_64)
  have g_4 := g_2.wr W36
  have g_5 := (F0.other W34 (Or.inr (slot_ne (Or.inr (hv 58 rfl)) (Or.inl (hv 76 rfl)) (by decide) (by decide : parseFieldDescriptor "Ljava/util/ArrayList;" = some (.object "java/util/ArrayList")) (by decide : parseFieldDescriptor "I" = some .int)))).other W36 (Or.inr (slot_ne (Or.inr (hv 58 rfl)) (Or.inl (hv 61 rfl)) (by decide) (by decide : parseFieldDescriptor "Ljava/util/ArrayList;" = some (.object "java/util/ArrayList")) (by decide : parseFieldDescriptor "I" = some .int)))
  have g_6 := g_1.same W36
  have g_7 := (F2.other W34 (Or.inr (slot_ne (Or.inl (hv 65 rfl)) (Or.inl (hv 76 rfl)) (by decide) (by decide : parseFieldDescriptor "I" = some .int) (by decide : parseFieldDescriptor "I" = some .int)))).other W36 (Or.inr (slot_ne (Or.inl (hv 65 rfl)) (Or.inl (hv 61 rfl)) (by decide) (by decide : parseFieldDescriptor "I" = some .int) (by decide : parseFieldDescriptor "I" = some .int)))
  have g_8 := (F3.same W34).other W36 (Or.inr (slot_ne (Or.inl (hv 76 rfl)) (Or.inl (hv 61 rfl)) (by decide) (by decide : parseFieldDescriptor "I" = some .int) (by decide : parseFieldDescriptor "I" = some .int)))
  exact k37.areturn X36 hx Bd.returns rfl rfl (hb hby d_rmnx01_65) (BodyLoose.notSynchronized Bd) (by rw [e36]; exact ⟨rfl, N36, K36, g_4, g_5, g_6, g_7, g_8⟩) (by decide) (by decide)

theorem ef_rmnx02 (m : MethodId) (a1 : Addr) : entryFrame m #[(.ref a1)] 3 = mkF m 0 #[.val (.ref a1), .unset, .unset] [] := by first | (simp [entryFrame, mkF, argsToLocals, Value.category]; done) | rfl
def Q_rmnx02 (Z : State) (a1 : Addr) (l1 : Addr) (d1 : Addr) (k1 : ClassId) (w : Int32) (u1 : Value) (x0 : Addr) (x1 : Addr) (h0 : Heap) (n0 : Nat) (v : Option Value) (h : Heap) (L : List Loc) : Prop := v = some (.ref x0) ∧ Fr n0 L ∧ Keep h0 h [a1] ∧ Exa Z h a1 "java/util/ArrayList$Itr" ∧ Fld Z h a1 "java/util/ArrayList$Itr" "this$0" "Ljava/util/ArrayList;" (.ref l1) ∧ Fld Z h a1 "java/util/ArrayList$Itr" "lastRet" "I" (.int (0 : Int32)) ∧ Fld Z h a1 "java/util/ArrayList$Itr" "expectedModCount" "I" (.int w) ∧ Fld Z h a1 "java/util/ArrayList$Itr" "cursor" "I" (.int (1 : Int32))
set_option maxRecDepth 65536 in
set_option maxHeartbeats 40000000 in
theorem rmnx02 (l : Launch) (Z : State) (a0 : Array Value) (hw : ∀ d ∈ tables_1, d.before a0 Z = true) (ws : List Jvm.Cond) (a1 : Addr) (l1 : Addr) (d1 : Addr) (k1 : ClassId) (w : Int32) (u1 : Value) (x0 : Addr) (x1 : Addr) (h0 : Heap) (n0 : Nat) (Z0 : n0 ≤ h0.size) (E1 : Exa Z h0 a1 "java/util/ArrayList$Itr") (G1 : n0 ≤ a1) (F0 : Fld Z h0 a1 "java/util/ArrayList$Itr" "this$0" "Ljava/util/ArrayList;" (.ref l1)) (F1 : Fld Z h0 a1 "java/util/ArrayList$Itr" "lastRet" "I" u1) (F2 : Fld Z h0 a1 "java/util/ArrayList$Itr" "expectedModCount" "I" (.int w)) (F3 : Fld Z h0 a1 "java/util/ArrayList$Itr" "cursor" "I" (.int (0 : Int32))) (F4 : Fld Z h0 l1 "java/util/AbstractList" "modCount" "I" (.int w)) (F5 : Fld Z h0 l1 "java/util/ArrayList" "size" "I" (.int (2 : Int32))) (F6 : Fld Z h0 l1 "java/util/ArrayList" "elementData" "[Ljava/lang/Object;" (.ref d1)) (V1 : Arv Z h0 d1 k1 (.object "java/lang/Object") (10 : Int32) [(.ref x0), (.ref x1), .null, .null, .null, .null, .null, .null, .null, .null] .null) (nla : l1 ≠ a1) (nda : d1 ≠ a1) :
    MetFree l (⟨"java/util/ArrayList$Itr", "next", "()Ljava/lang/Object;"⟩ : MethodName) (head1 (Jvm.Cond.code (⟨"java/util/ArrayList$Itr", "next", "()Ljava/lang/Object;"⟩ : MethodName) jdk_49_method_3_code 3 (some (.object "java/lang/Object")) :: ws) ({ frames := 1, cells := 0, slots := 0, locals := 12 } : Room)) (fun a U => a = #[(.ref a1)] ∧ Z.Warmed39 U.vm ∧ U.heap = h0) (fun _ _ _ _ _ => True) (fun _ U o U' => ∃ v L, o = .returned v ∧ Q_rmnx02 Z a1 l1 d1 k1 w u1 x0 x1 h0 n0 v U'.heap L ∧ FrameEnd U o U' L ({ frames := 1, cells := 0, slots := 0, locals := 12 } : Room).cells ({ frames := 1, cells := 0, slots := 0, locals := 12 } : Room).slots) := by
  refine MetFree.of_bodySF (plainFor_of_name pn_rmii) hisR ?_
  intro p e s m args_ below meth c s₁ Bd hml0 hP hK
  obtain ⟨hargs, hZ, hh⟩ := hP
  have hx := Bd.exec
  have hby := Bd.bytes
  have hml : c.maxLocals = 3 := hml0
  have hown : s.vm.findClass "java/util/ArrayList$Itr" = some m.cls := findClass_of_methodNamed Bd.named
  have hnm := (name_of_methodNamed Bd.named Bd.method).1
  have X0 : Stand p l e ({ frames := 1, cells := 0, slots := 0, locals := 12 } : Room) s m args_ below meth c s₁ [] 0 0 := Stand.of_body Bd
  have e0 : s₁.heap = h0 := by rw [← hh, Bd.state]; rfl
  have N0 := Fr.nil n0
  have hv : ∀ (i : Nat) {d : Jvm.Cond}, tables_1[i]? = some d → d.before a0 Z = true := fun i d q => hw d (List.mem_of_getElem? q)
  have K0 : Keep h0 h0 [a1] := Keep.refl _ _
  have k0 : Go p e below m (s₁.setTop (entryFrame m args_ 3)) s₁ 0 #[.val (.ref a1), .unset, .unset] [] := by rw [hargs]; exact fun t_ kt_ => castTop (ef_rmnx02 m a1) kt_
  obtain ⟨W, hWW⟩ : ∃ W, W = s₁.setTop (entryFrame m args_ 3) := ⟨_, rfl⟩
  rw [← hWW] at k0 ⊢
  show Done p e below s W (Q_rmnx02 Z a1 l1 d1 k1 w u1 x0 x1 h0 n0) ({ frames := 1, cells := 0, slots := 0, locals := 12 } : Room).cells ({ frames := 1, cells := 0, slots := 0, locals := 12 } : Room).slots
  have k20 : Go p e below m W s₁ 1 #[.val (.ref a1), .unset, .unset] [(.ref a1)] := k0.aloadN X0 hx (hb hby d_rmnx01_0) rfl rfl
  obtain ⟨T21, v21, L21, X21, Q21, k21⟩ := k20.virt (y := (⟨"java/util/ArrayList$Itr", "checkForComodification", "()V"⟩ : MethodName)) (z := (⟨"java/util/ArrayList$Itr", "checkForComodification", "()V"⟩ : MethodName)) (Wd := 0) (cells' := 0) (slots' := 0) (argsL := []) (rest := []) X0 hx hZ hown (by rw [hml]; rfl) (hv 152 rfl) (hv 153 rfl) (notFace_of_selects (args := #[]) (mvT hZ (hv 155 rfl))) (hv 155 rfl) (hv 154 rfl) (hv 156 rfl) (hv 52 rfl) (hb hby d_rmnx01_1) (by decide) (rmcm l Z a0 hw [] a1 l1 w h0 n0 Z0 F0 F4 F2) e0 E1 rfl rfl pd_rmal_0 rfl (Nat.le_of_eq rfl) (by decide) (by decide) rfl rfl (by decide) (by decide)
  obtain ⟨rfl, Nq21, e21q⟩ := Q21
  have N21 := Fr.app N0 Nq21
  have e21 : T21.heap = h0 := e21q
  have k21 : Go p e below m W T21 4 #[.val (.ref a1), .unset, .unset] [] := k21
  have k22 : Go p e below m W T21 5 #[.val (.ref a1), .unset, .unset] [(.ref a1)] := k21.aloadN X21 hx (hb hby d_rmnx01_4) rfl rfl
  obtain ⟨T23, X23, e23, k23⟩ := k22.getF X21 hx hZ hown (host := "") (Or.inl (hv 75 rfl)) Via.refl e21 F3 (hb hby d_rmnx01_5)
  have k23 : Go p e below m W T23 8 #[.val (.ref a1), .unset, .unset] [(.int (0 : Int32))] := k23
  have k24 : Go p e below m W T23 9 #[.val (.ref a1), .val (.int (0 : Int32)), .unset] [] := k23.istoreN X23 hx (hb hby d_rmnx01_8) rfl
  have k25 : Go p e below m W T23 11 #[.val (.ref a1), .val (.int (0 : Int32)), .unset] [(.ref a1), (.int (0 : Int32))] := (k24.iloadN X23 hx (hb hby d_rmnx01_9) rfl).aloadN X23 hx (hb hby d_rmnx01_10) rfl rfl
  obtain ⟨T26, X26, e26, k26⟩ := k25.getF X23 hx hZ hown (host := "") (Or.inl (hv 57 rfl)) Via.refl e23 F0 (hb hby d_rmnx01_11)
  have k26 : Go p e below m W T26 14 #[.val (.ref a1), .val (.int (0 : Int32)), .unset] [(.ref l1), (.int (0 : Int32))] := k26
  obtain ⟨T27, X27, e27, k27⟩ := k26.getF X26 hx hZ hown (host := "java/util/ArrayList") (Or.inr (hv 77 rfl)) Via.refl e26 F5 (hb hby d_rmnx01_14)
  have k27 : Go p e below m W T27 17 #[.val (.ref a1), .val (.int (0 : Int32)), .unset] [(.int (2 : Int32)), (.int (0 : Int32))] := k27
  have k28 : Go p e below m W T27 29 #[.val (.ref a1), .val (.int (0 : Int32)), .unset] [(.ref a1)] := (k27.icmpYes X27 hx (hb hby d_rmnx01_17) (XT.ii_lt_t (by decide)) (by decide) (by decide)).aloadN X27 hx (hb hby d_rmnx01_28) rfl rfl
  obtain ⟨T29, X29, e29, k29⟩ := k28.getF X27 hx hZ hown (host := "") (Or.inl (hv 57 rfl)) Via.refl e27 F0 (hb hby d_rmnx01_29)
  have k29 : Go p e below m W T29 32 #[.val (.ref a1), .val (.int (0 : Int32)), .unset] [(.ref l1)] := k29
  obtain ⟨T30, X30, e30, k30⟩ := k29.getF X29 hx hZ hown (host := "") (Or.inl (hv 157 rfl)) Via.refl e29 F6 (hb hby d_rmnx01_32)
  have k30 : Go p e below m W T30 35 #[.val (.ref a1), .val (.int (0 : Int32)), .unset] [(.ref d1)] := k30
  have k31 : Go p e below m W T30 36 #[.val (.ref a1), .val (.int (0 : Int32)), .val (.ref d1)] [] := k30.astoreN X30 hx (hb hby d_rmnx01_35) rfl rfl
  have k32 : Go p e below m W T30 38 #[.val (.ref a1), .val (.int (0 : Int32)), .val (.ref d1)] [(.ref d1), (.int (0 : Int32))] := (k31.iloadN X30 hx (hb hby d_rmnx01_36) rfl).aloadN X30 hx (hb hby d_rmnx01_37) rfl rfl
  have k33 : Go p e below m W T30 54 #[.val (.ref a1), .val (.int (0 : Int32)), .val (.ref d1)] [(.int (1 : Int32)), (.ref a1)] := ((((((k32.arraylength X30 hx hZ e30 V1 (hb hby d_rmnx01_38)).icmpYes X30 hx (hb hby d_rmnx01_39) (XT.ii_lt_t (by decide)) (by decide) (by decide)).aloadN X30 hx (hb hby d_rmnx01_50) rfl rfl).iloadN X30 hx (hb hby d_rmnx01_51) rfl).iconst X30 hx (hb hby d_rmnx01_52) (v := (1 : Int32)) rfl).iadd X30 hx (hb hby d_rmnx01_53)).cast (y := (1 : Int32)) (by decide)
  obtain ⟨T34, h34, l34, X34, e34, W34, N34, k34⟩ := k33.putF X30 hx hZ hown (host := "") (Or.inl (hv 75 rfl)) Via.refl e30 F3 E1 (Or.inl (hv 76 rfl)) (hv 51 rfl) (ty := .int) (by decide) rfl rfl N21 G1 (hb hby d_rmnx01_54)
  have k34 : Go p e below m W T34 57 #[.val (.ref a1), .val (.int (0 : Int32)), .val (.ref d1)] [] := k34
  have Z34 : n0 ≤ h34.size := (Wr.size W34).symm ▸ Z0
  have K34 : Keep h0 h34 [a1] := K0.wr W34 (Or.inl (List.mem_of_getElem? (i := 0) rfl))
  have k35 : Go p e below m W T34 61 #[.val (.ref a1), .val (.int (0 : Int32)), .val (.ref d1)] [(.int (0 : Int32)), (.ref a1), (.int (0 : Int32)), (.ref d1)] := (((k34.aloadN X34 hx (hb hby d_rmnx01_57) rfl rfl).aloadN X34 hx (hb hby d_rmnx01_58) rfl rfl).iloadN X34 hx (hb hby d_rmnx01_59) rfl).dupX1 X34 hx (hb hby d_rmnx01_60) rfl rfl
  have g_1 := F1.other W34 (Or.inr (slot_ne (Or.inl (hv 61 rfl)) (Or.inl (hv 76 rfl)) (by decide) (by decide : parseFieldDescriptor "I" = some .int) (by decide : parseFieldDescriptor "I" = some .int)))
  have g_2 := E1.wr W34
  obtain ⟨T36, h36, l36, X36, e36, W36, N36, k36⟩ := k35.putF X34 hx hZ hown (host := "") (Or.inl (hv 60 rfl)) Via.refl e34 g_1 g_2 (Or.inl (hv 61 rfl)) (hv 51 rfl) (ty := .int) (by decide) rfl rfl N34 G1 (hb hby d_rmnx01_61)
  have k36 : Go p e below m W T36 64 #[.val (.ref a1), .val (.int (0 : Int32)), .val (.ref d1)] [(.int (0 : Int32)), (.ref d1)] := k36
  have Z36 : n0 ≤ h36.size := (Wr.size W36).symm ▸ Z34
  have K36 : Keep h0 h36 [a1] := K34.wr W36 (Or.inl (List.mem_of_getElem? (i := 0) rfl))
  have g_3 := (V1.other W34 nda).other W36 nda
  have k37 : Go p e below m W T36 65 #[.val (.ref a1), .val (.int (0 : Int32)), .val (.ref d1)] [(.ref x0)] := k36.aaload (i := 0) (n := 10) X36 hx hZ e36 g_3 rfl rfl (by decide) (by decide) rfl rfl (hb hby d_rmnx01_64)
  have g_4 := g_2.wr W36
  have g_5 := (F0.other W34 (Or.inr (slot_ne (Or.inr (hv 58 rfl)) (Or.inl (hv 76 rfl)) (by decide) (by decide : parseFieldDescriptor "Ljava/util/ArrayList;" = some (.object "java/util/ArrayList")) (by decide : parseFieldDescriptor "I" = some .int)))).other W36 (Or.inr (slot_ne (Or.inr (hv 58 rfl)) (Or.inl (hv 61 rfl)) (by decide) (by decide : parseFieldDescriptor "Ljava/util/ArrayList;" = some (.object "java/util/ArrayList")) (by decide : parseFieldDescriptor "I" = some .int)))
  have g_6 := g_1.same W36
  have g_7 := (F2.other W34 (Or.inr (slot_ne (Or.inl (hv 65 rfl)) (Or.inl (hv 76 rfl)) (by decide) (by decide : parseFieldDescriptor "I" = some .int) (by decide : parseFieldDescriptor "I" = some .int)))).other W36 (Or.inr (slot_ne (Or.inl (hv 65 rfl)) (Or.inl (hv 61 rfl)) (by decide) (by decide : parseFieldDescriptor "I" = some .int) (by decide : parseFieldDescriptor "I" = some .int)))
  have g_8 := (F3.same W34).other W36 (Or.inr (slot_ne (Or.inl (hv 76 rfl)) (Or.inl (hv 61 rfl)) (by decide) (by decide : parseFieldDescriptor "I" = some .int) (by decide : parseFieldDescriptor "I" = some .int)))
  exact k37.areturn X36 hx Bd.returns rfl rfl (hb hby d_rmnx01_65) (BodyLoose.notSynchronized Bd) (by rw [e36]; exact ⟨rfl, N36, K36, g_4, g_5, g_6, g_7, g_8⟩) (by decide) (by decide)

theorem ef_rmnx12 (m : MethodId) (a1 : Addr) : entryFrame m #[(.ref a1)] 3 = mkF m 0 #[.val (.ref a1), .unset, .unset] [] := by first | (simp [entryFrame, mkF, argsToLocals, Value.category]; done) | rfl
def Q_rmnx12 (Z : State) (a1 : Addr) (l1 : Addr) (d1 : Addr) (k1 : ClassId) (w : Int32) (u1 : Value) (x0 : Addr) (x1 : Addr) (h0 : Heap) (n0 : Nat) (v : Option Value) (h : Heap) (L : List Loc) : Prop := v = some (.ref x1) ∧ Fr n0 L ∧ Keep h0 h [a1] ∧ Exa Z h a1 "java/util/ArrayList$Itr" ∧ Fld Z h a1 "java/util/ArrayList$Itr" "this$0" "Ljava/util/ArrayList;" (.ref l1) ∧ Fld Z h a1 "java/util/ArrayList$Itr" "lastRet" "I" (.int (1 : Int32)) ∧ Fld Z h a1 "java/util/ArrayList$Itr" "expectedModCount" "I" (.int w) ∧ Fld Z h a1 "java/util/ArrayList$Itr" "cursor" "I" (.int (2 : Int32))
set_option maxRecDepth 65536 in
set_option maxHeartbeats 40000000 in
theorem rmnx12 (l : Launch) (Z : State) (a0 : Array Value) (hw : ∀ d ∈ tables_1, d.before a0 Z = true) (ws : List Jvm.Cond) (a1 : Addr) (l1 : Addr) (d1 : Addr) (k1 : ClassId) (w : Int32) (u1 : Value) (x0 : Addr) (x1 : Addr) (h0 : Heap) (n0 : Nat) (Z0 : n0 ≤ h0.size) (E1 : Exa Z h0 a1 "java/util/ArrayList$Itr") (G1 : n0 ≤ a1) (F0 : Fld Z h0 a1 "java/util/ArrayList$Itr" "this$0" "Ljava/util/ArrayList;" (.ref l1)) (F1 : Fld Z h0 a1 "java/util/ArrayList$Itr" "lastRet" "I" u1) (F2 : Fld Z h0 a1 "java/util/ArrayList$Itr" "expectedModCount" "I" (.int w)) (F3 : Fld Z h0 a1 "java/util/ArrayList$Itr" "cursor" "I" (.int (1 : Int32))) (F4 : Fld Z h0 l1 "java/util/AbstractList" "modCount" "I" (.int w)) (F5 : Fld Z h0 l1 "java/util/ArrayList" "size" "I" (.int (2 : Int32))) (F6 : Fld Z h0 l1 "java/util/ArrayList" "elementData" "[Ljava/lang/Object;" (.ref d1)) (V1 : Arv Z h0 d1 k1 (.object "java/lang/Object") (10 : Int32) [(.ref x0), (.ref x1), .null, .null, .null, .null, .null, .null, .null, .null] .null) (nla : l1 ≠ a1) (nda : d1 ≠ a1) :
    MetFree l (⟨"java/util/ArrayList$Itr", "next", "()Ljava/lang/Object;"⟩ : MethodName) (head1 (Jvm.Cond.code (⟨"java/util/ArrayList$Itr", "next", "()Ljava/lang/Object;"⟩ : MethodName) jdk_49_method_3_code 3 (some (.object "java/lang/Object")) :: ws) ({ frames := 1, cells := 0, slots := 0, locals := 12 } : Room)) (fun a U => a = #[(.ref a1)] ∧ Z.Warmed39 U.vm ∧ U.heap = h0) (fun _ _ _ _ _ => True) (fun _ U o U' => ∃ v L, o = .returned v ∧ Q_rmnx12 Z a1 l1 d1 k1 w u1 x0 x1 h0 n0 v U'.heap L ∧ FrameEnd U o U' L ({ frames := 1, cells := 0, slots := 0, locals := 12 } : Room).cells ({ frames := 1, cells := 0, slots := 0, locals := 12 } : Room).slots) := by
  refine MetFree.of_bodySF (plainFor_of_name pn_rmii) hisR ?_
  intro p e s m args_ below meth c s₁ Bd hml0 hP hK
  obtain ⟨hargs, hZ, hh⟩ := hP
  have hx := Bd.exec
  have hby := Bd.bytes
  have hml : c.maxLocals = 3 := hml0
  have hown : s.vm.findClass "java/util/ArrayList$Itr" = some m.cls := findClass_of_methodNamed Bd.named
  have hnm := (name_of_methodNamed Bd.named Bd.method).1
  have X0 : Stand p l e ({ frames := 1, cells := 0, slots := 0, locals := 12 } : Room) s m args_ below meth c s₁ [] 0 0 := Stand.of_body Bd
  have e0 : s₁.heap = h0 := by rw [← hh, Bd.state]; rfl
  have N0 := Fr.nil n0
  have hv : ∀ (i : Nat) {d : Jvm.Cond}, tables_1[i]? = some d → d.before a0 Z = true := fun i d q => hw d (List.mem_of_getElem? q)
  have K0 : Keep h0 h0 [a1] := Keep.refl _ _
  have k0 : Go p e below m (s₁.setTop (entryFrame m args_ 3)) s₁ 0 #[.val (.ref a1), .unset, .unset] [] := by rw [hargs]; exact fun t_ kt_ => castTop (ef_rmnx12 m a1) kt_
  obtain ⟨W, hWW⟩ : ∃ W, W = s₁.setTop (entryFrame m args_ 3) := ⟨_, rfl⟩
  rw [← hWW] at k0 ⊢
  show Done p e below s W (Q_rmnx12 Z a1 l1 d1 k1 w u1 x0 x1 h0 n0) ({ frames := 1, cells := 0, slots := 0, locals := 12 } : Room).cells ({ frames := 1, cells := 0, slots := 0, locals := 12 } : Room).slots
  have k20 : Go p e below m W s₁ 1 #[.val (.ref a1), .unset, .unset] [(.ref a1)] := k0.aloadN X0 hx (hb hby d_rmnx01_0) rfl rfl
  obtain ⟨T21, v21, L21, X21, Q21, k21⟩ := k20.virt (y := (⟨"java/util/ArrayList$Itr", "checkForComodification", "()V"⟩ : MethodName)) (z := (⟨"java/util/ArrayList$Itr", "checkForComodification", "()V"⟩ : MethodName)) (Wd := 0) (cells' := 0) (slots' := 0) (argsL := []) (rest := []) X0 hx hZ hown (by rw [hml]; rfl) (hv 152 rfl) (hv 153 rfl) (notFace_of_selects (args := #[]) (mvT hZ (hv 155 rfl))) (hv 155 rfl) (hv 154 rfl) (hv 156 rfl) (hv 52 rfl) (hb hby d_rmnx01_1) (by decide) (rmcm l Z a0 hw [] a1 l1 w h0 n0 Z0 F0 F4 F2) e0 E1 rfl rfl pd_rmal_0 rfl (Nat.le_of_eq rfl) (by decide) (by decide) rfl rfl (by decide) (by decide)
  obtain ⟨rfl, Nq21, e21q⟩ := Q21
  have N21 := Fr.app N0 Nq21
  have e21 : T21.heap = h0 := e21q
  have k21 : Go p e below m W T21 4 #[.val (.ref a1), .unset, .unset] [] := k21
  have k22 : Go p e below m W T21 5 #[.val (.ref a1), .unset, .unset] [(.ref a1)] := k21.aloadN X21 hx (hb hby d_rmnx01_4) rfl rfl
  obtain ⟨T23, X23, e23, k23⟩ := k22.getF X21 hx hZ hown (host := "") (Or.inl (hv 75 rfl)) Via.refl e21 F3 (hb hby d_rmnx01_5)
  have k23 : Go p e below m W T23 8 #[.val (.ref a1), .unset, .unset] [(.int (1 : Int32))] := k23
  have k24 : Go p e below m W T23 9 #[.val (.ref a1), .val (.int (1 : Int32)), .unset] [] := k23.istoreN X23 hx (hb hby d_rmnx01_8) rfl
  have k25 : Go p e below m W T23 11 #[.val (.ref a1), .val (.int (1 : Int32)), .unset] [(.ref a1), (.int (1 : Int32))] := (k24.iloadN X23 hx (hb hby d_rmnx01_9) rfl).aloadN X23 hx (hb hby d_rmnx01_10) rfl rfl
  obtain ⟨T26, X26, e26, k26⟩ := k25.getF X23 hx hZ hown (host := "") (Or.inl (hv 57 rfl)) Via.refl e23 F0 (hb hby d_rmnx01_11)
  have k26 : Go p e below m W T26 14 #[.val (.ref a1), .val (.int (1 : Int32)), .unset] [(.ref l1), (.int (1 : Int32))] := k26
  obtain ⟨T27, X27, e27, k27⟩ := k26.getF X26 hx hZ hown (host := "java/util/ArrayList") (Or.inr (hv 77 rfl)) Via.refl e26 F5 (hb hby d_rmnx01_14)
  have k27 : Go p e below m W T27 17 #[.val (.ref a1), .val (.int (1 : Int32)), .unset] [(.int (2 : Int32)), (.int (1 : Int32))] := k27
  have k28 : Go p e below m W T27 29 #[.val (.ref a1), .val (.int (1 : Int32)), .unset] [(.ref a1)] := (k27.icmpYes X27 hx (hb hby d_rmnx01_17) (XT.ii_lt_t (by decide)) (by decide) (by decide)).aloadN X27 hx (hb hby d_rmnx01_28) rfl rfl
  obtain ⟨T29, X29, e29, k29⟩ := k28.getF X27 hx hZ hown (host := "") (Or.inl (hv 57 rfl)) Via.refl e27 F0 (hb hby d_rmnx01_29)
  have k29 : Go p e below m W T29 32 #[.val (.ref a1), .val (.int (1 : Int32)), .unset] [(.ref l1)] := k29
  obtain ⟨T30, X30, e30, k30⟩ := k29.getF X29 hx hZ hown (host := "") (Or.inl (hv 157 rfl)) Via.refl e29 F6 (hb hby d_rmnx01_32)
  have k30 : Go p e below m W T30 35 #[.val (.ref a1), .val (.int (1 : Int32)), .unset] [(.ref d1)] := k30
  have k31 : Go p e below m W T30 36 #[.val (.ref a1), .val (.int (1 : Int32)), .val (.ref d1)] [] := k30.astoreN X30 hx (hb hby d_rmnx01_35) rfl rfl
  have k32 : Go p e below m W T30 38 #[.val (.ref a1), .val (.int (1 : Int32)), .val (.ref d1)] [(.ref d1), (.int (1 : Int32))] := (k31.iloadN X30 hx (hb hby d_rmnx01_36) rfl).aloadN X30 hx (hb hby d_rmnx01_37) rfl rfl
  have k33 : Go p e below m W T30 54 #[.val (.ref a1), .val (.int (1 : Int32)), .val (.ref d1)] [(.int (2 : Int32)), (.ref a1)] := ((((((k32.arraylength X30 hx hZ e30 V1 (hb hby d_rmnx01_38)).icmpYes X30 hx (hb hby d_rmnx01_39) (XT.ii_lt_t (by decide)) (by decide) (by decide)).aloadN X30 hx (hb hby d_rmnx01_50) rfl rfl).iloadN X30 hx (hb hby d_rmnx01_51) rfl).iconst X30 hx (hb hby d_rmnx01_52) (v := (1 : Int32)) rfl).iadd X30 hx (hb hby d_rmnx01_53)).cast (y := (2 : Int32)) (by decide)
  obtain ⟨T34, h34, l34, X34, e34, W34, N34, k34⟩ := k33.putF X30 hx hZ hown (host := "") (Or.inl (hv 75 rfl)) Via.refl e30 F3 E1 (Or.inl (hv 76 rfl)) (hv 51 rfl) (ty := .int) (by decide) rfl rfl N21 G1 (hb hby d_rmnx01_54)
  have k34 : Go p e below m W T34 57 #[.val (.ref a1), .val (.int (1 : Int32)), .val (.ref d1)] [] := k34
  have Z34 : n0 ≤ h34.size := (Wr.size W34).symm ▸ Z0
  have K34 : Keep h0 h34 [a1] := K0.wr W34 (Or.inl (List.mem_of_getElem? (i := 0) rfl))
  have k35 : Go p e below m W T34 61 #[.val (.ref a1), .val (.int (1 : Int32)), .val (.ref d1)] [(.int (1 : Int32)), (.ref a1), (.int (1 : Int32)), (.ref d1)] := (((k34.aloadN X34 hx (hb hby d_rmnx01_57) rfl rfl).aloadN X34 hx (hb hby d_rmnx01_58) rfl rfl).iloadN X34 hx (hb hby d_rmnx01_59) rfl).dupX1 X34 hx (hb hby d_rmnx01_60) rfl rfl
  have g_1 := F1.other W34 (Or.inr (slot_ne (Or.inl (hv 61 rfl)) (Or.inl (hv 76 rfl)) (by decide) (by decide : parseFieldDescriptor "I" = some .int) (by decide : parseFieldDescriptor "I" = some .int)))
  have g_2 := E1.wr W34
  obtain ⟨T36, h36, l36, X36, e36, W36, N36, k36⟩ := k35.putF X34 hx hZ hown (host := "") (Or.inl (hv 60 rfl)) Via.refl e34 g_1 g_2 (Or.inl (hv 61 rfl)) (hv 51 rfl) (ty := .int) (by decide) rfl rfl N34 G1 (hb hby d_rmnx01_61)
  have k36 : Go p e below m W T36 64 #[.val (.ref a1), .val (.int (1 : Int32)), .val (.ref d1)] [(.int (1 : Int32)), (.ref d1)] := k36
  have Z36 : n0 ≤ h36.size := (Wr.size W36).symm ▸ Z34
  have K36 : Keep h0 h36 [a1] := K34.wr W36 (Or.inl (List.mem_of_getElem? (i := 0) rfl))
  have g_3 := (V1.other W34 nda).other W36 nda
  have k37 : Go p e below m W T36 65 #[.val (.ref a1), .val (.int (1 : Int32)), .val (.ref d1)] [(.ref x1)] := k36.aaload (i := 1) (n := 10) X36 hx hZ e36 g_3 rfl rfl (by decide) (by decide) rfl rfl (hb hby d_rmnx01_64)
  have g_4 := g_2.wr W36
  have g_5 := (F0.other W34 (Or.inr (slot_ne (Or.inr (hv 58 rfl)) (Or.inl (hv 76 rfl)) (by decide) (by decide : parseFieldDescriptor "Ljava/util/ArrayList;" = some (.object "java/util/ArrayList")) (by decide : parseFieldDescriptor "I" = some .int)))).other W36 (Or.inr (slot_ne (Or.inr (hv 58 rfl)) (Or.inl (hv 61 rfl)) (by decide) (by decide : parseFieldDescriptor "Ljava/util/ArrayList;" = some (.object "java/util/ArrayList")) (by decide : parseFieldDescriptor "I" = some .int)))
  have g_6 := g_1.same W36
  have g_7 := (F2.other W34 (Or.inr (slot_ne (Or.inl (hv 65 rfl)) (Or.inl (hv 76 rfl)) (by decide) (by decide : parseFieldDescriptor "I" = some .int) (by decide : parseFieldDescriptor "I" = some .int)))).other W36 (Or.inr (slot_ne (Or.inl (hv 65 rfl)) (Or.inl (hv 61 rfl)) (by decide) (by decide : parseFieldDescriptor "I" = some .int) (by decide : parseFieldDescriptor "I" = some .int)))
  have g_8 := (F3.same W34).other W36 (Or.inr (slot_ne (Or.inl (hv 76 rfl)) (Or.inl (hv 61 rfl)) (by decide) (by decide : parseFieldDescriptor "I" = some .int) (by decide : parseFieldDescriptor "I" = some .int)))
  exact k37.areturn X36 hx Bd.returns rfl rfl (hb hby d_rmnx01_65) (BodyLoose.notSynchronized Bd) (by rw [e36]; exact ⟨rfl, N36, K36, g_4, g_5, g_6, g_7, g_8⟩) (by decide) (by decide)

theorem d_rmfi_0 : decode jdk_65_method_103_code 0 = .ok (.iconst 0, 1) := by decide +kernel
theorem d_rmfi_1 : decode jdk_65_method_103_code 1 = .ok (.istore_n 2, 1) := by decide +kernel
theorem d_rmfi_2 : decode jdk_65_method_103_code 2 = .ok (.aload_n 0, 1) := by decide +kernel
theorem d_rmfi_3 : decode jdk_65_method_103_code 3 = .ok (.arraylength, 1) := by decide +kernel
theorem d_rmfi_4 : decode jdk_65_method_103_code 4 = .ok (.istore_n 3, 1) := by decide +kernel
theorem d_rmfi_5 : decode jdk_65_method_103_code 5 = .ok (.iload_n 2, 1) := by decide +kernel
theorem d_rmfi_6 : decode jdk_65_method_103_code 6 = .ok (.iload_n 3, 1) := by decide +kernel
theorem d_rmfi_7 : decode jdk_65_method_103_code 7 = .ok (.if_icmp .ge 13, 3) := by decide +kernel
theorem d_rmfi_10 : decode jdk_65_method_103_code 10 = .ok (.aload_n 0, 1) := by decide +kernel
theorem d_rmfi_11 : decode jdk_65_method_103_code 11 = .ok (.iload_n 2, 1) := by decide +kernel
theorem d_rmfi_12 : decode jdk_65_method_103_code 12 = .ok (.iload_n 1, 1) := by decide +kernel
theorem d_rmfi_13 : decode jdk_65_method_103_code 13 = .ok (.iastore, 1) := by decide +kernel
theorem d_rmfi_14 : decode jdk_65_method_103_code 14 = .ok (.iinc 2 1, 3) := by decide +kernel
theorem d_rmfi_17 : decode jdk_65_method_103_code 17 = .ok (.goto (-12), 3) := by decide +kernel
theorem d_rmfi_20 : decode jdk_65_method_103_code 20 = .ok (.return_, 1) := by decide +kernel
theorem pn_rmfi : plainName "java/util/Arrays" = true := by first | (simp [plainName, overriddenIn]; done) | decide +kernel
theorem ef_rmfi (m : MethodId) (a1 : Addr) : entryFrame m #[(.ref a1), (.int (-1 : Int32))] 4 = mkF m 0 #[.val (.ref a1), .val (.int (-1 : Int32)), .unset, .unset] [] := by first | (simp [entryFrame, mkF, argsToLocals, Value.category]; done) | rfl
def Q_rmfi (Z : State) (a1 : Addr) (k1 : ClassId) (h0 : Heap) (n0 : Nat) (v : Option Value) (h : Heap) (L : List Loc) : Prop := v = none ∧ Fr n0 L ∧ Keep h0 h [a1] ∧ Arv Z h a1 k1 .int (4 : Int32) [(.int (-1 : Int32)), (.int (-1 : Int32)), (.int (-1 : Int32)), (.int (-1 : Int32))] (.int (0 : Int32))
set_option maxRecDepth 65536 in
set_option maxHeartbeats 40000000 in
theorem rmfi (l : Launch) (Z : State) (a0 : Array Value) (hw : ∀ d ∈ tables_1, d.before a0 Z = true) (ws : List Jvm.Cond) (a1 : Addr) (k1 : ClassId) (h0 : Heap) (n0 : Nat) (Z0 : n0 ≤ h0.size) (V1 : Arv Z h0 a1 k1 .int (4 : Int32) [(.int (0 : Int32)), (.int (0 : Int32)), (.int (0 : Int32)), (.int (0 : Int32))] (.int (0 : Int32))) (G1 : n0 ≤ a1) :
    MetFree l (⟨"java/util/Arrays", "fill", "([II)V"⟩ : MethodName) (head1 (Jvm.Cond.code (⟨"java/util/Arrays", "fill", "([II)V"⟩ : MethodName) jdk_65_method_103_code 4 none :: ws) ({ frames := 0, cells := 0, slots := 0, locals := 0 } : Room)) (fun a U => a = #[(.ref a1), (.int (-1 : Int32))] ∧ Z.Warmed39 U.vm ∧ U.heap = h0) (fun _ _ _ _ _ => True) (fun _ U o U' => ∃ v L, o = .returned v ∧ Q_rmfi Z a1 k1 h0 n0 v U'.heap L ∧ FrameEnd U o U' L ({ frames := 0, cells := 0, slots := 0, locals := 0 } : Room).cells ({ frames := 0, cells := 0, slots := 0, locals := 0 } : Room).slots) := by
  refine MetFree.of_bodySF (plainFor_of_name pn_rmfi) hisR ?_
  intro p e s m args_ below meth c s₁ Bd hml0 hP hK
  obtain ⟨hargs, hZ, hh⟩ := hP
  have hx := Bd.exec
  have hby := Bd.bytes
  have hml : c.maxLocals = 4 := hml0
  have hown : s.vm.findClass "java/util/Arrays" = some m.cls := findClass_of_methodNamed Bd.named
  have hnm := (name_of_methodNamed Bd.named Bd.method).1
  have X0 : Stand p l e ({ frames := 0, cells := 0, slots := 0, locals := 0 } : Room) s m args_ below meth c s₁ [] 0 0 := Stand.of_body Bd
  have e0 : s₁.heap = h0 := by rw [← hh, Bd.state]; rfl
  have N0 := Fr.nil n0
  have hv : ∀ (i : Nat) {d : Jvm.Cond}, tables_1[i]? = some d → d.before a0 Z = true := fun i d q => hw d (List.mem_of_getElem? q)
  have K0 : Keep h0 h0 [a1] := Keep.refl _ _
  have k0 : Go p e below m (s₁.setTop (entryFrame m args_ 4)) s₁ 0 #[.val (.ref a1), .val (.int (-1 : Int32)), .unset, .unset] [] := by rw [hargs]; exact fun t_ kt_ => castTop (ef_rmfi m a1) kt_
  obtain ⟨W, hWW⟩ : ∃ W, W = s₁.setTop (entryFrame m args_ 4) := ⟨_, rfl⟩
  rw [← hWW] at k0 ⊢
  show Done p e below s W (Q_rmfi Z a1 k1 h0 n0) ({ frames := 0, cells := 0, slots := 0, locals := 0 } : Room).cells ({ frames := 0, cells := 0, slots := 0, locals := 0 } : Room).slots
  have k20 : Go p e below m W s₁ 2 #[.val (.ref a1), .val (.int (-1 : Int32)), .val (.int (0 : Int32)), .unset] [] := (k0.iconst X0 hx (hb hby d_rmfi_0) (v := (0 : Int32)) rfl).istoreN X0 hx (hb hby d_rmfi_1) rfl
  have k21 : Go p e below m W s₁ 3 #[.val (.ref a1), .val (.int (-1 : Int32)), .val (.int (0 : Int32)), .unset] [(.ref a1)] := k20.aloadN X0 hx (hb hby d_rmfi_2) rfl rfl
  have k22 : Go p e below m W s₁ 5 #[.val (.ref a1), .val (.int (-1 : Int32)), .val (.int (0 : Int32)), .val (.int (4 : Int32))] [] := (k21.arraylength X0 hx hZ e0 V1 (hb hby d_rmfi_3)).istoreN X0 hx (hb hby d_rmfi_4) rfl
  have k23 : Go p e below m W s₁ 13 #[.val (.ref a1), .val (.int (-1 : Int32)), .val (.int (0 : Int32)), .val (.int (4 : Int32))] [(.int (-1 : Int32)), (.int (0 : Int32)), (.ref a1)] := (((((k22.iloadN X0 hx (hb hby d_rmfi_5) rfl).iloadN X0 hx (hb hby d_rmfi_6) rfl).icmpNo X0 hx (hb hby d_rmfi_7) (XT.ii_ge_f (by decide))).aloadN X0 hx (hb hby d_rmfi_10) rfl rfl).iloadN X0 hx (hb hby d_rmfi_11) rfl).iloadN X0 hx (hb hby d_rmfi_12) rfl
  obtain ⟨T24, h24, l24, X24, e24, W24, V24, N24, k24⟩ := k23.iastore (i := 0) X0 hx hZ e0 V1 rfl rfl (by decide) (Nat.le_of_ble_eq_true rfl) N0 G1 (hb hby d_rmfi_13)
  have k24 : Go p e below m W T24 14 #[.val (.ref a1), .val (.int (-1 : Int32)), .val (.int (0 : Int32)), .val (.int (4 : Int32))] [] := k24
  have Z24 : n0 ≤ h24.size := (Wr.size W24).symm ▸ Z0
  have V24 : Arv Z h24 a1 k1 .int (4 : Int32) [(.int (-1 : Int32)), (.int (0 : Int32)), (.int (0 : Int32)), (.int (0 : Int32))] (.int (0 : Int32)) := V24
  have K24 : Keep h0 h24 [a1] := K0.wr W24 (Or.inl (List.mem_of_getElem? (i := 0) rfl))
  have k25 : Go p e below m W T24 17 #[.val (.ref a1), .val (.int (-1 : Int32)), .val (.int (1 : Int32)), .val (.int (4 : Int32))] [] := k24.iinc X24 hx (hb hby d_rmfi_14) (v := (1 : Int32)) rfl rfl rfl
  have k26 : Go p e below m W T24 13 #[.val (.ref a1), .val (.int (-1 : Int32)), .val (.int (1 : Int32)), .val (.int (4 : Int32))] [(.int (-1 : Int32)), (.int (1 : Int32)), (.ref a1)] := ((((((k25.goto X24 hx (hb hby d_rmfi_17) (by decide) (by decide)).iloadN X24 hx (hb hby d_rmfi_5) rfl).iloadN X24 hx (hb hby d_rmfi_6) rfl).icmpNo X24 hx (hb hby d_rmfi_7) (XT.ii_ge_f (by decide))).aloadN X24 hx (hb hby d_rmfi_10) rfl rfl).iloadN X24 hx (hb hby d_rmfi_11) rfl).iloadN X24 hx (hb hby d_rmfi_12) rfl
  obtain ⟨T27, h27, l27, X27, e27, W27, V27, N27, k27⟩ := k26.iastore (i := 1) X24 hx hZ e24 V24 rfl rfl (by decide) (Nat.le_of_ble_eq_true rfl) N24 G1 (hb hby d_rmfi_13)
  have k27 : Go p e below m W T27 14 #[.val (.ref a1), .val (.int (-1 : Int32)), .val (.int (1 : Int32)), .val (.int (4 : Int32))] [] := k27
  have Z27 : n0 ≤ h27.size := (Wr.size W27).symm ▸ Z24
  have V27 : Arv Z h27 a1 k1 .int (4 : Int32) [(.int (-1 : Int32)), (.int (-1 : Int32)), (.int (0 : Int32)), (.int (0 : Int32))] (.int (0 : Int32)) := V27
  have K27 : Keep h0 h27 [a1] := K24.wr W27 (Or.inl (List.mem_of_getElem? (i := 0) rfl))
  have k28 : Go p e below m W T27 17 #[.val (.ref a1), .val (.int (-1 : Int32)), .val (.int (2 : Int32)), .val (.int (4 : Int32))] [] := k27.iinc X27 hx (hb hby d_rmfi_14) (v := (1 : Int32)) rfl rfl rfl
  have k29 : Go p e below m W T27 13 #[.val (.ref a1), .val (.int (-1 : Int32)), .val (.int (2 : Int32)), .val (.int (4 : Int32))] [(.int (-1 : Int32)), (.int (2 : Int32)), (.ref a1)] := ((((((k28.goto X27 hx (hb hby d_rmfi_17) (by decide) (by decide)).iloadN X27 hx (hb hby d_rmfi_5) rfl).iloadN X27 hx (hb hby d_rmfi_6) rfl).icmpNo X27 hx (hb hby d_rmfi_7) (XT.ii_ge_f (by decide))).aloadN X27 hx (hb hby d_rmfi_10) rfl rfl).iloadN X27 hx (hb hby d_rmfi_11) rfl).iloadN X27 hx (hb hby d_rmfi_12) rfl
  obtain ⟨T30, h30, l30, X30, e30, W30, V30, N30, k30⟩ := k29.iastore (i := 2) X27 hx hZ e27 V27 rfl rfl (by decide) (Nat.le_of_ble_eq_true rfl) N27 G1 (hb hby d_rmfi_13)
  have k30 : Go p e below m W T30 14 #[.val (.ref a1), .val (.int (-1 : Int32)), .val (.int (2 : Int32)), .val (.int (4 : Int32))] [] := k30
  have Z30 : n0 ≤ h30.size := (Wr.size W30).symm ▸ Z27
  have V30 : Arv Z h30 a1 k1 .int (4 : Int32) [(.int (-1 : Int32)), (.int (-1 : Int32)), (.int (-1 : Int32)), (.int (0 : Int32))] (.int (0 : Int32)) := V30
  have K30 : Keep h0 h30 [a1] := K27.wr W30 (Or.inl (List.mem_of_getElem? (i := 0) rfl))
  have k31 : Go p e below m W T30 17 #[.val (.ref a1), .val (.int (-1 : Int32)), .val (.int (3 : Int32)), .val (.int (4 : Int32))] [] := k30.iinc X30 hx (hb hby d_rmfi_14) (v := (1 : Int32)) rfl rfl rfl
  have k32 : Go p e below m W T30 13 #[.val (.ref a1), .val (.int (-1 : Int32)), .val (.int (3 : Int32)), .val (.int (4 : Int32))] [(.int (-1 : Int32)), (.int (3 : Int32)), (.ref a1)] := ((((((k31.goto X30 hx (hb hby d_rmfi_17) (by decide) (by decide)).iloadN X30 hx (hb hby d_rmfi_5) rfl).iloadN X30 hx (hb hby d_rmfi_6) rfl).icmpNo X30 hx (hb hby d_rmfi_7) (XT.ii_ge_f (by decide))).aloadN X30 hx (hb hby d_rmfi_10) rfl rfl).iloadN X30 hx (hb hby d_rmfi_11) rfl).iloadN X30 hx (hb hby d_rmfi_12) rfl
  obtain ⟨T33, h33, l33, X33, e33, W33, V33, N33, k33⟩ := k32.iastore (i := 3) X30 hx hZ e30 V30 rfl rfl (by decide) (Nat.le_of_ble_eq_true rfl) N30 G1 (hb hby d_rmfi_13)
  have k33 : Go p e below m W T33 14 #[.val (.ref a1), .val (.int (-1 : Int32)), .val (.int (3 : Int32)), .val (.int (4 : Int32))] [] := k33
  have Z33 : n0 ≤ h33.size := (Wr.size W33).symm ▸ Z30
  have V33 : Arv Z h33 a1 k1 .int (4 : Int32) [(.int (-1 : Int32)), (.int (-1 : Int32)), (.int (-1 : Int32)), (.int (-1 : Int32))] (.int (0 : Int32)) := V33
  have K33 : Keep h0 h33 [a1] := K30.wr W33 (Or.inl (List.mem_of_getElem? (i := 0) rfl))
  have k34 : Go p e below m W T33 17 #[.val (.ref a1), .val (.int (-1 : Int32)), .val (.int (4 : Int32)), .val (.int (4 : Int32))] [] := k33.iinc X33 hx (hb hby d_rmfi_14) (v := (1 : Int32)) rfl rfl rfl
  have k35 : Go p e below m W T33 20 #[.val (.ref a1), .val (.int (-1 : Int32)), .val (.int (4 : Int32)), .val (.int (4 : Int32))] [] := (((k34.goto X33 hx (hb hby d_rmfi_17) (by decide) (by decide)).iloadN X33 hx (hb hby d_rmfi_5) rfl).iloadN X33 hx (hb hby d_rmfi_6) rfl).icmpYes X33 hx (hb hby d_rmfi_7) (XT.ii_ge_t (by decide)) (by decide) (by decide)
  exact k35.return_ X33 hx Bd.returns (hb hby d_rmfi_20) (BodyLoose.notSynchronized Bd) (by rw [e33]; exact ⟨rfl, N33, K33, V33⟩) (by decide) (by decide)

theorem d_rmfa0_0 : decode prog_36_method_1_code 0 = .ok (.aload_n 0, 1) := by decide +kernel
theorem d_rmfa0_1 : decode prog_36_method_1_code 1 = .ok (.invokespecial 1, 3) := by decide +kernel
theorem d_rmfa0_4 : decode prog_36_method_1_code 4 = .ok (.aload_n 0, 1) := by decide +kernel
theorem d_rmfa0_5 : decode prog_36_method_1_code 5 = .ok (.iload_n 1, 1) := by decide +kernel
theorem d_rmfa0_6 : decode prog_36_method_1_code 6 = .ok (.newarray .int, 2) := by decide +kernel
theorem d_rmfa0_8 : decode prog_36_method_1_code 8 = .ok (.putfield 7, 3) := by decide +kernel
theorem d_rmfa0_11 : decode prog_36_method_1_code 11 = .ok (.aload_n 0, 1) := by decide +kernel
theorem d_rmfa0_12 : decode prog_36_method_1_code 12 = .ok (.getfield 7, 3) := by decide +kernel
theorem d_rmfa0_15 : decode prog_36_method_1_code 15 = .ok (.iconst (-1), 1) := by decide +kernel
theorem d_rmfa0_16 : decode prog_36_method_1_code 16 = .ok (.invokestatic 13, 3) := by decide +kernel
theorem d_rmfa0_19 : decode prog_36_method_1_code 19 = .ok (.aload_n 2, 1) := by decide +kernel
theorem d_rmfa0_20 : decode prog_36_method_1_code 20 = .ok (.invokeinterface 19 1, 5) := by decide +kernel
theorem d_rmfa0_25 : decode prog_36_method_1_code 25 = .ok (.astore_n 3, 1) := by decide +kernel
theorem d_rmfa0_26 : decode prog_36_method_1_code 26 = .ok (.aload_n 3, 1) := by decide +kernel
theorem d_rmfa0_27 : decode prog_36_method_1_code 27 = .ok (.invokeinterface 25 1, 5) := by decide +kernel
theorem d_rmfa0_32 : decode prog_36_method_1_code 32 = .ok (.ifCond .eq 32, 3) := by decide +kernel
theorem d_rmfa0_64 : decode prog_36_method_1_code 64 = .ok (.aload_n 0, 1) := by decide +kernel
theorem d_rmfa0_65 : decode prog_36_method_1_code 65 = .ok (.aload_n 2, 1) := by decide +kernel
theorem d_rmfa0_66 : decode prog_36_method_1_code 66 = .ok (.invokeinterface 44 1, 5) := by decide +kernel
theorem d_rmfa0_71 : decode prog_36_method_1_code 71 = .ok (.ifCond .ne 7, 3) := by decide +kernel
theorem d_rmfa0_78 : decode prog_36_method_1_code 78 = .ok (.iconst 0, 1) := by decide +kernel
theorem d_rmfa0_79 : decode prog_36_method_1_code 79 = .ok (.putfield 47, 3) := by decide +kernel
theorem d_rmfa0_82 : decode prog_36_method_1_code 82 = .ok (.return_, 1) := by decide +kernel
theorem pn_rmfa0 : plainName "com/example/enact/enact/FeederAcceleration" = true := by first | (simp [plainName, overriddenIn]; done) | decide +kernel
theorem pd_rmfa0_0 : parseMethodDescriptor "([II)V" = some ⟨[(.array .int), .int], none⟩ := by decide +kernel
theorem pd_rmfa0_1 : parseMethodDescriptor "()Ljava/util/Iterator;" = some ⟨[], (some (.object "java/util/Iterator"))⟩ := by decide +kernel
theorem pd_rmfa0_2 : parseMethodDescriptor "()Z" = some ⟨[], (some .boolean)⟩ := by decide +kernel
theorem ef_rmfa0 (m : MethodId) (a1 : Addr) (l1 : Addr) : entryFrame m #[(.ref a1), (.int (4 : Int32)), (.ref l1)] 5 = mkF m 0 #[.val (.ref a1), .val (.int (4 : Int32)), .val (.ref l1), .unset, .unset] [] := by first | (simp [entryFrame, mkF, argsToLocals, Value.category]; done) | rfl
def Q_rmfa0 (Z : State) (a1 : Addr) (l1 : Addr) (u0 : Value) (u1 : Value) (h0 : Heap) (n0 : Nat) (v : Option Value) (h : Heap) (L : List Loc) : Prop := ∃ (of : Addr) (okf : ClassId), v = none ∧ Fr n0 L ∧ Keep h0 h [a1] ∧ Exa Z h a1 "com/example/enact/enact/FeederAcceleration" ∧ Fld Z h a1 "com/example/enact/enact/FeederAcceleration" "fed" "[I" (.ref of) ∧ Arv Z h of okf .int (4 : Int32) [(.int (-1 : Int32)), (.int (-1 : Int32)), (.int (-1 : Int32)), (.int (-1 : Int32))] (.int (0 : Int32)) ∧ n0 ≤ of ∧ h0.size ≤ of ∧ a1 ≠ of
set_option maxRecDepth 65536 in
set_option maxHeartbeats 40000000 in
theorem rmfa0 (l : Launch) (Z : State) (a0 : Array Value) (hw : ∀ d ∈ tables_1, d.before a0 Z = true) (ws : List Jvm.Cond) (a1 : Addr) (l1 : Addr) (u0 : Value) (u1 : Value) (h0 : Heap) (n0 : Nat) (Z0 : n0 ≤ h0.size) (O0 : Old Z n0 h0) (E1 : Exa Z h0 a1 "com/example/enact/enact/FeederAcceleration") (G1 : n0 ≤ a1) (F0 : Fld Z h0 a1 "com/example/enact/enact/FeederAcceleration" "fed" "[I" u0) (F1 : Fld Z h0 a1 "com/example/enact/enact/FeederAcceleration" "accelerates" "Z" u1) (El : Exa Z h0 l1 "java/util/ArrayList") (F2 : Fld Z h0 l1 "java/util/AbstractList" "modCount" "I" (.int (0 : Int32))) (F3 : Fld Z h0 l1 "java/util/ArrayList" "size" "I" (.int (0 : Int32))) :
    MetFree l (⟨"com/example/enact/enact/FeederAcceleration", "<init>", "(ILjava/util/List;)V"⟩ : MethodName) (head1 (Jvm.Cond.code (⟨"com/example/enact/enact/FeederAcceleration", "<init>", "(ILjava/util/List;)V"⟩ : MethodName) prog_36_method_1_code 5 none :: ws) ({ frames := 3, cells := 2, slots := 8, locals := 38 } : Room)) (fun a U => a = #[(.ref a1), (.int (4 : Int32)), (.ref l1)] ∧ Z.Warmed39 U.vm ∧ U.heap = h0) (fun _ _ _ _ _ => True) (fun _ U o U' => ∃ v L, o = .returned v ∧ Q_rmfa0 Z a1 l1 u0 u1 h0 n0 v U'.heap L ∧ FrameEnd U o U' L ({ frames := 3, cells := 2, slots := 8, locals := 38 } : Room).cells ({ frames := 3, cells := 2, slots := 8, locals := 38 } : Room).slots) := by
  refine MetFree.of_bodySF (plainFor_of_name pn_rmfa0) hisR ?_
  intro p e s m args_ below meth c s₁ Bd hml0 hP hK
  obtain ⟨hargs, hZ, hh⟩ := hP
  have hx := Bd.exec
  have hby := Bd.bytes
  have hml : c.maxLocals = 5 := hml0
  have hown : s.vm.findClass "com/example/enact/enact/FeederAcceleration" = some m.cls := findClass_of_methodNamed Bd.named
  have hnm := (name_of_methodNamed Bd.named Bd.method).1
  have X0 : Stand p l e ({ frames := 3, cells := 2, slots := 8, locals := 38 } : Room) s m args_ below meth c s₁ [] 0 0 := Stand.of_body Bd
  have e0 : s₁.heap = h0 := by rw [← hh, Bd.state]; rfl
  have N0 := Fr.nil n0
  have hv : ∀ (i : Nat) {d : Jvm.Cond}, tables_1[i]? = some d → d.before a0 Z = true := fun i d q => hw d (List.mem_of_getElem? q)
  have K0 : Keep h0 h0 [a1] := Keep.refl _ _
  have k0 : Go p e below m (s₁.setTop (entryFrame m args_ 5)) s₁ 0 #[.val (.ref a1), .val (.int (4 : Int32)), .val (.ref l1), .unset, .unset] [] := by rw [hargs]; exact fun t_ kt_ => castTop (ef_rmfa0 m a1 l1) kt_
  obtain ⟨W, hWW⟩ : ∃ W, W = s₁.setTop (entryFrame m args_ 5) := ⟨_, rfl⟩
  rw [← hWW] at k0 ⊢
  show Done p e below s W (Q_rmfa0 Z a1 l1 u0 u1 h0 n0) ({ frames := 3, cells := 2, slots := 8, locals := 38 } : Room).cells ({ frames := 3, cells := 2, slots := 8, locals := 38 } : Room).slots
  have k20 : Go p e below m W s₁ 1 #[.val (.ref a1), .val (.int (4 : Int32)), .val (.ref l1), .unset, .unset] [(.ref a1)] := k0.aloadN X0 hx (hb hby d_rmfa0_0) rfl rfl
  obtain ⟨T21, X21, e21, k21⟩ := k20.initO (Wd := 0) X0 hx hZ hown (by rw [hml]; rfl) (hv 33 rfl) (hv 20 rfl) (hv 21 rfl) e0 (hb hby d_rmfa0_1) (Nat.le_of_eq rfl) (by decide) (by decide)
  have k21 : Go p e below m W T21 4 #[.val (.ref a1), .val (.int (4 : Int32)), .val (.ref l1), .unset, .unset] [] := k21
  have k22 : Go p e below m W T21 6 #[.val (.ref a1), .val (.int (4 : Int32)), .val (.ref l1), .unset, .unset] [(.int (4 : Int32)), (.ref a1)] := (k21.aloadN X21 hx (hb hby d_rmfa0_4) rfl rfl).iloadN X21 hx (hb hby d_rmfa0_5) rfl
  obtain ⟨T23, h23, b23, c23, X23, e23, g23, E23, A23, k23⟩ := k22.newP (cap := 4) (cells' := 1) (slots' := 4) X21 hx hZ (hv 34 rfl) e21 (hb hby d_rmfa0_6) (by decide) (by decide) (by decide) rfl rfl (by decide) (by decide)
  have k23 : Go p e below m W T23 8 #[.val (.ref a1), .val (.int (4 : Int32)), .val (.ref l1), .unset, .unset] [(.ref b23), (.ref a1)] := k23
  have Z23 : n0 ≤ h23.size := Nat.le_trans Z0 E23.1
  have G23 : n0 ≤ b23 := g23 ▸ Z0
  have H23 : h0.size ≤ b23 := g23 ▸ K0.1
  have K23 : Keep h0 h23 [a1] := K0.ext E23
  have V23 : Arv Z h23 b23 c23 .int (4 : Int32) [(.int (0 : Int32)), (.int (0 : Int32)), (.int (0 : Int32)), (.int (0 : Int32))] (.int (0 : Int32)) := A23 4
  have g_1 := F0.ext E23
  have g_2 := E1.ext E23
  obtain ⟨T24, h24, l24, X24, e24, W24, N24, k24⟩ := k23.putF X23 hx hZ hown (host := "") (Or.inl (hv 35 rfl)) Via.refl e23 g_1 g_2 (Or.inr ⟨(hv 36 rfl), rfl, hnm⟩) (hv 28 rfl) (ty := (.array .int)) (by decide) rfl rfl N0 G1 (hb hby d_rmfa0_8)
  have k24 : Go p e below m W T24 11 #[.val (.ref a1), .val (.int (4 : Int32)), .val (.ref l1), .unset, .unset] [] := k24
  have Z24 : n0 ≤ h24.size := (Wr.size W24).symm ▸ Z23
  have K24 : Keep h0 h24 [a1] := K23.wr W24 (Or.inl (List.mem_of_getElem? (i := 0) rfl))
  have k25 : Go p e below m W T24 12 #[.val (.ref a1), .val (.int (4 : Int32)), .val (.ref l1), .unset, .unset] [(.ref a1)] := k24.aloadN X24 hx (hb hby d_rmfa0_11) rfl rfl
  have g_3 := g_1.same W24
  obtain ⟨T26, X26, e26, k26⟩ := k25.getF X24 hx hZ hown (host := "") (Or.inl (hv 35 rfl)) Via.refl e24 g_3 (hb hby d_rmfa0_12)
  have k26 : Go p e below m W T26 15 #[.val (.ref a1), .val (.int (4 : Int32)), .val (.ref l1), .unset, .unset] [(.ref b23)] := k26
  have k27 : Go p e below m W T26 16 #[.val (.ref a1), .val (.int (4 : Int32)), .val (.ref l1), .unset, .unset] [(.int (-1 : Int32)), (.ref b23)] := k26.iconst X26 hx (hb hby d_rmfa0_15) (v := (-1 : Int32)) rfl
  have g_4 := (show a1 ≠ b23 from Nat.ne_of_lt (g23 ▸ E1.lt))
  have g_5 := V23.other W24 (Ne.symm g_4)
  obtain ⟨T28, v28, L28, X28, Q28, k28⟩ := k27.stat (y := (⟨"java/util/Arrays", "fill", "([II)V"⟩ : MethodName)) (Wd := 0) (cells' := 1) (slots' := 4) (argsL := [(.ref b23), (.int (-1 : Int32))]) (rest := []) X26 hx hZ hown (by rw [hml]; rfl) (hv 37 rfl) (hv 38 rfl) (hv 40 rfl) (hv 39 rfl) (hb hby d_rmfa0_16) (by decide) (rmfi l Z a0 hw [] b23 c23 h24 n0 Z24 g_5 G23) e26 rfl rfl pd_rmfa0_0 rfl (Nat.le_of_eq rfl) (by decide) (by decide) rfl rfl (by decide) (by decide)
  obtain ⟨rfl, Nq28, Kq28, q28_0⟩ := Q28
  have N28 := Fr.app N24 Nq28
  obtain ⟨h28, e28⟩ : ∃ h, T28.heap = h := ⟨_, rfl⟩
  rw [e28] at Kq28 q28_0
  have Z28 : n0 ≤ h28.size := Nat.le_trans Z24 Kq28.1
  have K28 : Keep h0 h28 [a1] := K24.trans Kq28 (by intro x q; simp only [List.mem_cons, List.not_mem_nil, or_false] at q; rcases q with rfl; exact (Or.inr H23))
  have k28 : Go p e below m W T28 19 #[.val (.ref a1), .val (.int (4 : Int32)), .val (.ref l1), .unset, .unset] [] := k28
  have k29 : Go p e below m W T28 20 #[.val (.ref a1), .val (.int (4 : Int32)), .val (.ref l1), .unset, .unset] [(.ref l1)] := k28.aloadN X28 hx (hb hby d_rmfa0_19) rfl rfl
  have g_6 := ((El.ext E23).wr W24).keep Kq28
  have g_7 := El.ext E23
  have g_8 := (show l1 ≠ b23 from Nat.ne_of_lt (g23 ▸ El.lt))
  have g_9 := ((F2.ext E23).other W24 (Or.inl (ne_exa g_7 g_2 (by decide)))).keep Kq28 (by simp only [List.mem_cons, List.not_mem_nil, or_false, not_or]; exact g_8)
  obtain ⟨T30, v30, L30, X30, Q30, k30⟩ := k29.iface (y := (⟨"java/util/List", "iterator", "()Ljava/util/Iterator;"⟩ : MethodName)) (z := (⟨"java/util/ArrayList", "iterator", "()Ljava/util/Iterator;"⟩ : MethodName)) (Wd := 0) (cells' := 2) (slots' := 8) (argsL := []) (rest := []) X28 hx hZ hown (by rw [hml]; rfl) (hv 41 rfl) (hv 42 rfl) (mvT hZ (hv 43 rfl)) (hv 44 rfl) (hv 45 rfl) (hv 46 rfl) (hv 47 rfl) (hv 48 rfl) (hv 49 rfl) (hv 3 rfl) (hb hby d_rmfa0_20) (by decide) (rmit l Z a0 hw [] l1 (0 : Int32) h28 n0 Z28 g_6 g_9) e28 g_6 rfl rfl pd_rmfa0_1 rfl (Nat.le_of_eq rfl) (by decide) (by decide) rfl rfl (by decide) (by decide)
  obtain ⟨oi_30, rfl, Nq30, Kq30, q30_0, q30_1, q30_2, q30_3, q30_4, q30_5, q30_6⟩ := Q30
  have N30 := Fr.app N28 Nq30
  obtain ⟨h30, e30⟩ : ∃ h, T30.heap = h := ⟨_, rfl⟩
  rw [e30] at Kq30 q30_0 q30_1 q30_2 q30_3 q30_4
  have Z30 : n0 ≤ h30.size := Nat.le_trans Z28 Kq30.1
  have K30 : Keep h0 h30 [a1] := K28.trans Kq30 (fun x q => absurd q List.not_mem_nil)
  have H31 : h0.size ≤ oi_30 := Nat.le_trans K28.1 q30_6
  have k30 : Go p e below m W T30 25 #[.val (.ref a1), .val (.int (4 : Int32)), .val (.ref l1), .unset, .unset] [(.ref oi_30)] := k30
  have k32 : Go p e below m W T30 26 #[.val (.ref a1), .val (.int (4 : Int32)), .val (.ref l1), .val (.ref oi_30), .unset] [] := k30.astoreN X30 hx (hb hby d_rmfa0_25) rfl rfl
  have k33 : Go p e below m W T30 27 #[.val (.ref a1), .val (.int (4 : Int32)), .val (.ref l1), .val (.ref oi_30), .unset] [(.ref oi_30)] := k32.aloadN X30 hx (hb hby d_rmfa0_26) rfl rfl
  have g_10 := (((F3.ext E23).other W24 (Or.inl (ne_exa g_7 g_2 (by decide)))).keep Kq28 (by simp only [List.mem_cons, List.not_mem_nil, or_false, not_or]; exact g_8)).keep Kq30 (List.not_mem_nil)
  obtain ⟨T34, v34, L34, X34, Q34, k34⟩ := k33.iface (y := (⟨"java/util/Iterator", "hasNext", "()Z"⟩ : MethodName)) (z := (⟨"java/util/ArrayList$Itr", "hasNext", "()Z"⟩ : MethodName)) (Wd := 0) (cells' := 2) (slots' := 8) (argsL := []) (rest := []) X30 hx hZ hown (by rw [hml]; rfl) (hv 66 rfl) (hv 67 rfl) (mvT hZ (hv 68 rfl)) (hv 69 rfl) (hv 70 rfl) (hv 71 rfl) (hv 72 rfl) (hv 73 rfl) (hv 74 rfl) (hv 52 rfl) (hb hby d_rmfa0_27) (by decide) (rmhn00 l Z a0 hw [] oi_30 l1 h30 n0 Z30 q30_1 q30_4 g_10) e30 q30_0 rfl rfl pd_rmfa0_2 rfl (Nat.le_of_eq rfl) (by decide) (by decide) rfl rfl (by decide) (by decide)
  obtain ⟨rfl, Nq34, e34q⟩ := Q34
  have N34 := Fr.app N30 Nq34
  have e34 : T34.heap = h30 := e34q
  have k34 : Go p e below m W T34 32 #[.val (.ref a1), .val (.int (4 : Int32)), .val (.ref l1), .val (.ref oi_30), .unset] [(.int (0 : Int32))] := k34
  have k35 : Go p e below m W T34 66 #[.val (.ref a1), .val (.int (4 : Int32)), .val (.ref l1), .val (.ref oi_30), .unset] [(.ref l1), (.ref a1)] := ((k34.ifYes X34 hx (hb hby d_rmfa0_32) (XT.i0_eq_t (by decide)) (by decide) (by decide)).aloadN X34 hx (hb hby d_rmfa0_64) rfl rfl).aloadN X34 hx (hb hby d_rmfa0_65) rfl rfl
  have g_11 := g_6.keep Kq30
  obtain ⟨T36, v36, L36, X36, Q36, k36⟩ := k35.iface (y := (⟨"java/util/List", "isEmpty", "()Z"⟩ : MethodName)) (z := (⟨"java/util/ArrayList", "isEmpty", "()Z"⟩ : MethodName)) (Wd := 1) (cells' := 2) (slots' := 8) (argsL := []) (rest := [(.ref a1)]) X34 hx hZ hown (by rw [hml]; rfl) (hv 79 rfl) (hv 80 rfl) (mvT hZ (hv 81 rfl)) (hv 82 rfl) (hv 83 rfl) (hv 84 rfl) (hv 85 rfl) (hv 48 rfl) (hv 86 rfl) (hv 3 rfl) (hb hby d_rmfa0_66) (by decide) (rmem0 l Z a0 hw [] l1 h30 n0 Z30 g_10) e34 g_11 rfl rfl pd_rmfa0_2 rfl (Nat.le_of_eq rfl) (by decide) (by decide) rfl rfl (by decide) (by decide)
  obtain ⟨rfl, Nq36, e36q⟩ := Q36
  have N36 := Fr.app N34 Nq36
  have e36 : T36.heap = h30 := e36q
  have k36 : Go p e below m W T36 71 #[.val (.ref a1), .val (.int (4 : Int32)), .val (.ref l1), .val (.ref oi_30), .unset] [(.int (1 : Int32)), (.ref a1)] := k36
  have k37 : Go p e below m W T36 79 #[.val (.ref a1), .val (.int (4 : Int32)), .val (.ref l1), .val (.ref oi_30), .unset] [(.int (0 : Int32)), (.ref a1)] := (k36.ifYes X36 hx (hb hby d_rmfa0_71) (XT.i0_ne_t (by decide)) (by decide) (by decide)).iconst X36 hx (hb hby d_rmfa0_78) (v := (0 : Int32)) rfl
  have g_12 := (((F1.ext E23).other W24 (Or.inr (slot_ne (Or.inr (hv 89 rfl)) (Or.inr (hv 36 rfl)) (by decide) (by decide : parseFieldDescriptor "Z" = some .boolean) (by decide : parseFieldDescriptor "[I" = some (.array .int))))).keep Kq28 (by simp only [List.mem_cons, List.not_mem_nil, or_false, not_or]; exact g_4)).keep Kq30 (List.not_mem_nil)
  have g_13 := ((g_2.wr W24).keep Kq28).keep Kq30
  obtain ⟨T38, h38, l38, X38, e38, W38, N38, k38⟩ := k37.putF X36 hx hZ hown (host := "") (Or.inl (hv 88 rfl)) Via.refl e36 g_12 g_13 (Or.inr ⟨(hv 89 rfl), rfl, hnm⟩) (hv 28 rfl) (ty := .boolean) (by decide) (own_nz (Or.inl rfl)).1 (own_nz (Or.inl rfl)).2.1 N36 G1 (hb hby d_rmfa0_79)
  have k38 : Go p e below m W T38 82 #[.val (.ref a1), .val (.int (4 : Int32)), .val (.ref l1), .val (.ref oi_30), .unset] [] := k38
  have Z38 : n0 ≤ h38.size := (Wr.size W38).symm ▸ Z30
  have K38 : Keep h0 h38 [a1] := K30.wr W38 (Or.inl (List.mem_of_getElem? (i := 0) rfl))
  have g_14 := g_13.wr W38
  have g_15 := ((g_3.keep Kq28 (by simp only [List.mem_cons, List.not_mem_nil, or_false, not_or]; exact g_4)).keep Kq30 (List.not_mem_nil)).other W38 (Or.inr (slot_ne (Or.inr (hv 36 rfl)) (Or.inr (hv 89 rfl)) (by decide) (by decide : parseFieldDescriptor "[I" = some (.array .int)) (by decide : parseFieldDescriptor "Z" = some .boolean)))
  have g_16 := (q28_0.keep Kq30 (List.not_mem_nil)).other W38 (Ne.symm g_4)
  exact k38.return_ X38 hx Bd.returns (hb hby d_rmfa0_82) (BodyLoose.notSynchronized Bd) (by rw [e38]; exact ⟨b23, c23, rfl, N38, K38, g_14, g_15, g_16, G23, H23, g_4⟩) (by decide) (by decide)

theorem d_rmfa0_35 : decode prog_36_method_1_code 35 = .ok (.aload_n 3, 1) := by decide +kernel
theorem d_rmfa0_36 : decode prog_36_method_1_code 36 = .ok (.invokeinterface 31 1, 5) := by decide +kernel
theorem d_rmfa0_41 : decode prog_36_method_1_code 41 = .ok (.checkcast 35, 3) := by decide +kernel
theorem d_rmfa0_44 : decode prog_36_method_1_code 44 = .ok (.astore 4, 2) := by decide +kernel
theorem d_rmfa0_46 : decode prog_36_method_1_code 46 = .ok (.aload_n 0, 1) := by decide +kernel
theorem d_rmfa0_47 : decode prog_36_method_1_code 47 = .ok (.getfield 7, 3) := by decide +kernel
theorem d_rmfa0_50 : decode prog_36_method_1_code 50 = .ok (.aload 4, 2) := by decide +kernel
theorem d_rmfa0_52 : decode prog_36_method_1_code 52 = .ok (.invokevirtual 37, 3) := by decide +kernel
theorem d_rmfa0_55 : decode prog_36_method_1_code 55 = .ok (.aload 4, 2) := by decide +kernel
theorem d_rmfa0_57 : decode prog_36_method_1_code 57 = .ok (.invokevirtual 41, 3) := by decide +kernel
theorem d_rmfa0_60 : decode prog_36_method_1_code 60 = .ok (.iastore, 1) := by decide +kernel
theorem d_rmfa0_61 : decode prog_36_method_1_code 61 = .ok (.goto (-35), 3) := by decide +kernel
theorem d_rmfa0_74 : decode prog_36_method_1_code 74 = .ok (.iconst 1, 1) := by decide +kernel
theorem d_rmfa0_75 : decode prog_36_method_1_code 75 = .ok (.goto 4, 3) := by decide +kernel
theorem pd_rmfa1_3 : parseMethodDescriptor "()Ljava/lang/Object;" = some ⟨[], (some (.object "java/lang/Object"))⟩ := by decide +kernel
theorem pd_rmfa1_4 : parseMethodDescriptor "()I" = some ⟨[], (some .int)⟩ := by decide +kernel
theorem ef_rmfa1 (m : MethodId) (a1 : Addr) (l1 : Addr) : entryFrame m #[(.ref a1), (.int (4 : Int32)), (.ref l1)] 5 = mkF m 0 #[.val (.ref a1), .val (.int (4 : Int32)), .val (.ref l1), .unset, .unset] [] := by first | (simp [entryFrame, mkF, argsToLocals, Value.category]; done) | rfl
def Q_rmfa1 (Z : State) (a1 : Addr) (l1 : Addr) (u0 : Value) (u1 : Value) (d1 : Addr) (k1 : ClassId) (x0 : Addr) (f0 : Int32) (q0 : Int32) (h0 : Heap) (n0 : Nat) (v : Option Value) (h : Heap) (L : List Loc) : Prop := ∃ (of : Addr) (okf : ClassId), v = none ∧ Fr n0 L ∧ Keep h0 h [a1] ∧ Exa Z h a1 "com/example/enact/enact/FeederAcceleration" ∧ Fld Z h a1 "com/example/enact/enact/FeederAcceleration" "fed" "[I" (.ref of) ∧ Arv Z h of okf .int (4 : Int32) [(.int (own_e1 f0 q0 (0 : Int32))), (.int (own_e1 f0 q0 (1 : Int32))), (.int (own_e1 f0 q0 (2 : Int32))), (.int (own_e1 f0 q0 (3 : Int32)))] (.int (0 : Int32)) ∧ n0 ≤ of ∧ h0.size ≤ of ∧ a1 ≠ of
set_option maxRecDepth 65536 in
set_option maxHeartbeats 40000000 in
theorem rmfa1 (l : Launch) (Z : State) (a0 : Array Value) (hw : ∀ d ∈ tables_1, d.before a0 Z = true) (ws : List Jvm.Cond) (a1 : Addr) (l1 : Addr) (u0 : Value) (u1 : Value) (d1 : Addr) (k1 : ClassId) (x0 : Addr) (f0 : Int32) (q0 : Int32) (h0 : Heap) (n0 : Nat) (Z0 : n0 ≤ h0.size) (E1 : Exa Z h0 a1 "com/example/enact/enact/FeederAcceleration") (G1 : n0 ≤ a1) (F0 : Fld Z h0 a1 "com/example/enact/enact/FeederAcceleration" "fed" "[I" u0) (F1 : Fld Z h0 a1 "com/example/enact/enact/FeederAcceleration" "accelerates" "Z" u1) (El : Exa Z h0 l1 "java/util/ArrayList") (F2 : Fld Z h0 l1 "java/util/AbstractList" "modCount" "I" (.int (1 : Int32))) (F3 : Fld Z h0 l1 "java/util/ArrayList" "size" "I" (.int (1 : Int32))) (F4 : Fld Z h0 l1 "java/util/ArrayList" "elementData" "[Ljava/lang/Object;" (.ref d1)) (V1 : Arv Z h0 d1 k1 (.object "java/lang/Object") (10 : Int32) [(.ref x0), .null, .null, .null, .null, .null, .null, .null, .null, .null] .null) (nda : d1 ≠ a1) (nla : l1 ≠ a1) (Ex0 : Exa Z h0 x0 "com/example/enact/enact/Classification$Flat") (Fp0 : Fld Z h0 x0 "com/example/enact/enact/Classification$Flat" "place" "I" (.int q0)) (Ff0 : Fld Z h0 x0 "com/example/enact/enact/Classification$Flat" "feeder" "I" (.int f0)) (B0 : f0 = (0 : Int32) ∨ f0 = (1 : Int32) ∨ f0 = (2 : Int32) ∨ f0 = (3 : Int32)) (nx0 : x0 ≠ a1) :
    MetFree l (⟨"com/example/enact/enact/FeederAcceleration", "<init>", "(ILjava/util/List;)V"⟩ : MethodName) (head1 (Jvm.Cond.code (⟨"com/example/enact/enact/FeederAcceleration", "<init>", "(ILjava/util/List;)V"⟩ : MethodName) prog_36_method_1_code 5 none :: ws) ({ frames := 3, cells := 2, slots := 8, locals := 38 } : Room)) (fun a U => a = #[(.ref a1), (.int (4 : Int32)), (.ref l1)] ∧ Z.Warmed39 U.vm ∧ U.heap = h0) (fun _ _ _ _ _ => True) (fun _ U o U' => ∃ v L, o = .returned v ∧ Q_rmfa1 Z a1 l1 u0 u1 d1 k1 x0 f0 q0 h0 n0 v U'.heap L ∧ FrameEnd U o U' L ({ frames := 3, cells := 2, slots := 8, locals := 38 } : Room).cells ({ frames := 3, cells := 2, slots := 8, locals := 38 } : Room).slots) := by
  refine MetFree.of_bodySF (plainFor_of_name pn_rmfa0) hisR ?_
  intro p e s m args_ below meth c s₁ Bd hml0 hP hK
  obtain ⟨hargs, hZ, hh⟩ := hP
  have hx := Bd.exec
  have hby := Bd.bytes
  have hml : c.maxLocals = 5 := hml0
  have hown : s.vm.findClass "com/example/enact/enact/FeederAcceleration" = some m.cls := findClass_of_methodNamed Bd.named
  have hnm := (name_of_methodNamed Bd.named Bd.method).1
  have X0 : Stand p l e ({ frames := 3, cells := 2, slots := 8, locals := 38 } : Room) s m args_ below meth c s₁ [] 0 0 := Stand.of_body Bd
  have e0 : s₁.heap = h0 := by rw [← hh, Bd.state]; rfl
  have N0 := Fr.nil n0
  have hv : ∀ (i : Nat) {d : Jvm.Cond}, tables_1[i]? = some d → d.before a0 Z = true := fun i d q => hw d (List.mem_of_getElem? q)
  have K0 : Keep h0 h0 [a1] := Keep.refl _ _
  have k0 : Go p e below m (s₁.setTop (entryFrame m args_ 5)) s₁ 0 #[.val (.ref a1), .val (.int (4 : Int32)), .val (.ref l1), .unset, .unset] [] := by rw [hargs]; exact fun t_ kt_ => castTop (ef_rmfa1 m a1 l1) kt_
  obtain ⟨W, hWW⟩ : ∃ W, W = s₁.setTop (entryFrame m args_ 5) := ⟨_, rfl⟩
  rw [← hWW] at k0 ⊢
  show Done p e below s W (Q_rmfa1 Z a1 l1 u0 u1 d1 k1 x0 f0 q0 h0 n0) ({ frames := 3, cells := 2, slots := 8, locals := 38 } : Room).cells ({ frames := 3, cells := 2, slots := 8, locals := 38 } : Room).slots
  have k20 : Go p e below m W s₁ 1 #[.val (.ref a1), .val (.int (4 : Int32)), .val (.ref l1), .unset, .unset] [(.ref a1)] := k0.aloadN X0 hx (hb hby d_rmfa0_0) rfl rfl
  obtain ⟨T21, X21, e21, k21⟩ := k20.initO (Wd := 0) X0 hx hZ hown (by rw [hml]; rfl) (hv 33 rfl) (hv 20 rfl) (hv 21 rfl) e0 (hb hby d_rmfa0_1) (Nat.le_of_eq rfl) (by decide) (by decide)
  have k21 : Go p e below m W T21 4 #[.val (.ref a1), .val (.int (4 : Int32)), .val (.ref l1), .unset, .unset] [] := k21
  have k22 : Go p e below m W T21 6 #[.val (.ref a1), .val (.int (4 : Int32)), .val (.ref l1), .unset, .unset] [(.int (4 : Int32)), (.ref a1)] := (k21.aloadN X21 hx (hb hby d_rmfa0_4) rfl rfl).iloadN X21 hx (hb hby d_rmfa0_5) rfl
  obtain ⟨T23, h23, b23, c23, X23, e23, g23, E23, A23, k23⟩ := k22.newP (cap := 4) (cells' := 1) (slots' := 4) X21 hx hZ (hv 34 rfl) e21 (hb hby d_rmfa0_6) (by decide) (by decide) (by decide) rfl rfl (by decide) (by decide)
  have k23 : Go p e below m W T23 8 #[.val (.ref a1), .val (.int (4 : Int32)), .val (.ref l1), .unset, .unset] [(.ref b23), (.ref a1)] := k23
  have Z23 : n0 ≤ h23.size := Nat.le_trans Z0 E23.1
  have G23 : n0 ≤ b23 := g23 ▸ Z0
  have H23 : h0.size ≤ b23 := g23 ▸ K0.1
  have K23 : Keep h0 h23 [a1] := K0.ext E23
  have V23 : Arv Z h23 b23 c23 .int (4 : Int32) [(.int (0 : Int32)), (.int (0 : Int32)), (.int (0 : Int32)), (.int (0 : Int32))] (.int (0 : Int32)) := A23 4
  have g_1 := F0.ext E23
  have g_2 := E1.ext E23
  obtain ⟨T24, h24, l24, X24, e24, W24, N24, k24⟩ := k23.putF X23 hx hZ hown (host := "") (Or.inl (hv 35 rfl)) Via.refl e23 g_1 g_2 (Or.inr ⟨(hv 36 rfl), rfl, hnm⟩) (hv 28 rfl) (ty := (.array .int)) (by decide) rfl rfl N0 G1 (hb hby d_rmfa0_8)
  have k24 : Go p e below m W T24 11 #[.val (.ref a1), .val (.int (4 : Int32)), .val (.ref l1), .unset, .unset] [] := k24
  have Z24 : n0 ≤ h24.size := (Wr.size W24).symm ▸ Z23
  have K24 : Keep h0 h24 [a1] := K23.wr W24 (Or.inl (List.mem_of_getElem? (i := 0) rfl))
  have k25 : Go p e below m W T24 12 #[.val (.ref a1), .val (.int (4 : Int32)), .val (.ref l1), .unset, .unset] [(.ref a1)] := k24.aloadN X24 hx (hb hby d_rmfa0_11) rfl rfl
  have g_3 := g_1.same W24
  obtain ⟨T26, X26, e26, k26⟩ := k25.getF X24 hx hZ hown (host := "") (Or.inl (hv 35 rfl)) Via.refl e24 g_3 (hb hby d_rmfa0_12)
  have k26 : Go p e below m W T26 15 #[.val (.ref a1), .val (.int (4 : Int32)), .val (.ref l1), .unset, .unset] [(.ref b23)] := k26
  have k27 : Go p e below m W T26 16 #[.val (.ref a1), .val (.int (4 : Int32)), .val (.ref l1), .unset, .unset] [(.int (-1 : Int32)), (.ref b23)] := k26.iconst X26 hx (hb hby d_rmfa0_15) (v := (-1 : Int32)) rfl
  have g_4 := (show a1 ≠ b23 from Nat.ne_of_lt (g23 ▸ E1.lt))
  have g_5 := V23.other W24 (Ne.symm g_4)
  obtain ⟨T28, v28, L28, X28, Q28, k28⟩ := k27.stat (y := (⟨"java/util/Arrays", "fill", "([II)V"⟩ : MethodName)) (Wd := 0) (cells' := 1) (slots' := 4) (argsL := [(.ref b23), (.int (-1 : Int32))]) (rest := []) X26 hx hZ hown (by rw [hml]; rfl) (hv 37 rfl) (hv 38 rfl) (hv 40 rfl) (hv 39 rfl) (hb hby d_rmfa0_16) (by decide) (rmfi l Z a0 hw [] b23 c23 h24 n0 Z24 g_5 G23) e26 rfl rfl pd_rmfa0_0 rfl (Nat.le_of_eq rfl) (by decide) (by decide) rfl rfl (by decide) (by decide)
  obtain ⟨rfl, Nq28, Kq28, q28_0⟩ := Q28
  have N28 := Fr.app N24 Nq28
  obtain ⟨h28, e28⟩ : ∃ h, T28.heap = h := ⟨_, rfl⟩
  rw [e28] at Kq28 q28_0
  have Z28 : n0 ≤ h28.size := Nat.le_trans Z24 Kq28.1
  have K28 : Keep h0 h28 [a1] := K24.trans Kq28 (by intro x q; simp only [List.mem_cons, List.not_mem_nil, or_false] at q; rcases q with rfl; exact (Or.inr H23))
  have k28 : Go p e below m W T28 19 #[.val (.ref a1), .val (.int (4 : Int32)), .val (.ref l1), .unset, .unset] [] := k28
  have k29 : Go p e below m W T28 20 #[.val (.ref a1), .val (.int (4 : Int32)), .val (.ref l1), .unset, .unset] [(.ref l1)] := k28.aloadN X28 hx (hb hby d_rmfa0_19) rfl rfl
  have g_6 := ((El.ext E23).wr W24).keep Kq28
  have g_7 := (show l1 ≠ b23 from Nat.ne_of_lt (g23 ▸ El.lt))
  have g_8 := ((F2.ext E23).other W24 (Or.inl nla)).keep Kq28 (by simp only [List.mem_cons, List.not_mem_nil, or_false, not_or]; exact g_7)
  obtain ⟨T30, v30, L30, X30, Q30, k30⟩ := k29.iface (y := (⟨"java/util/List", "iterator", "()Ljava/util/Iterator;"⟩ : MethodName)) (z := (⟨"java/util/ArrayList", "iterator", "()Ljava/util/Iterator;"⟩ : MethodName)) (Wd := 0) (cells' := 2) (slots' := 8) (argsL := []) (rest := []) X28 hx hZ hown (by rw [hml]; rfl) (hv 41 rfl) (hv 42 rfl) (mvT hZ (hv 43 rfl)) (hv 44 rfl) (hv 45 rfl) (hv 46 rfl) (hv 47 rfl) (hv 48 rfl) (hv 49 rfl) (hv 3 rfl) (hb hby d_rmfa0_20) (by decide) (rmit l Z a0 hw [] l1 (1 : Int32) h28 n0 Z28 g_6 g_8) e28 g_6 rfl rfl pd_rmfa0_1 rfl (Nat.le_of_eq rfl) (by decide) (by decide) rfl rfl (by decide) (by decide)
  obtain ⟨oi_30, rfl, Nq30, Kq30, q30_0, q30_1, q30_2, q30_3, q30_4, q30_5, q30_6⟩ := Q30
  have N30 := Fr.app N28 Nq30
  obtain ⟨h30, e30⟩ : ∃ h, T30.heap = h := ⟨_, rfl⟩
  rw [e30] at Kq30 q30_0 q30_1 q30_2 q30_3 q30_4
  have Z30 : n0 ≤ h30.size := Nat.le_trans Z28 Kq30.1
  have K30 : Keep h0 h30 [a1] := K28.trans Kq30 (fun x q => absurd q List.not_mem_nil)
  have H31 : h0.size ≤ oi_30 := Nat.le_trans K28.1 q30_6
  have k30 : Go p e below m W T30 25 #[.val (.ref a1), .val (.int (4 : Int32)), .val (.ref l1), .unset, .unset] [(.ref oi_30)] := k30
  have k32 : Go p e below m W T30 26 #[.val (.ref a1), .val (.int (4 : Int32)), .val (.ref l1), .val (.ref oi_30), .unset] [] := k30.astoreN X30 hx (hb hby d_rmfa0_25) rfl rfl
  have k33 : Go p e below m W T30 27 #[.val (.ref a1), .val (.int (4 : Int32)), .val (.ref l1), .val (.ref oi_30), .unset] [(.ref oi_30)] := k32.aloadN X30 hx (hb hby d_rmfa0_26) rfl rfl
  have g_9 := (((F3.ext E23).other W24 (Or.inl nla)).keep Kq28 (by simp only [List.mem_cons, List.not_mem_nil, or_false, not_or]; exact g_7)).keep Kq30 (List.not_mem_nil)
  obtain ⟨T34, v34, L34, X34, Q34, k34⟩ := k33.iface (y := (⟨"java/util/Iterator", "hasNext", "()Z"⟩ : MethodName)) (z := (⟨"java/util/ArrayList$Itr", "hasNext", "()Z"⟩ : MethodName)) (Wd := 0) (cells' := 2) (slots' := 8) (argsL := []) (rest := []) X30 hx hZ hown (by rw [hml]; rfl) (hv 66 rfl) (hv 67 rfl) (mvT hZ (hv 68 rfl)) (hv 69 rfl) (hv 70 rfl) (hv 71 rfl) (hv 72 rfl) (hv 73 rfl) (hv 74 rfl) (hv 52 rfl) (hb hby d_rmfa0_27) (by decide) (rmhn01 l Z a0 hw [] oi_30 l1 h30 n0 Z30 q30_1 q30_4 g_9) e30 q30_0 rfl rfl pd_rmfa0_2 rfl (Nat.le_of_eq rfl) (by decide) (by decide) rfl rfl (by decide) (by decide)
  obtain ⟨rfl, Nq34, e34q⟩ := Q34
  have N34 := Fr.app N30 Nq34
  have e34 : T34.heap = h30 := e34q
  have k34 : Go p e below m W T34 32 #[.val (.ref a1), .val (.int (4 : Int32)), .val (.ref l1), .val (.ref oi_30), .unset] [(.int (1 : Int32))] := k34
  have k35 : Go p e below m W T34 36 #[.val (.ref a1), .val (.int (4 : Int32)), .val (.ref l1), .val (.ref oi_30), .unset] [(.ref oi_30)] := (k34.ifNo X34 hx (hb hby d_rmfa0_32) (XT.i0_eq_f (by decide))).aloadN X34 hx (hb hby d_rmfa0_35) rfl rfl
  have g_10 := g_8.keep Kq30 (List.not_mem_nil)
  have g_11 := (((F4.ext E23).other W24 (Or.inl nla)).keep Kq28 (by simp only [List.mem_cons, List.not_mem_nil, or_false, not_or]; exact g_7)).keep Kq30 (List.not_mem_nil)
  have g_12 := (show d1 ≠ b23 from Nat.ne_of_lt (g23 ▸ V1.lt))
  have g_13 := (((V1.ext E23).other W24 nda).keep Kq28 (by simp only [List.mem_cons, List.not_mem_nil, or_false, not_or]; exact g_12)).keep Kq30 (List.not_mem_nil)
  have g_14 := (show l1 ≠ oi_30 from Nat.ne_of_lt (Nat.lt_of_lt_of_le g_6.lt q30_6))
  have g_15 := ((V1.ext E23).other W24 nda).keep Kq28 (by simp only [List.mem_cons, List.not_mem_nil, or_false, not_or]; exact g_12)
  have g_16 := (show d1 ≠ oi_30 from Nat.ne_of_lt (Nat.lt_of_lt_of_le g_15.lt q30_6))
  obtain ⟨T36, v36, L36, X36, Q36, k36⟩ := k35.iface (y := (⟨"java/util/Iterator", "next", "()Ljava/lang/Object;"⟩ : MethodName)) (z := (⟨"java/util/ArrayList$Itr", "next", "()Ljava/lang/Object;"⟩ : MethodName)) (Wd := 0) (cells' := 2) (slots' := 8) (argsL := []) (rest := []) X34 hx hZ hown (by rw [hml]; rfl) (hv 144 rfl) (hv 145 rfl) (mvT hZ (hv 146 rfl)) (hv 147 rfl) (hv 148 rfl) (hv 149 rfl) (hv 150 rfl) (hv 73 rfl) (hv 151 rfl) (hv 52 rfl) (hb hby d_rmfa0_36) (by decide) (rmnx01 l Z a0 hw [] oi_30 l1 d1 k1 (1 : Int32) (.int (-1 : Int32)) x0 h30 n0 Z30 q30_0 q30_5 q30_1 q30_2 q30_3 q30_4 g_10 g_9 g_11 g_13 g_14 g_16) e34 q30_0 rfl rfl pd_rmfa1_3 rfl (Nat.le_of_eq rfl) (by decide) (by decide) rfl rfl (by decide) (by decide)
  obtain ⟨rfl, Nq36, Kq36, q36_0, q36_1, q36_2, q36_3, q36_4⟩ := Q36
  have N36 := Fr.app N34 Nq36
  obtain ⟨h36, e36⟩ : ∃ h, T36.heap = h := ⟨_, rfl⟩
  rw [e36] at Kq36 q36_0 q36_1 q36_2 q36_3 q36_4
  have Z36 : n0 ≤ h36.size := Nat.le_trans Z30 Kq36.1
  have K36 : Keep h0 h36 [a1] := K30.trans Kq36 (by intro x q; simp only [List.mem_cons, List.not_mem_nil, or_false] at q; rcases q with rfl; exact (Or.inr H31))
  have k36 : Go p e below m W T36 41 #[.val (.ref a1), .val (.int (4 : Int32)), .val (.ref l1), .val (.ref oi_30), .unset] [(.ref x0)] := k36
  have g_17 := ((((Ex0.ext E23).wr W24).keep Kq28).keep Kq30).keep Kq36
  obtain ⟨T37, X37, e37, k37⟩ := k36.castY X36 hx hZ hown (hv 158 rfl) e36 (Ins.self g_17) (hb hby d_rmfa0_41)
  have k37 : Go p e below m W T37 44 #[.val (.ref a1), .val (.int (4 : Int32)), .val (.ref l1), .val (.ref oi_30), .unset] [(.ref x0)] := k37
  have k38 : Go p e below m W T37 46 #[.val (.ref a1), .val (.int (4 : Int32)), .val (.ref l1), .val (.ref oi_30), .val (.ref x0)] [] := k37.astore X37 hx (hb hby d_rmfa0_44) rfl rfl
  have k39 : Go p e below m W T37 47 #[.val (.ref a1), .val (.int (4 : Int32)), .val (.ref l1), .val (.ref oi_30), .val (.ref x0)] [(.ref a1)] := k38.aloadN X37 hx (hb hby d_rmfa0_46) rfl rfl
  have g_18 := (g_2.wr W24).keep Kq28
  have g_19 := (show a1 ≠ oi_30 from Nat.ne_of_lt (Nat.lt_of_lt_of_le g_18.lt q30_6))
  have g_20 := ((g_3.keep Kq28 (by simp only [List.mem_cons, List.not_mem_nil, or_false, not_or]; exact g_4)).keep Kq30 (List.not_mem_nil)).keep Kq36 (by simp only [List.mem_cons, List.not_mem_nil, or_false, not_or]; exact g_19)
  obtain ⟨T40, X40, e40, k40⟩ := k39.getF X37 hx hZ hown (host := "") (Or.inl (hv 35 rfl)) Via.refl e37 g_20 (hb hby d_rmfa0_47)
  have k40 : Go p e below m W T40 50 #[.val (.ref a1), .val (.int (4 : Int32)), .val (.ref l1), .val (.ref oi_30), .val (.ref x0)] [(.ref b23)] := k40
  have k41 : Go p e below m W T40 52 #[.val (.ref a1), .val (.int (4 : Int32)), .val (.ref l1), .val (.ref oi_30), .val (.ref x0)] [(.ref x0), (.ref b23)] := k40.aload X40 hx (hb hby d_rmfa0_50) rfl rfl
  have g_21 := (show x0 ≠ b23 from Nat.ne_of_lt (g23 ▸ Ex0.lt))
  have g_22 := ((Ex0.ext E23).wr W24).keep Kq28
  have g_23 := (show x0 ≠ oi_30 from Nat.ne_of_lt (Nat.lt_of_lt_of_le g_22.lt q30_6))
  have g_24 := ((((Ff0.ext E23).other W24 (Or.inl nx0)).keep Kq28 (by simp only [List.mem_cons, List.not_mem_nil, or_false, not_or]; exact g_21)).keep Kq30 (List.not_mem_nil)).keep Kq36 (by simp only [List.mem_cons, List.not_mem_nil, or_false, not_or]; exact g_23)
  obtain ⟨T42, v42, L42, X42, Q42, k42⟩ := k41.virt (y := (⟨"com/example/enact/enact/Classification$Flat", "feeder", "()I"⟩ : MethodName)) (z := (⟨"com/example/enact/enact/Classification$Flat", "feeder", "()I"⟩ : MethodName)) (Wd := 1) (cells' := 2) (slots' := 8) (argsL := []) (rest := [(.ref b23)]) X40 hx hZ hown (by rw [hml]; rfl) (hv 160 rfl) (hv 161 rfl) (notFace_of_selects (args := #[]) (mvT hZ (hv 163 rfl))) (hv 163 rfl) (hv 162 rfl) (hv 164 rfl) (hv 97 rfl) (hb hby d_rmfa0_52) (by decide) (rmfe l Z a0 hw [] x0 f0 h36 n0 Z36 g_24) e40 g_17 rfl rfl pd_rmfa1_4 rfl (Nat.le_of_eq rfl) (by decide) (by decide) rfl rfl (by decide) (by decide)
  obtain ⟨rfl, Nq42, e42q⟩ := Q42
  have N42 := Fr.app N36 Nq42
  have e42 : T42.heap = h36 := e42q
  have k42 : Go p e below m W T42 55 #[.val (.ref a1), .val (.int (4 : Int32)), .val (.ref l1), .val (.ref oi_30), .val (.ref x0)] [(.int f0), (.ref b23)] := k42
  have k43 : Go p e below m W T42 57 #[.val (.ref a1), .val (.int (4 : Int32)), .val (.ref l1), .val (.ref oi_30), .val (.ref x0)] [(.ref x0), (.int f0), (.ref b23)] := k42.aload X42 hx (hb hby d_rmfa0_55) rfl rfl
  have g_25 := ((((Fp0.ext E23).other W24 (Or.inl nx0)).keep Kq28 (by simp only [List.mem_cons, List.not_mem_nil, or_false, not_or]; exact g_21)).keep Kq30 (List.not_mem_nil)).keep Kq36 (by simp only [List.mem_cons, List.not_mem_nil, or_false, not_or]; exact g_23)
  obtain ⟨T44, v44, L44, X44, Q44, k44⟩ := k43.virt (y := (⟨"com/example/enact/enact/Classification$Flat", "place", "()I"⟩ : MethodName)) (z := (⟨"com/example/enact/enact/Classification$Flat", "place", "()I"⟩ : MethodName)) (Wd := 2) (cells' := 2) (slots' := 8) (argsL := []) (rest := [(.int f0), (.ref b23)]) X42 hx hZ hown (by rw [hml]; rfl) (hv 165 rfl) (hv 166 rfl) (notFace_of_selects (args := #[]) (mvT hZ (hv 168 rfl))) (hv 168 rfl) (hv 167 rfl) (hv 169 rfl) (hv 97 rfl) (hb hby d_rmfa0_57) (by decide) (rmfp l Z a0 hw [] x0 q0 h36 n0 Z36 g_25) e42 g_17 rfl rfl pd_rmfa1_4 rfl (Nat.le_of_eq rfl) (by decide) (by decide) rfl rfl (by decide) (by decide)
  obtain ⟨rfl, Nq44, e44q⟩ := Q44
  have N44 := Fr.app N42 Nq44
  have e44 : T44.heap = h36 := e44q
  have k44 : Go p e below m W T44 60 #[.val (.ref a1), .val (.int (4 : Int32)), .val (.ref l1), .val (.ref oi_30), .val (.ref x0)] [(.int q0), (.int f0), (.ref b23)] := k44
  rcases B0 with q45 | q46 | q47 | q48
  ·
    subst f0
    have g_26 := (show b23 ≠ oi_30 from Nat.ne_of_lt (Nat.lt_of_lt_of_le q28_0.lt q30_6))
    have g_27 := (q28_0.keep Kq30 (List.not_mem_nil)).keep Kq36 (by simp only [List.mem_cons, List.not_mem_nil, or_false, not_or]; exact g_26)
    obtain ⟨T49, h49, l49, X49, e49, W49, V49, N49, k49⟩ := k44.iastore (i := 0) X44 hx hZ e44 g_27 rfl rfl (by decide) (Nat.le_of_ble_eq_true rfl) N44 G23 (hb hby d_rmfa0_60)
    have k49 : Go p e below m W T49 61 #[.val (.ref a1), .val (.int (4 : Int32)), .val (.ref l1), .val (.ref oi_30), .val (.ref x0)] [] := k49
    have Z49 : n0 ≤ h49.size := (Wr.size W49).symm ▸ Z36
    have V49 : Arv Z h49 b23 c23 .int (4 : Int32) [(.int q0), (.int (-1 : Int32)), (.int (-1 : Int32)), (.int (-1 : Int32))] (.int (0 : Int32)) := V49
    have K49 : Keep h0 h49 [a1] := K36.wr W49 (Or.inr H23)
    have k50 : Go p e below m W T49 27 #[.val (.ref a1), .val (.int (4 : Int32)), .val (.ref l1), .val (.ref oi_30), .val (.ref x0)] [(.ref oi_30)] := (k49.goto X49 hx (hb hby d_rmfa0_61) (by decide) (by decide)).aloadN X49 hx (hb hby d_rmfa0_26) rfl rfl
    have g_28 := q36_1.other W49 (Or.inl (Ne.symm g_26))
    have g_29 := q36_4.other W49 (Or.inl (Ne.symm g_26))
    have g_30 := (g_9.keep Kq36 (by simp only [List.mem_cons, List.not_mem_nil, or_false, not_or]; exact g_14)).other W49 (Or.inl g_7)
    have g_31 := q36_0.wr W49
    obtain ⟨T51, v51, L51, X51, Q51, k51⟩ := k50.iface (y := (⟨"java/util/Iterator", "hasNext", "()Z"⟩ : MethodName)) (z := (⟨"java/util/ArrayList$Itr", "hasNext", "()Z"⟩ : MethodName)) (Wd := 0) (cells' := 2) (slots' := 8) (argsL := []) (rest := []) X49 hx hZ hown (by rw [hml]; rfl) (hv 66 rfl) (hv 67 rfl) (mvT hZ (hv 68 rfl)) (hv 69 rfl) (hv 70 rfl) (hv 71 rfl) (hv 72 rfl) (hv 73 rfl) (hv 74 rfl) (hv 52 rfl) (hb hby d_rmfa0_27) (by decide) (rmhn11 l Z a0 hw [] oi_30 l1 h49 n0 Z49 g_28 g_29 g_30) e49 g_31 rfl rfl pd_rmfa0_2 rfl (Nat.le_of_eq rfl) (by decide) (by decide) rfl rfl (by decide) (by decide)
    obtain ⟨rfl, Nq51, e51q⟩ := Q51
    have N51 := Fr.app N49 Nq51
    have e51 : T51.heap = h49 := e51q
    have k51 : Go p e below m W T51 32 #[.val (.ref a1), .val (.int (4 : Int32)), .val (.ref l1), .val (.ref oi_30), .val (.ref x0)] [(.int (0 : Int32))] := k51
    have k52 : Go p e below m W T51 66 #[.val (.ref a1), .val (.int (4 : Int32)), .val (.ref l1), .val (.ref oi_30), .val (.ref x0)] [(.ref l1), (.ref a1)] := ((k51.ifYes X51 hx (hb hby d_rmfa0_32) (XT.i0_eq_t (by decide)) (by decide) (by decide)).aloadN X51 hx (hb hby d_rmfa0_64) rfl rfl).aloadN X51 hx (hb hby d_rmfa0_65) rfl rfl
    have g_32 := ((g_6.keep Kq30).keep Kq36).wr W49
    obtain ⟨T53, v53, L53, X53, Q53, k53⟩ := k52.iface (y := (⟨"java/util/List", "isEmpty", "()Z"⟩ : MethodName)) (z := (⟨"java/util/ArrayList", "isEmpty", "()Z"⟩ : MethodName)) (Wd := 1) (cells' := 2) (slots' := 8) (argsL := []) (rest := [(.ref a1)]) X51 hx hZ hown (by rw [hml]; rfl) (hv 79 rfl) (hv 80 rfl) (mvT hZ (hv 81 rfl)) (hv 82 rfl) (hv 83 rfl) (hv 84 rfl) (hv 85 rfl) (hv 48 rfl) (hv 86 rfl) (hv 3 rfl) (hb hby d_rmfa0_66) (by decide) (rmem1 l Z a0 hw [] l1 h49 n0 Z49 g_30) e51 g_32 rfl rfl pd_rmfa0_2 rfl (Nat.le_of_eq rfl) (by decide) (by decide) rfl rfl (by decide) (by decide)
    obtain ⟨rfl, Nq53, e53q⟩ := Q53
    have N53 := Fr.app N51 Nq53
    have e53 : T53.heap = h49 := e53q
    have k53 : Go p e below m W T53 71 #[.val (.ref a1), .val (.int (4 : Int32)), .val (.ref l1), .val (.ref oi_30), .val (.ref x0)] [(.int (0 : Int32)), (.ref a1)] := k53
    have k54 : Go p e below m W T53 79 #[.val (.ref a1), .val (.int (4 : Int32)), .val (.ref l1), .val (.ref oi_30), .val (.ref x0)] [(.int (1 : Int32)), (.ref a1)] := ((k53.ifNo X53 hx (hb hby d_rmfa0_71) (XT.i0_ne_f (by decide))).iconst X53 hx (hb hby d_rmfa0_74) (v := (1 : Int32)) rfl).goto X53 hx (hb hby d_rmfa0_75) (by decide) (by decide)
    have g_33 := (((((F1.ext E23).other W24 (Or.inr (slot_ne (Or.inr (hv 89 rfl)) (Or.inr (hv 36 rfl)) (by decide) (by decide : parseFieldDescriptor "Z" = some .boolean) (by decide : parseFieldDescriptor "[I" = some (.array .int))))).keep Kq28 (by simp only [List.mem_cons, List.not_mem_nil, or_false, not_or]; exact g_4)).keep Kq30 (List.not_mem_nil)).keep Kq36 (by simp only [List.mem_cons, List.not_mem_nil, or_false, not_or]; exact g_19)).other W49 (Or.inl g_4)
    have g_34 := ((g_18.keep Kq30).keep Kq36).wr W49
    obtain ⟨T55, h55, l55, X55, e55, W55, N55, k55⟩ := k54.putF X53 hx hZ hown (host := "") (Or.inl (hv 88 rfl)) Via.refl e53 g_33 g_34 (Or.inr ⟨(hv 89 rfl), rfl, hnm⟩) (hv 28 rfl) (ty := .boolean) (by decide) (own_nz (Or.inr rfl)).1 (own_nz (Or.inr rfl)).2.1 N53 G1 (hb hby d_rmfa0_79)
    have k55 : Go p e below m W T55 82 #[.val (.ref a1), .val (.int (4 : Int32)), .val (.ref l1), .val (.ref oi_30), .val (.ref x0)] [] := k55
    have Z55 : n0 ≤ h55.size := (Wr.size W55).symm ▸ Z49
    have K55 : Keep h0 h55 [a1] := K49.wr W55 (Or.inl (List.mem_of_getElem? (i := 0) rfl))
    have g_35 := g_34.wr W55
    have g_36 := (g_20.other W49 (Or.inl g_4)).other W55 (Or.inr (slot_ne (Or.inr (hv 36 rfl)) (Or.inr (hv 89 rfl)) (by decide) (by decide : parseFieldDescriptor "[I" = some (.array .int)) (by decide : parseFieldDescriptor "Z" = some .boolean)))
    have g_37 := V49.other W55 (Ne.symm g_4)
    exact k55.return_ X55 hx Bd.returns (hb hby d_rmfa0_82) (BodyLoose.notSynchronized Bd) (by rw [e55]; exact ⟨b23, c23, rfl, N55, K55, g_35, g_36, (own_cv4 g_37 (by first | rfl | (simp [own_e1, own_e2]; done)) (by first | rfl | (simp [own_e1, own_e2]; done)) (by first | rfl | (simp [own_e1, own_e2]; done)) (by first | rfl | (simp [own_e1, own_e2]; done))), G23, H23, g_4⟩) (by decide) (by decide)
  ·
    subst f0
    have g_38 := (show b23 ≠ oi_30 from Nat.ne_of_lt (Nat.lt_of_lt_of_le q28_0.lt q30_6))
    have g_39 := (q28_0.keep Kq30 (List.not_mem_nil)).keep Kq36 (by simp only [List.mem_cons, List.not_mem_nil, or_false, not_or]; exact g_38)
    obtain ⟨T56, h56, l56, X56, e56, W56, V56, N56, k56⟩ := k44.iastore (i := 1) X44 hx hZ e44 g_39 rfl rfl (by decide) (Nat.le_of_ble_eq_true rfl) N44 G23 (hb hby d_rmfa0_60)
    have k56 : Go p e below m W T56 61 #[.val (.ref a1), .val (.int (4 : Int32)), .val (.ref l1), .val (.ref oi_30), .val (.ref x0)] [] := k56
    have Z56 : n0 ≤ h56.size := (Wr.size W56).symm ▸ Z36
    have V56 : Arv Z h56 b23 c23 .int (4 : Int32) [(.int (-1 : Int32)), (.int q0), (.int (-1 : Int32)), (.int (-1 : Int32))] (.int (0 : Int32)) := V56
    have K56 : Keep h0 h56 [a1] := K36.wr W56 (Or.inr H23)
    have k57 : Go p e below m W T56 27 #[.val (.ref a1), .val (.int (4 : Int32)), .val (.ref l1), .val (.ref oi_30), .val (.ref x0)] [(.ref oi_30)] := (k56.goto X56 hx (hb hby d_rmfa0_61) (by decide) (by decide)).aloadN X56 hx (hb hby d_rmfa0_26) rfl rfl
    have g_40 := q36_1.other W56 (Or.inl (Ne.symm g_38))
    have g_41 := q36_4.other W56 (Or.inl (Ne.symm g_38))
    have g_42 := (g_9.keep Kq36 (by simp only [List.mem_cons, List.not_mem_nil, or_false, not_or]; exact g_14)).other W56 (Or.inl g_7)
    have g_43 := q36_0.wr W56
    obtain ⟨T58, v58, L58, X58, Q58, k58⟩ := k57.iface (y := (⟨"java/util/Iterator", "hasNext", "()Z"⟩ : MethodName)) (z := (⟨"java/util/ArrayList$Itr", "hasNext", "()Z"⟩ : MethodName)) (Wd := 0) (cells' := 2) (slots' := 8) (argsL := []) (rest := []) X56 hx hZ hown (by rw [hml]; rfl) (hv 66 rfl) (hv 67 rfl) (mvT hZ (hv 68 rfl)) (hv 69 rfl) (hv 70 rfl) (hv 71 rfl) (hv 72 rfl) (hv 73 rfl) (hv 74 rfl) (hv 52 rfl) (hb hby d_rmfa0_27) (by decide) (rmhn11 l Z a0 hw [] oi_30 l1 h56 n0 Z56 g_40 g_41 g_42) e56 g_43 rfl rfl pd_rmfa0_2 rfl (Nat.le_of_eq rfl) (by decide) (by decide) rfl rfl (by decide) (by decide)
    obtain ⟨rfl, Nq58, e58q⟩ := Q58
    have N58 := Fr.app N56 Nq58
    have e58 : T58.heap = h56 := e58q
    have k58 : Go p e below m W T58 32 #[.val (.ref a1), .val (.int (4 : Int32)), .val (.ref l1), .val (.ref oi_30), .val (.ref x0)] [(.int (0 : Int32))] := k58
    have k59 : Go p e below m W T58 66 #[.val (.ref a1), .val (.int (4 : Int32)), .val (.ref l1), .val (.ref oi_30), .val (.ref x0)] [(.ref l1), (.ref a1)] := ((k58.ifYes X58 hx (hb hby d_rmfa0_32) (XT.i0_eq_t (by decide)) (by decide) (by decide)).aloadN X58 hx (hb hby d_rmfa0_64) rfl rfl).aloadN X58 hx (hb hby d_rmfa0_65) rfl rfl
    have g_44 := ((g_6.keep Kq30).keep Kq36).wr W56
    obtain ⟨T60, v60, L60, X60, Q60, k60⟩ := k59.iface (y := (⟨"java/util/List", "isEmpty", "()Z"⟩ : MethodName)) (z := (⟨"java/util/ArrayList", "isEmpty", "()Z"⟩ : MethodName)) (Wd := 1) (cells' := 2) (slots' := 8) (argsL := []) (rest := [(.ref a1)]) X58 hx hZ hown (by rw [hml]; rfl) (hv 79 rfl) (hv 80 rfl) (mvT hZ (hv 81 rfl)) (hv 82 rfl) (hv 83 rfl) (hv 84 rfl) (hv 85 rfl) (hv 48 rfl) (hv 86 rfl) (hv 3 rfl) (hb hby d_rmfa0_66) (by decide) (rmem1 l Z a0 hw [] l1 h56 n0 Z56 g_42) e58 g_44 rfl rfl pd_rmfa0_2 rfl (Nat.le_of_eq rfl) (by decide) (by decide) rfl rfl (by decide) (by decide)
    obtain ⟨rfl, Nq60, e60q⟩ := Q60
    have N60 := Fr.app N58 Nq60
    have e60 : T60.heap = h56 := e60q
    have k60 : Go p e below m W T60 71 #[.val (.ref a1), .val (.int (4 : Int32)), .val (.ref l1), .val (.ref oi_30), .val (.ref x0)] [(.int (0 : Int32)), (.ref a1)] := k60
    have k61 : Go p e below m W T60 79 #[.val (.ref a1), .val (.int (4 : Int32)), .val (.ref l1), .val (.ref oi_30), .val (.ref x0)] [(.int (1 : Int32)), (.ref a1)] := ((k60.ifNo X60 hx (hb hby d_rmfa0_71) (XT.i0_ne_f (by decide))).iconst X60 hx (hb hby d_rmfa0_74) (v := (1 : Int32)) rfl).goto X60 hx (hb hby d_rmfa0_75) (by decide) (by decide)
    have g_45 := (((((F1.ext E23).other W24 (Or.inr (slot_ne (Or.inr (hv 89 rfl)) (Or.inr (hv 36 rfl)) (by decide) (by decide : parseFieldDescriptor "Z" = some .boolean) (by decide : parseFieldDescriptor "[I" = some (.array .int))))).keep Kq28 (by simp only [List.mem_cons, List.not_mem_nil, or_false, not_or]; exact g_4)).keep Kq30 (List.not_mem_nil)).keep Kq36 (by simp only [List.mem_cons, List.not_mem_nil, or_false, not_or]; exact g_19)).other W56 (Or.inl g_4)
    have g_46 := ((g_18.keep Kq30).keep Kq36).wr W56
    obtain ⟨T62, h62, l62, X62, e62, W62, N62, k62⟩ := k61.putF X60 hx hZ hown (host := "") (Or.inl (hv 88 rfl)) Via.refl e60 g_45 g_46 (Or.inr ⟨(hv 89 rfl), rfl, hnm⟩) (hv 28 rfl) (ty := .boolean) (by decide) (own_nz (Or.inr rfl)).1 (own_nz (Or.inr rfl)).2.1 N60 G1 (hb hby d_rmfa0_79)
    have k62 : Go p e below m W T62 82 #[.val (.ref a1), .val (.int (4 : Int32)), .val (.ref l1), .val (.ref oi_30), .val (.ref x0)] [] := k62
    have Z62 : n0 ≤ h62.size := (Wr.size W62).symm ▸ Z56
    have K62 : Keep h0 h62 [a1] := K56.wr W62 (Or.inl (List.mem_of_getElem? (i := 0) rfl))
    have g_47 := g_46.wr W62
    have g_48 := (g_20.other W56 (Or.inl g_4)).other W62 (Or.inr (slot_ne (Or.inr (hv 36 rfl)) (Or.inr (hv 89 rfl)) (by decide) (by decide : parseFieldDescriptor "[I" = some (.array .int)) (by decide : parseFieldDescriptor "Z" = some .boolean)))
    have g_49 := V56.other W62 (Ne.symm g_4)
    exact k62.return_ X62 hx Bd.returns (hb hby d_rmfa0_82) (BodyLoose.notSynchronized Bd) (by rw [e62]; exact ⟨b23, c23, rfl, N62, K62, g_47, g_48, (own_cv4 g_49 (by first | rfl | (simp [own_e1, own_e2]; done)) (by first | rfl | (simp [own_e1, own_e2]; done)) (by first | rfl | (simp [own_e1, own_e2]; done)) (by first | rfl | (simp [own_e1, own_e2]; done))), G23, H23, g_4⟩) (by decide) (by decide)
  ·
    subst f0
    have g_50 := (show b23 ≠ oi_30 from Nat.ne_of_lt (Nat.lt_of_lt_of_le q28_0.lt q30_6))
    have g_51 := (q28_0.keep Kq30 (List.not_mem_nil)).keep Kq36 (by simp only [List.mem_cons, List.not_mem_nil, or_false, not_or]; exact g_50)
    obtain ⟨T63, h63, l63, X63, e63, W63, V63, N63, k63⟩ := k44.iastore (i := 2) X44 hx hZ e44 g_51 rfl rfl (by decide) (Nat.le_of_ble_eq_true rfl) N44 G23 (hb hby d_rmfa0_60)
    have k63 : Go p e below m W T63 61 #[.val (.ref a1), .val (.int (4 : Int32)), .val (.ref l1), .val (.ref oi_30), .val (.ref x0)] [] := k63
    have Z63 : n0 ≤ h63.size := (Wr.size W63).symm ▸ Z36
    have V63 : Arv Z h63 b23 c23 .int (4 : Int32) [(.int (-1 : Int32)), (.int (-1 : Int32)), (.int q0), (.int (-1 : Int32))] (.int (0 : Int32)) := V63
    have K63 : Keep h0 h63 [a1] := K36.wr W63 (Or.inr H23)
    have k64 : Go p e below m W T63 27 #[.val (.ref a1), .val (.int (4 : Int32)), .val (.ref l1), .val (.ref oi_30), .val (.ref x0)] [(.ref oi_30)] := (k63.goto X63 hx (hb hby d_rmfa0_61) (by decide) (by decide)).aloadN X63 hx (hb hby d_rmfa0_26) rfl rfl
    have g_52 := q36_1.other W63 (Or.inl (Ne.symm g_50))
    have g_53 := q36_4.other W63 (Or.inl (Ne.symm g_50))
    have g_54 := (g_9.keep Kq36 (by simp only [List.mem_cons, List.not_mem_nil, or_false, not_or]; exact g_14)).other W63 (Or.inl g_7)
    have g_55 := q36_0.wr W63
    obtain ⟨T65, v65, L65, X65, Q65, k65⟩ := k64.iface (y := (⟨"java/util/Iterator", "hasNext", "()Z"⟩ : MethodName)) (z := (⟨"java/util/ArrayList$Itr", "hasNext", "()Z"⟩ : MethodName)) (Wd := 0) (cells' := 2) (slots' := 8) (argsL := []) (rest := []) X63 hx hZ hown (by rw [hml]; rfl) (hv 66 rfl) (hv 67 rfl) (mvT hZ (hv 68 rfl)) (hv 69 rfl) (hv 70 rfl) (hv 71 rfl) (hv 72 rfl) (hv 73 rfl) (hv 74 rfl) (hv 52 rfl) (hb hby d_rmfa0_27) (by decide) (rmhn11 l Z a0 hw [] oi_30 l1 h63 n0 Z63 g_52 g_53 g_54) e63 g_55 rfl rfl pd_rmfa0_2 rfl (Nat.le_of_eq rfl) (by decide) (by decide) rfl rfl (by decide) (by decide)
    obtain ⟨rfl, Nq65, e65q⟩ := Q65
    have N65 := Fr.app N63 Nq65
    have e65 : T65.heap = h63 := e65q
    have k65 : Go p e below m W T65 32 #[.val (.ref a1), .val (.int (4 : Int32)), .val (.ref l1), .val (.ref oi_30), .val (.ref x0)] [(.int (0 : Int32))] := k65
    have k66 : Go p e below m W T65 66 #[.val (.ref a1), .val (.int (4 : Int32)), .val (.ref l1), .val (.ref oi_30), .val (.ref x0)] [(.ref l1), (.ref a1)] := ((k65.ifYes X65 hx (hb hby d_rmfa0_32) (XT.i0_eq_t (by decide)) (by decide) (by decide)).aloadN X65 hx (hb hby d_rmfa0_64) rfl rfl).aloadN X65 hx (hb hby d_rmfa0_65) rfl rfl
    have g_56 := ((g_6.keep Kq30).keep Kq36).wr W63
    obtain ⟨T67, v67, L67, X67, Q67, k67⟩ := k66.iface (y := (⟨"java/util/List", "isEmpty", "()Z"⟩ : MethodName)) (z := (⟨"java/util/ArrayList", "isEmpty", "()Z"⟩ : MethodName)) (Wd := 1) (cells' := 2) (slots' := 8) (argsL := []) (rest := [(.ref a1)]) X65 hx hZ hown (by rw [hml]; rfl) (hv 79 rfl) (hv 80 rfl) (mvT hZ (hv 81 rfl)) (hv 82 rfl) (hv 83 rfl) (hv 84 rfl) (hv 85 rfl) (hv 48 rfl) (hv 86 rfl) (hv 3 rfl) (hb hby d_rmfa0_66) (by decide) (rmem1 l Z a0 hw [] l1 h63 n0 Z63 g_54) e65 g_56 rfl rfl pd_rmfa0_2 rfl (Nat.le_of_eq rfl) (by decide) (by decide) rfl rfl (by decide) (by decide)
    obtain ⟨rfl, Nq67, e67q⟩ := Q67
    have N67 := Fr.app N65 Nq67
    have e67 : T67.heap = h63 := e67q
    have k67 : Go p e below m W T67 71 #[.val (.ref a1), .val (.int (4 : Int32)), .val (.ref l1), .val (.ref oi_30), .val (.ref x0)] [(.int (0 : Int32)), (.ref a1)] := k67
    have k68 : Go p e below m W T67 79 #[.val (.ref a1), .val (.int (4 : Int32)), .val (.ref l1), .val (.ref oi_30), .val (.ref x0)] [(.int (1 : Int32)), (.ref a1)] := ((k67.ifNo X67 hx (hb hby d_rmfa0_71) (XT.i0_ne_f (by decide))).iconst X67 hx (hb hby d_rmfa0_74) (v := (1 : Int32)) rfl).goto X67 hx (hb hby d_rmfa0_75) (by decide) (by decide)
    have g_57 := (((((F1.ext E23).other W24 (Or.inr (slot_ne (Or.inr (hv 89 rfl)) (Or.inr (hv 36 rfl)) (by decide) (by decide : parseFieldDescriptor "Z" = some .boolean) (by decide : parseFieldDescriptor "[I" = some (.array .int))))).keep Kq28 (by simp only [List.mem_cons, List.not_mem_nil, or_false, not_or]; exact g_4)).keep Kq30 (List.not_mem_nil)).keep Kq36 (by simp only [List.mem_cons, List.not_mem_nil, or_false, not_or]; exact g_19)).other W63 (Or.inl g_4)
    have g_58 := ((g_18.keep Kq30).keep Kq36).wr W63
    obtain ⟨T69, h69, l69, X69, e69, W69, N69, k69⟩ := k68.putF X67 hx hZ hown (host := "") (Or.inl (hv 88 rfl)) Via.refl e67 g_57 g_58 (Or.inr ⟨(hv 89 rfl), rfl, hnm⟩) (hv 28 rfl) (ty := .boolean) (by decide) (own_nz (Or.inr rfl)).1 (own_nz (Or.inr rfl)).2.1 N67 G1 (hb hby d_rmfa0_79)
    have k69 : Go p e below m W T69 82 #[.val (.ref a1), .val (.int (4 : Int32)), .val (.ref l1), .val (.ref oi_30), .val (.ref x0)] [] := k69
    have Z69 : n0 ≤ h69.size := (Wr.size W69).symm ▸ Z63
    have K69 : Keep h0 h69 [a1] := K63.wr W69 (Or.inl (List.mem_of_getElem? (i := 0) rfl))
    have g_59 := g_58.wr W69
    have g_60 := (g_20.other W63 (Or.inl g_4)).other W69 (Or.inr (slot_ne (Or.inr (hv 36 rfl)) (Or.inr (hv 89 rfl)) (by decide) (by decide : parseFieldDescriptor "[I" = some (.array .int)) (by decide : parseFieldDescriptor "Z" = some .boolean)))
    have g_61 := V63.other W69 (Ne.symm g_4)
    exact k69.return_ X69 hx Bd.returns (hb hby d_rmfa0_82) (BodyLoose.notSynchronized Bd) (by rw [e69]; exact ⟨b23, c23, rfl, N69, K69, g_59, g_60, (own_cv4 g_61 (by first | rfl | (simp [own_e1, own_e2]; done)) (by first | rfl | (simp [own_e1, own_e2]; done)) (by first | rfl | (simp [own_e1, own_e2]; done)) (by first | rfl | (simp [own_e1, own_e2]; done))), G23, H23, g_4⟩) (by decide) (by decide)
  ·
    subst f0
    have g_62 := (show b23 ≠ oi_30 from Nat.ne_of_lt (Nat.lt_of_lt_of_le q28_0.lt q30_6))
    have g_63 := (q28_0.keep Kq30 (List.not_mem_nil)).keep Kq36 (by simp only [List.mem_cons, List.not_mem_nil, or_false, not_or]; exact g_62)
    obtain ⟨T70, h70, l70, X70, e70, W70, V70, N70, k70⟩ := k44.iastore (i := 3) X44 hx hZ e44 g_63 rfl rfl (by decide) (Nat.le_of_ble_eq_true rfl) N44 G23 (hb hby d_rmfa0_60)
    have k70 : Go p e below m W T70 61 #[.val (.ref a1), .val (.int (4 : Int32)), .val (.ref l1), .val (.ref oi_30), .val (.ref x0)] [] := k70
    have Z70 : n0 ≤ h70.size := (Wr.size W70).symm ▸ Z36
    have V70 : Arv Z h70 b23 c23 .int (4 : Int32) [(.int (-1 : Int32)), (.int (-1 : Int32)), (.int (-1 : Int32)), (.int q0)] (.int (0 : Int32)) := V70
    have K70 : Keep h0 h70 [a1] := K36.wr W70 (Or.inr H23)
    have k71 : Go p e below m W T70 27 #[.val (.ref a1), .val (.int (4 : Int32)), .val (.ref l1), .val (.ref oi_30), .val (.ref x0)] [(.ref oi_30)] := (k70.goto X70 hx (hb hby d_rmfa0_61) (by decide) (by decide)).aloadN X70 hx (hb hby d_rmfa0_26) rfl rfl
    have g_64 := q36_1.other W70 (Or.inl (Ne.symm g_62))
    have g_65 := q36_4.other W70 (Or.inl (Ne.symm g_62))
    have g_66 := (g_9.keep Kq36 (by simp only [List.mem_cons, List.not_mem_nil, or_false, not_or]; exact g_14)).other W70 (Or.inl g_7)
    have g_67 := q36_0.wr W70
    obtain ⟨T72, v72, L72, X72, Q72, k72⟩ := k71.iface (y := (⟨"java/util/Iterator", "hasNext", "()Z"⟩ : MethodName)) (z := (⟨"java/util/ArrayList$Itr", "hasNext", "()Z"⟩ : MethodName)) (Wd := 0) (cells' := 2) (slots' := 8) (argsL := []) (rest := []) X70 hx hZ hown (by rw [hml]; rfl) (hv 66 rfl) (hv 67 rfl) (mvT hZ (hv 68 rfl)) (hv 69 rfl) (hv 70 rfl) (hv 71 rfl) (hv 72 rfl) (hv 73 rfl) (hv 74 rfl) (hv 52 rfl) (hb hby d_rmfa0_27) (by decide) (rmhn11 l Z a0 hw [] oi_30 l1 h70 n0 Z70 g_64 g_65 g_66) e70 g_67 rfl rfl pd_rmfa0_2 rfl (Nat.le_of_eq rfl) (by decide) (by decide) rfl rfl (by decide) (by decide)
    obtain ⟨rfl, Nq72, e72q⟩ := Q72
    have N72 := Fr.app N70 Nq72
    have e72 : T72.heap = h70 := e72q
    have k72 : Go p e below m W T72 32 #[.val (.ref a1), .val (.int (4 : Int32)), .val (.ref l1), .val (.ref oi_30), .val (.ref x0)] [(.int (0 : Int32))] := k72
    have k73 : Go p e below m W T72 66 #[.val (.ref a1), .val (.int (4 : Int32)), .val (.ref l1), .val (.ref oi_30), .val (.ref x0)] [(.ref l1), (.ref a1)] := ((k72.ifYes X72 hx (hb hby d_rmfa0_32) (XT.i0_eq_t (by decide)) (by decide) (by decide)).aloadN X72 hx (hb hby d_rmfa0_64) rfl rfl).aloadN X72 hx (hb hby d_rmfa0_65) rfl rfl
    have g_68 := ((g_6.keep Kq30).keep Kq36).wr W70
    obtain ⟨T74, v74, L74, X74, Q74, k74⟩ := k73.iface (y := (⟨"java/util/List", "isEmpty", "()Z"⟩ : MethodName)) (z := (⟨"java/util/ArrayList", "isEmpty", "()Z"⟩ : MethodName)) (Wd := 1) (cells' := 2) (slots' := 8) (argsL := []) (rest := [(.ref a1)]) X72 hx hZ hown (by rw [hml]; rfl) (hv 79 rfl) (hv 80 rfl) (mvT hZ (hv 81 rfl)) (hv 82 rfl) (hv 83 rfl) (hv 84 rfl) (hv 85 rfl) (hv 48 rfl) (hv 86 rfl) (hv 3 rfl) (hb hby d_rmfa0_66) (by decide) (rmem1 l Z a0 hw [] l1 h70 n0 Z70 g_66) e72 g_68 rfl rfl pd_rmfa0_2 rfl (Nat.le_of_eq rfl) (by decide) (by decide) rfl rfl (by decide) (by decide)
    obtain ⟨rfl, Nq74, e74q⟩ := Q74
    have N74 := Fr.app N72 Nq74
    have e74 : T74.heap = h70 := e74q
    have k74 : Go p e below m W T74 71 #[.val (.ref a1), .val (.int (4 : Int32)), .val (.ref l1), .val (.ref oi_30), .val (.ref x0)] [(.int (0 : Int32)), (.ref a1)] := k74
    have k75 : Go p e below m W T74 79 #[.val (.ref a1), .val (.int (4 : Int32)), .val (.ref l1), .val (.ref oi_30), .val (.ref x0)] [(.int (1 : Int32)), (.ref a1)] := ((k74.ifNo X74 hx (hb hby d_rmfa0_71) (XT.i0_ne_f (by decide))).iconst X74 hx (hb hby d_rmfa0_74) (v := (1 : Int32)) rfl).goto X74 hx (hb hby d_rmfa0_75) (by decide) (by decide)
    have g_69 := (((((F1.ext E23).other W24 (Or.inr (slot_ne (Or.inr (hv 89 rfl)) (Or.inr (hv 36 rfl)) (by decide) (by decide : parseFieldDescriptor "Z" = some .boolean) (by decide : parseFieldDescriptor "[I" = some (.array .int))))).keep Kq28 (by simp only [List.mem_cons, List.not_mem_nil, or_false, not_or]; exact g_4)).keep Kq30 (List.not_mem_nil)).keep Kq36 (by simp only [List.mem_cons, List.not_mem_nil, or_false, not_or]; exact g_19)).other W70 (Or.inl g_4)
    have g_70 := ((g_18.keep Kq30).keep Kq36).wr W70
    obtain ⟨T76, h76, l76, X76, e76, W76, N76, k76⟩ := k75.putF X74 hx hZ hown (host := "") (Or.inl (hv 88 rfl)) Via.refl e74 g_69 g_70 (Or.inr ⟨(hv 89 rfl), rfl, hnm⟩) (hv 28 rfl) (ty := .boolean) (by decide) (own_nz (Or.inr rfl)).1 (own_nz (Or.inr rfl)).2.1 N74 G1 (hb hby d_rmfa0_79)
    have k76 : Go p e below m W T76 82 #[.val (.ref a1), .val (.int (4 : Int32)), .val (.ref l1), .val (.ref oi_30), .val (.ref x0)] [] := k76
    have Z76 : n0 ≤ h76.size := (Wr.size W76).symm ▸ Z70
    have K76 : Keep h0 h76 [a1] := K70.wr W76 (Or.inl (List.mem_of_getElem? (i := 0) rfl))
    have g_71 := g_70.wr W76
    have g_72 := (g_20.other W70 (Or.inl g_4)).other W76 (Or.inr (slot_ne (Or.inr (hv 36 rfl)) (Or.inr (hv 89 rfl)) (by decide) (by decide : parseFieldDescriptor "[I" = some (.array .int)) (by decide : parseFieldDescriptor "Z" = some .boolean)))
    have g_73 := V70.other W76 (Ne.symm g_4)
    exact k76.return_ X76 hx Bd.returns (hb hby d_rmfa0_82) (BodyLoose.notSynchronized Bd) (by rw [e76]; exact ⟨b23, c23, rfl, N76, K76, g_71, g_72, (own_cv4 g_73 (by first | rfl | (simp [own_e1, own_e2]; done)) (by first | rfl | (simp [own_e1, own_e2]; done)) (by first | rfl | (simp [own_e1, own_e2]; done)) (by first | rfl | (simp [own_e1, own_e2]; done))), G23, H23, g_4⟩) (by decide) (by decide)

theorem ef_rmfa2 (m : MethodId) (a1 : Addr) (l1 : Addr) : entryFrame m #[(.ref a1), (.int (4 : Int32)), (.ref l1)] 5 = mkF m 0 #[.val (.ref a1), .val (.int (4 : Int32)), .val (.ref l1), .unset, .unset] [] := by first | (simp [entryFrame, mkF, argsToLocals, Value.category]; done) | rfl
def Q_rmfa2 (Z : State) (a1 : Addr) (l1 : Addr) (u0 : Value) (u1 : Value) (d1 : Addr) (k1 : ClassId) (x0 : Addr) (f0 : Int32) (q0 : Int32) (x1 : Addr) (f1 : Int32) (q1 : Int32) (h0 : Heap) (n0 : Nat) (v : Option Value) (h : Heap) (L : List Loc) : Prop := ∃ (of : Addr) (okf : ClassId), v = none ∧ Fr n0 L ∧ Keep h0 h [a1] ∧ Exa Z h a1 "com/example/enact/enact/FeederAcceleration" ∧ Fld Z h a1 "com/example/enact/enact/FeederAcceleration" "fed" "[I" (.ref of) ∧ Arv Z h of okf .int (4 : Int32) [(.int (own_e2 f0 q0 f1 q1 (0 : Int32))), (.int (own_e2 f0 q0 f1 q1 (1 : Int32))), (.int (own_e2 f0 q0 f1 q1 (2 : Int32))), (.int (own_e2 f0 q0 f1 q1 (3 : Int32)))] (.int (0 : Int32)) ∧ n0 ≤ of ∧ h0.size ≤ of ∧ a1 ≠ of
set_option maxRecDepth 65536 in
set_option maxHeartbeats 40000000 in
theorem rmfa2 (l : Launch) (Z : State) (a0 : Array Value) (hw : ∀ d ∈ tables_1, d.before a0 Z = true) (ws : List Jvm.Cond) (a1 : Addr) (l1 : Addr) (u0 : Value) (u1 : Value) (d1 : Addr) (k1 : ClassId) (x0 : Addr) (f0 : Int32) (q0 : Int32) (x1 : Addr) (f1 : Int32) (q1 : Int32) (h0 : Heap) (n0 : Nat) (Z0 : n0 ≤ h0.size) (E1 : Exa Z h0 a1 "com/example/enact/enact/FeederAcceleration") (G1 : n0 ≤ a1) (F0 : Fld Z h0 a1 "com/example/enact/enact/FeederAcceleration" "fed" "[I" u0) (F1 : Fld Z h0 a1 "com/example/enact/enact/FeederAcceleration" "accelerates" "Z" u1) (El : Exa Z h0 l1 "java/util/ArrayList") (F2 : Fld Z h0 l1 "java/util/AbstractList" "modCount" "I" (.int (2 : Int32))) (F3 : Fld Z h0 l1 "java/util/ArrayList" "size" "I" (.int (2 : Int32))) (F4 : Fld Z h0 l1 "java/util/ArrayList" "elementData" "[Ljava/lang/Object;" (.ref d1)) (V1 : Arv Z h0 d1 k1 (.object "java/lang/Object") (10 : Int32) [(.ref x0), (.ref x1), .null, .null, .null, .null, .null, .null, .null, .null] .null) (nda : d1 ≠ a1) (nla : l1 ≠ a1) (Ex0 : Exa Z h0 x0 "com/example/enact/enact/Classification$Flat") (Fp0 : Fld Z h0 x0 "com/example/enact/enact/Classification$Flat" "place" "I" (.int q0)) (Ff0 : Fld Z h0 x0 "com/example/enact/enact/Classification$Flat" "feeder" "I" (.int f0)) (B0 : f0 = (0 : Int32) ∨ f0 = (1 : Int32) ∨ f0 = (2 : Int32) ∨ f0 = (3 : Int32)) (nx0 : x0 ≠ a1) (Ex1 : Exa Z h0 x1 "com/example/enact/enact/Classification$Flat") (Fp1 : Fld Z h0 x1 "com/example/enact/enact/Classification$Flat" "place" "I" (.int q1)) (Ff1 : Fld Z h0 x1 "com/example/enact/enact/Classification$Flat" "feeder" "I" (.int f1)) (B1 : f1 = (0 : Int32) ∨ f1 = (1 : Int32) ∨ f1 = (2 : Int32) ∨ f1 = (3 : Int32)) (nx1 : x1 ≠ a1) :
    MetFree l (⟨"com/example/enact/enact/FeederAcceleration", "<init>", "(ILjava/util/List;)V"⟩ : MethodName) (head1 (Jvm.Cond.code (⟨"com/example/enact/enact/FeederAcceleration", "<init>", "(ILjava/util/List;)V"⟩ : MethodName) prog_36_method_1_code 5 none :: ws) ({ frames := 3, cells := 2, slots := 8, locals := 38 } : Room)) (fun a U => a = #[(.ref a1), (.int (4 : Int32)), (.ref l1)] ∧ Z.Warmed39 U.vm ∧ U.heap = h0) (fun _ _ _ _ _ => True) (fun _ U o U' => ∃ v L, o = .returned v ∧ Q_rmfa2 Z a1 l1 u0 u1 d1 k1 x0 f0 q0 x1 f1 q1 h0 n0 v U'.heap L ∧ FrameEnd U o U' L ({ frames := 3, cells := 2, slots := 8, locals := 38 } : Room).cells ({ frames := 3, cells := 2, slots := 8, locals := 38 } : Room).slots) := by
  refine MetFree.of_bodySF (plainFor_of_name pn_rmfa0) hisR ?_
  intro p e s m args_ below meth c s₁ Bd hml0 hP hK
  obtain ⟨hargs, hZ, hh⟩ := hP
  have hx := Bd.exec
  have hby := Bd.bytes
  have hml : c.maxLocals = 5 := hml0
  have hown : s.vm.findClass "com/example/enact/enact/FeederAcceleration" = some m.cls := findClass_of_methodNamed Bd.named
  have hnm := (name_of_methodNamed Bd.named Bd.method).1
  have X0 : Stand p l e ({ frames := 3, cells := 2, slots := 8, locals := 38 } : Room) s m args_ below meth c s₁ [] 0 0 := Stand.of_body Bd
  have e0 : s₁.heap = h0 := by rw [← hh, Bd.state]; rfl
  have N0 := Fr.nil n0
  have hv : ∀ (i : Nat) {d : Jvm.Cond}, tables_1[i]? = some d → d.before a0 Z = true := fun i d q => hw d (List.mem_of_getElem? q)
  have K0 : Keep h0 h0 [a1] := Keep.refl _ _
  have k0 : Go p e below m (s₁.setTop (entryFrame m args_ 5)) s₁ 0 #[.val (.ref a1), .val (.int (4 : Int32)), .val (.ref l1), .unset, .unset] [] := by rw [hargs]; exact fun t_ kt_ => castTop (ef_rmfa2 m a1 l1) kt_
  obtain ⟨W, hWW⟩ : ∃ W, W = s₁.setTop (entryFrame m args_ 5) := ⟨_, rfl⟩
  rw [← hWW] at k0 ⊢
  show Done p e below s W (Q_rmfa2 Z a1 l1 u0 u1 d1 k1 x0 f0 q0 x1 f1 q1 h0 n0) ({ frames := 3, cells := 2, slots := 8, locals := 38 } : Room).cells ({ frames := 3, cells := 2, slots := 8, locals := 38 } : Room).slots
  have k20 : Go p e below m W s₁ 1 #[.val (.ref a1), .val (.int (4 : Int32)), .val (.ref l1), .unset, .unset] [(.ref a1)] := k0.aloadN X0 hx (hb hby d_rmfa0_0) rfl rfl
  obtain ⟨T21, X21, e21, k21⟩ := k20.initO (Wd := 0) X0 hx hZ hown (by rw [hml]; rfl) (hv 33 rfl) (hv 20 rfl) (hv 21 rfl) e0 (hb hby d_rmfa0_1) (Nat.le_of_eq rfl) (by decide) (by decide)
  have k21 : Go p e below m W T21 4 #[.val (.ref a1), .val (.int (4 : Int32)), .val (.ref l1), .unset, .unset] [] := k21
  have k22 : Go p e below m W T21 6 #[.val (.ref a1), .val (.int (4 : Int32)), .val (.ref l1), .unset, .unset] [(.int (4 : Int32)), (.ref a1)] := (k21.aloadN X21 hx (hb hby d_rmfa0_4) rfl rfl).iloadN X21 hx (hb hby d_rmfa0_5) rfl
  obtain ⟨T23, h23, b23, c23, X23, e23, g23, E23, A23, k23⟩ := k22.newP (cap := 4) (cells' := 1) (slots' := 4) X21 hx hZ (hv 34 rfl) e21 (hb hby d_rmfa0_6) (by decide) (by decide) (by decide) rfl rfl (by decide) (by decide)
  have k23 : Go p e below m W T23 8 #[.val (.ref a1), .val (.int (4 : Int32)), .val (.ref l1), .unset, .unset] [(.ref b23), (.ref a1)] := k23
  have Z23 : n0 ≤ h23.size := Nat.le_trans Z0 E23.1
  have G23 : n0 ≤ b23 := g23 ▸ Z0
  have H23 : h0.size ≤ b23 := g23 ▸ K0.1
  have K23 : Keep h0 h23 [a1] := K0.ext E23
  have V23 : Arv Z h23 b23 c23 .int (4 : Int32) [(.int (0 : Int32)), (.int (0 : Int32)), (.int (0 : Int32)), (.int (0 : Int32))] (.int (0 : Int32)) := A23 4
  have g_1 := F0.ext E23
  have g_2 := E1.ext E23
  obtain ⟨T24, h24, l24, X24, e24, W24, N24, k24⟩ := k23.putF X23 hx hZ hown (host := "") (Or.inl (hv 35 rfl)) Via.refl e23 g_1 g_2 (Or.inr ⟨(hv 36 rfl), rfl, hnm⟩) (hv 28 rfl) (ty := (.array .int)) (by decide) rfl rfl N0 G1 (hb hby d_rmfa0_8)
  have k24 : Go p e below m W T24 11 #[.val (.ref a1), .val (.int (4 : Int32)), .val (.ref l1), .unset, .unset] [] := k24
  have Z24 : n0 ≤ h24.size := (Wr.size W24).symm ▸ Z23
  have K24 : Keep h0 h24 [a1] := K23.wr W24 (Or.inl (List.mem_of_getElem? (i := 0) rfl))
  have k25 : Go p e below m W T24 12 #[.val (.ref a1), .val (.int (4 : Int32)), .val (.ref l1), .unset, .unset] [(.ref a1)] := k24.aloadN X24 hx (hb hby d_rmfa0_11) rfl rfl
  have g_3 := g_1.same W24
  obtain ⟨T26, X26, e26, k26⟩ := k25.getF X24 hx hZ hown (host := "") (Or.inl (hv 35 rfl)) Via.refl e24 g_3 (hb hby d_rmfa0_12)
  have k26 : Go p e below m W T26 15 #[.val (.ref a1), .val (.int (4 : Int32)), .val (.ref l1), .unset, .unset] [(.ref b23)] := k26
  have k27 : Go p e below m W T26 16 #[.val (.ref a1), .val (.int (4 : Int32)), .val (.ref l1), .unset, .unset] [(.int (-1 : Int32)), (.ref b23)] := k26.iconst X26 hx (hb hby d_rmfa0_15) (v := (-1 : Int32)) rfl
  have g_4 := (show a1 ≠ b23 from Nat.ne_of_lt (g23 ▸ E1.lt))
  have g_5 := V23.other W24 (Ne.symm g_4)
  obtain ⟨T28, v28, L28, X28, Q28, k28⟩ := k27.stat (y := (⟨"java/util/Arrays", "fill", "([II)V"⟩ : MethodName)) (Wd := 0) (cells' := 1) (slots' := 4) (argsL := [(.ref b23), (.int (-1 : Int32))]) (rest := []) X26 hx hZ hown (by rw [hml]; rfl) (hv 37 rfl) (hv 38 rfl) (hv 40 rfl) (hv 39 rfl) (hb hby d_rmfa0_16) (by decide) (rmfi l Z a0 hw [] b23 c23 h24 n0 Z24 g_5 G23) e26 rfl rfl pd_rmfa0_0 rfl (Nat.le_of_eq rfl) (by decide) (by decide) rfl rfl (by decide) (by decide)
  obtain ⟨rfl, Nq28, Kq28, q28_0⟩ := Q28
  have N28 := Fr.app N24 Nq28
  obtain ⟨h28, e28⟩ : ∃ h, T28.heap = h := ⟨_, rfl⟩
  rw [e28] at Kq28 q28_0
  have Z28 : n0 ≤ h28.size := Nat.le_trans Z24 Kq28.1
  have K28 : Keep h0 h28 [a1] := K24.trans Kq28 (by intro x q; simp only [List.mem_cons, List.not_mem_nil, or_false] at q; rcases q with rfl; exact (Or.inr H23))
  have k28 : Go p e below m W T28 19 #[.val (.ref a1), .val (.int (4 : Int32)), .val (.ref l1), .unset, .unset] [] := k28
  have k29 : Go p e below m W T28 20 #[.val (.ref a1), .val (.int (4 : Int32)), .val (.ref l1), .unset, .unset] [(.ref l1)] := k28.aloadN X28 hx (hb hby d_rmfa0_19) rfl rfl
  have g_6 := ((El.ext E23).wr W24).keep Kq28
  have g_7 := (show l1 ≠ b23 from Nat.ne_of_lt (g23 ▸ El.lt))
  have g_8 := ((F2.ext E23).other W24 (Or.inl nla)).keep Kq28 (by simp only [List.mem_cons, List.not_mem_nil, or_false, not_or]; exact g_7)
  obtain ⟨T30, v30, L30, X30, Q30, k30⟩ := k29.iface (y := (⟨"java/util/List", "iterator", "()Ljava/util/Iterator;"⟩ : MethodName)) (z := (⟨"java/util/ArrayList", "iterator", "()Ljava/util/Iterator;"⟩ : MethodName)) (Wd := 0) (cells' := 2) (slots' := 8) (argsL := []) (rest := []) X28 hx hZ hown (by rw [hml]; rfl) (hv 41 rfl) (hv 42 rfl) (mvT hZ (hv 43 rfl)) (hv 44 rfl) (hv 45 rfl) (hv 46 rfl) (hv 47 rfl) (hv 48 rfl) (hv 49 rfl) (hv 3 rfl) (hb hby d_rmfa0_20) (by decide) (rmit l Z a0 hw [] l1 (2 : Int32) h28 n0 Z28 g_6 g_8) e28 g_6 rfl rfl pd_rmfa0_1 rfl (Nat.le_of_eq rfl) (by decide) (by decide) rfl rfl (by decide) (by decide)
  obtain ⟨oi_30, rfl, Nq30, Kq30, q30_0, q30_1, q30_2, q30_3, q30_4, q30_5, q30_6⟩ := Q30
  have N30 := Fr.app N28 Nq30
  obtain ⟨h30, e30⟩ : ∃ h, T30.heap = h := ⟨_, rfl⟩
  rw [e30] at Kq30 q30_0 q30_1 q30_2 q30_3 q30_4
  have Z30 : n0 ≤ h30.size := Nat.le_trans Z28 Kq30.1
  have K30 : Keep h0 h30 [a1] := K28.trans Kq30 (fun x q => absurd q List.not_mem_nil)
  have H31 : h0.size ≤ oi_30 := Nat.le_trans K28.1 q30_6
  have k30 : Go p e below m W T30 25 #[.val (.ref a1), .val (.int (4 : Int32)), .val (.ref l1), .unset, .unset] [(.ref oi_30)] := k30
  have k32 : Go p e below m W T30 26 #[.val (.ref a1), .val (.int (4 : Int32)), .val (.ref l1), .val (.ref oi_30), .unset] [] := k30.astoreN X30 hx (hb hby d_rmfa0_25) rfl rfl
  have k33 : Go p e below m W T30 27 #[.val (.ref a1), .val (.int (4 : Int32)), .val (.ref l1), .val (.ref oi_30), .unset] [(.ref oi_30)] := k32.aloadN X30 hx (hb hby d_rmfa0_26) rfl rfl
  have g_9 := (((F3.ext E23).other W24 (Or.inl nla)).keep Kq28 (by simp only [List.mem_cons, List.not_mem_nil, or_false, not_or]; exact g_7)).keep Kq30 (List.not_mem_nil)
  obtain ⟨T34, v34, L34, X34, Q34, k34⟩ := k33.iface (y := (⟨"java/util/Iterator", "hasNext", "()Z"⟩ : MethodName)) (z := (⟨"java/util/ArrayList$Itr", "hasNext", "()Z"⟩ : MethodName)) (Wd := 0) (cells' := 2) (slots' := 8) (argsL := []) (rest := []) X30 hx hZ hown (by rw [hml]; rfl) (hv 66 rfl) (hv 67 rfl) (mvT hZ (hv 68 rfl)) (hv 69 rfl) (hv 70 rfl) (hv 71 rfl) (hv 72 rfl) (hv 73 rfl) (hv 74 rfl) (hv 52 rfl) (hb hby d_rmfa0_27) (by decide) (rmhn02 l Z a0 hw [] oi_30 l1 h30 n0 Z30 q30_1 q30_4 g_9) e30 q30_0 rfl rfl pd_rmfa0_2 rfl (Nat.le_of_eq rfl) (by decide) (by decide) rfl rfl (by decide) (by decide)
  obtain ⟨rfl, Nq34, e34q⟩ := Q34
  have N34 := Fr.app N30 Nq34
  have e34 : T34.heap = h30 := e34q
  have k34 : Go p e below m W T34 32 #[.val (.ref a1), .val (.int (4 : Int32)), .val (.ref l1), .val (.ref oi_30), .unset] [(.int (1 : Int32))] := k34
  have k35 : Go p e below m W T34 36 #[.val (.ref a1), .val (.int (4 : Int32)), .val (.ref l1), .val (.ref oi_30), .unset] [(.ref oi_30)] := (k34.ifNo X34 hx (hb hby d_rmfa0_32) (XT.i0_eq_f (by decide))).aloadN X34 hx (hb hby d_rmfa0_35) rfl rfl
  have g_10 := g_8.keep Kq30 (List.not_mem_nil)
  have g_11 := (((F4.ext E23).other W24 (Or.inl nla)).keep Kq28 (by simp only [List.mem_cons, List.not_mem_nil, or_false, not_or]; exact g_7)).keep Kq30 (List.not_mem_nil)
  have g_12 := (show d1 ≠ b23 from Nat.ne_of_lt (g23 ▸ V1.lt))
  have g_13 := (((V1.ext E23).other W24 nda).keep Kq28 (by simp only [List.mem_cons, List.not_mem_nil, or_false, not_or]; exact g_12)).keep Kq30 (List.not_mem_nil)
  have g_14 := (show l1 ≠ oi_30 from Nat.ne_of_lt (Nat.lt_of_lt_of_le g_6.lt q30_6))
  have g_15 := ((V1.ext E23).other W24 nda).keep Kq28 (by simp only [List.mem_cons, List.not_mem_nil, or_false, not_or]; exact g_12)
  have g_16 := (show d1 ≠ oi_30 from Nat.ne_of_lt (Nat.lt_of_lt_of_le g_15.lt q30_6))
  obtain ⟨T36, v36, L36, X36, Q36, k36⟩ := k35.iface (y := (⟨"java/util/Iterator", "next", "()Ljava/lang/Object;"⟩ : MethodName)) (z := (⟨"java/util/ArrayList$Itr", "next", "()Ljava/lang/Object;"⟩ : MethodName)) (Wd := 0) (cells' := 2) (slots' := 8) (argsL := []) (rest := []) X34 hx hZ hown (by rw [hml]; rfl) (hv 144 rfl) (hv 145 rfl) (mvT hZ (hv 146 rfl)) (hv 147 rfl) (hv 148 rfl) (hv 149 rfl) (hv 150 rfl) (hv 73 rfl) (hv 151 rfl) (hv 52 rfl) (hb hby d_rmfa0_36) (by decide) (rmnx02 l Z a0 hw [] oi_30 l1 d1 k1 (2 : Int32) (.int (-1 : Int32)) x0 x1 h30 n0 Z30 q30_0 q30_5 q30_1 q30_2 q30_3 q30_4 g_10 g_9 g_11 g_13 g_14 g_16) e34 q30_0 rfl rfl pd_rmfa1_3 rfl (Nat.le_of_eq rfl) (by decide) (by decide) rfl rfl (by decide) (by decide)
  obtain ⟨rfl, Nq36, Kq36, q36_0, q36_1, q36_2, q36_3, q36_4⟩ := Q36
  have N36 := Fr.app N34 Nq36
  obtain ⟨h36, e36⟩ : ∃ h, T36.heap = h := ⟨_, rfl⟩
  rw [e36] at Kq36 q36_0 q36_1 q36_2 q36_3 q36_4
  have Z36 : n0 ≤ h36.size := Nat.le_trans Z30 Kq36.1
  have K36 : Keep h0 h36 [a1] := K30.trans Kq36 (by intro x q; simp only [List.mem_cons, List.not_mem_nil, or_false] at q; rcases q with rfl; exact (Or.inr H31))
  have k36 : Go p e below m W T36 41 #[.val (.ref a1), .val (.int (4 : Int32)), .val (.ref l1), .val (.ref oi_30), .unset] [(.ref x0)] := k36
  have g_17 := ((((Ex0.ext E23).wr W24).keep Kq28).keep Kq30).keep Kq36
  obtain ⟨T37, X37, e37, k37⟩ := k36.castY X36 hx hZ hown (hv 158 rfl) e36 (Ins.self g_17) (hb hby d_rmfa0_41)
  have k37 : Go p e below m W T37 44 #[.val (.ref a1), .val (.int (4 : Int32)), .val (.ref l1), .val (.ref oi_30), .unset] [(.ref x0)] := k37
  have k38 : Go p e below m W T37 46 #[.val (.ref a1), .val (.int (4 : Int32)), .val (.ref l1), .val (.ref oi_30), .val (.ref x0)] [] := k37.astore X37 hx (hb hby d_rmfa0_44) rfl rfl
  have k39 : Go p e below m W T37 47 #[.val (.ref a1), .val (.int (4 : Int32)), .val (.ref l1), .val (.ref oi_30), .val (.ref x0)] [(.ref a1)] := k38.aloadN X37 hx (hb hby d_rmfa0_46) rfl rfl
  have g_18 := (g_2.wr W24).keep Kq28
  have g_19 := (show a1 ≠ oi_30 from Nat.ne_of_lt (Nat.lt_of_lt_of_le g_18.lt q30_6))
  have g_20 := ((g_3.keep Kq28 (by simp only [List.mem_cons, List.not_mem_nil, or_false, not_or]; exact g_4)).keep Kq30 (List.not_mem_nil)).keep Kq36 (by simp only [List.mem_cons, List.not_mem_nil, or_false, not_or]; exact g_19)
  obtain ⟨T40, X40, e40, k40⟩ := k39.getF X37 hx hZ hown (host := "") (Or.inl (hv 35 rfl)) Via.refl e37 g_20 (hb hby d_rmfa0_47)
  have k40 : Go p e below m W T40 50 #[.val (.ref a1), .val (.int (4 : Int32)), .val (.ref l1), .val (.ref oi_30), .val (.ref x0)] [(.ref b23)] := k40
  have k41 : Go p e below m W T40 52 #[.val (.ref a1), .val (.int (4 : Int32)), .val (.ref l1), .val (.ref oi_30), .val (.ref x0)] [(.ref x0), (.ref b23)] := k40.aload X40 hx (hb hby d_rmfa0_50) rfl rfl
  have g_21 := (show x0 ≠ b23 from Nat.ne_of_lt (g23 ▸ Ex0.lt))
  have g_22 := ((Ex0.ext E23).wr W24).keep Kq28
  have g_23 := (show x0 ≠ oi_30 from Nat.ne_of_lt (Nat.lt_of_lt_of_le g_22.lt q30_6))
  have g_24 := ((((Ff0.ext E23).other W24 (Or.inl nx0)).keep Kq28 (by simp only [List.mem_cons, List.not_mem_nil, or_false, not_or]; exact g_21)).keep Kq30 (List.not_mem_nil)).keep Kq36 (by simp only [List.mem_cons, List.not_mem_nil, or_false, not_or]; exact g_23)
  obtain ⟨T42, v42, L42, X42, Q42, k42⟩ := k41.virt (y := (⟨"com/example/enact/enact/Classification$Flat", "feeder", "()I"⟩ : MethodName)) (z := (⟨"com/example/enact/enact/Classification$Flat", "feeder", "()I"⟩ : MethodName)) (Wd := 1) (cells' := 2) (slots' := 8) (argsL := []) (rest := [(.ref b23)]) X40 hx hZ hown (by rw [hml]; rfl) (hv 160 rfl) (hv 161 rfl) (notFace_of_selects (args := #[]) (mvT hZ (hv 163 rfl))) (hv 163 rfl) (hv 162 rfl) (hv 164 rfl) (hv 97 rfl) (hb hby d_rmfa0_52) (by decide) (rmfe l Z a0 hw [] x0 f0 h36 n0 Z36 g_24) e40 g_17 rfl rfl pd_rmfa1_4 rfl (Nat.le_of_eq rfl) (by decide) (by decide) rfl rfl (by decide) (by decide)
  obtain ⟨rfl, Nq42, e42q⟩ := Q42
  have N42 := Fr.app N36 Nq42
  have e42 : T42.heap = h36 := e42q
  have k42 : Go p e below m W T42 55 #[.val (.ref a1), .val (.int (4 : Int32)), .val (.ref l1), .val (.ref oi_30), .val (.ref x0)] [(.int f0), (.ref b23)] := k42
  have k43 : Go p e below m W T42 57 #[.val (.ref a1), .val (.int (4 : Int32)), .val (.ref l1), .val (.ref oi_30), .val (.ref x0)] [(.ref x0), (.int f0), (.ref b23)] := k42.aload X42 hx (hb hby d_rmfa0_55) rfl rfl
  have g_25 := ((((Fp0.ext E23).other W24 (Or.inl nx0)).keep Kq28 (by simp only [List.mem_cons, List.not_mem_nil, or_false, not_or]; exact g_21)).keep Kq30 (List.not_mem_nil)).keep Kq36 (by simp only [List.mem_cons, List.not_mem_nil, or_false, not_or]; exact g_23)
  obtain ⟨T44, v44, L44, X44, Q44, k44⟩ := k43.virt (y := (⟨"com/example/enact/enact/Classification$Flat", "place", "()I"⟩ : MethodName)) (z := (⟨"com/example/enact/enact/Classification$Flat", "place", "()I"⟩ : MethodName)) (Wd := 2) (cells' := 2) (slots' := 8) (argsL := []) (rest := [(.int f0), (.ref b23)]) X42 hx hZ hown (by rw [hml]; rfl) (hv 165 rfl) (hv 166 rfl) (notFace_of_selects (args := #[]) (mvT hZ (hv 168 rfl))) (hv 168 rfl) (hv 167 rfl) (hv 169 rfl) (hv 97 rfl) (hb hby d_rmfa0_57) (by decide) (rmfp l Z a0 hw [] x0 q0 h36 n0 Z36 g_25) e42 g_17 rfl rfl pd_rmfa1_4 rfl (Nat.le_of_eq rfl) (by decide) (by decide) rfl rfl (by decide) (by decide)
  obtain ⟨rfl, Nq44, e44q⟩ := Q44
  have N44 := Fr.app N42 Nq44
  have e44 : T44.heap = h36 := e44q
  have k44 : Go p e below m W T44 60 #[.val (.ref a1), .val (.int (4 : Int32)), .val (.ref l1), .val (.ref oi_30), .val (.ref x0)] [(.int q0), (.int f0), (.ref b23)] := k44
  rcases B0 with q45 | q46 | q47 | q48
  ·
    subst f0
    have g_26 := (show b23 ≠ oi_30 from Nat.ne_of_lt (Nat.lt_of_lt_of_le q28_0.lt q30_6))
    have g_27 := (q28_0.keep Kq30 (List.not_mem_nil)).keep Kq36 (by simp only [List.mem_cons, List.not_mem_nil, or_false, not_or]; exact g_26)
    obtain ⟨T49, h49, l49, X49, e49, W49, V49, N49, k49⟩ := k44.iastore (i := 0) X44 hx hZ e44 g_27 rfl rfl (by decide) (Nat.le_of_ble_eq_true rfl) N44 G23 (hb hby d_rmfa0_60)
    have k49 : Go p e below m W T49 61 #[.val (.ref a1), .val (.int (4 : Int32)), .val (.ref l1), .val (.ref oi_30), .val (.ref x0)] [] := k49
    have Z49 : n0 ≤ h49.size := (Wr.size W49).symm ▸ Z36
    have V49 : Arv Z h49 b23 c23 .int (4 : Int32) [(.int q0), (.int (-1 : Int32)), (.int (-1 : Int32)), (.int (-1 : Int32))] (.int (0 : Int32)) := V49
    have K49 : Keep h0 h49 [a1] := K36.wr W49 (Or.inr H23)
    have k50 : Go p e below m W T49 27 #[.val (.ref a1), .val (.int (4 : Int32)), .val (.ref l1), .val (.ref oi_30), .val (.ref x0)] [(.ref oi_30)] := (k49.goto X49 hx (hb hby d_rmfa0_61) (by decide) (by decide)).aloadN X49 hx (hb hby d_rmfa0_26) rfl rfl
    have g_28 := q36_1.other W49 (Or.inl (Ne.symm g_26))
    have g_29 := q36_4.other W49 (Or.inl (Ne.symm g_26))
    have g_30 := (g_9.keep Kq36 (by simp only [List.mem_cons, List.not_mem_nil, or_false, not_or]; exact g_14)).other W49 (Or.inl g_7)
    have g_31 := q36_0.wr W49
    obtain ⟨T51, v51, L51, X51, Q51, k51⟩ := k50.iface (y := (⟨"java/util/Iterator", "hasNext", "()Z"⟩ : MethodName)) (z := (⟨"java/util/ArrayList$Itr", "hasNext", "()Z"⟩ : MethodName)) (Wd := 0) (cells' := 2) (slots' := 8) (argsL := []) (rest := []) X49 hx hZ hown (by rw [hml]; rfl) (hv 66 rfl) (hv 67 rfl) (mvT hZ (hv 68 rfl)) (hv 69 rfl) (hv 70 rfl) (hv 71 rfl) (hv 72 rfl) (hv 73 rfl) (hv 74 rfl) (hv 52 rfl) (hb hby d_rmfa0_27) (by decide) (rmhn12 l Z a0 hw [] oi_30 l1 h49 n0 Z49 g_28 g_29 g_30) e49 g_31 rfl rfl pd_rmfa0_2 rfl (Nat.le_of_eq rfl) (by decide) (by decide) rfl rfl (by decide) (by decide)
    obtain ⟨rfl, Nq51, e51q⟩ := Q51
    have N51 := Fr.app N49 Nq51
    have e51 : T51.heap = h49 := e51q
    have k51 : Go p e below m W T51 32 #[.val (.ref a1), .val (.int (4 : Int32)), .val (.ref l1), .val (.ref oi_30), .val (.ref x0)] [(.int (1 : Int32))] := k51
    have k52 : Go p e below m W T51 36 #[.val (.ref a1), .val (.int (4 : Int32)), .val (.ref l1), .val (.ref oi_30), .val (.ref x0)] [(.ref oi_30)] := (k51.ifNo X51 hx (hb hby d_rmfa0_32) (XT.i0_eq_f (by decide))).aloadN X51 hx (hb hby d_rmfa0_35) rfl rfl
    have g_32 := q36_2.other W49 (Or.inl (Ne.symm g_26))
    have g_33 := q36_3.other W49 (Or.inl (Ne.symm g_26))
    have g_34 := (g_10.keep Kq36 (by simp only [List.mem_cons, List.not_mem_nil, or_false, not_or]; exact g_14)).other W49 (Or.inl g_7)
    have g_35 := (g_11.keep Kq36 (by simp only [List.mem_cons, List.not_mem_nil, or_false, not_or]; exact g_14)).other W49 (Or.inl g_7)
    have g_36 := (g_13.keep Kq36 (by simp only [List.mem_cons, List.not_mem_nil, or_false, not_or]; exact g_16)).other W49 g_12
    obtain ⟨T53, v53, L53, X53, Q53, k53⟩ := k52.iface (y := (⟨"java/util/Iterator", "next", "()Ljava/lang/Object;"⟩ : MethodName)) (z := (⟨"java/util/ArrayList$Itr", "next", "()Ljava/lang/Object;"⟩ : MethodName)) (Wd := 0) (cells' := 2) (slots' := 8) (argsL := []) (rest := []) X51 hx hZ hown (by rw [hml]; rfl) (hv 144 rfl) (hv 145 rfl) (mvT hZ (hv 146 rfl)) (hv 147 rfl) (hv 148 rfl) (hv 149 rfl) (hv 150 rfl) (hv 73 rfl) (hv 151 rfl) (hv 52 rfl) (hb hby d_rmfa0_36) (by decide) (rmnx12 l Z a0 hw [] oi_30 l1 d1 k1 (2 : Int32) (.int (0 : Int32)) x0 x1 h49 n0 Z49 g_31 q30_5 g_28 g_32 g_33 g_29 g_34 g_30 g_35 g_36 g_14 g_16) e51 g_31 rfl rfl pd_rmfa1_3 rfl (Nat.le_of_eq rfl) (by decide) (by decide) rfl rfl (by decide) (by decide)
    obtain ⟨rfl, Nq53, Kq53, q53_0, q53_1, q53_2, q53_3, q53_4⟩ := Q53
    have N53 := Fr.app N51 Nq53
    obtain ⟨h53, e53⟩ : ∃ h, T53.heap = h := ⟨_, rfl⟩
    rw [e53] at Kq53 q53_0 q53_1 q53_2 q53_3 q53_4
    have Z53 : n0 ≤ h53.size := Nat.le_trans Z49 Kq53.1
    have K53 : Keep h0 h53 [a1] := K49.trans Kq53 (by intro x q; simp only [List.mem_cons, List.not_mem_nil, or_false] at q; rcases q with rfl; exact (Or.inr H31))
    have k53 : Go p e below m W T53 41 #[.val (.ref a1), .val (.int (4 : Int32)), .val (.ref l1), .val (.ref oi_30), .val (.ref x0)] [(.ref x1)] := k53
    have g_37 := ((((((Ex1.ext E23).wr W24).keep Kq28).keep Kq30).keep Kq36).wr W49).keep Kq53
    obtain ⟨T54, X54, e54, k54⟩ := k53.castY X53 hx hZ hown (hv 158 rfl) e53 (Ins.self g_37) (hb hby d_rmfa0_41)
    have k54 : Go p e below m W T54 44 #[.val (.ref a1), .val (.int (4 : Int32)), .val (.ref l1), .val (.ref oi_30), .val (.ref x0)] [(.ref x1)] := k54
    have k55 : Go p e below m W T54 46 #[.val (.ref a1), .val (.int (4 : Int32)), .val (.ref l1), .val (.ref oi_30), .val (.ref x1)] [] := k54.astore X54 hx (hb hby d_rmfa0_44) rfl rfl
    have k56 : Go p e below m W T54 47 #[.val (.ref a1), .val (.int (4 : Int32)), .val (.ref l1), .val (.ref oi_30), .val (.ref x1)] [(.ref a1)] := k55.aloadN X54 hx (hb hby d_rmfa0_46) rfl rfl
    have g_38 := (g_20.other W49 (Or.inl g_4)).keep Kq53 (by simp only [List.mem_cons, List.not_mem_nil, or_false, not_or]; exact g_19)
    obtain ⟨T57, X57, e57, k57⟩ := k56.getF X54 hx hZ hown (host := "") (Or.inl (hv 35 rfl)) Via.refl e54 g_38 (hb hby d_rmfa0_47)
    have k57 : Go p e below m W T57 50 #[.val (.ref a1), .val (.int (4 : Int32)), .val (.ref l1), .val (.ref oi_30), .val (.ref x1)] [(.ref b23)] := k57
    have k58 : Go p e below m W T57 52 #[.val (.ref a1), .val (.int (4 : Int32)), .val (.ref l1), .val (.ref oi_30), .val (.ref x1)] [(.ref x1), (.ref b23)] := k57.aload X57 hx (hb hby d_rmfa0_50) rfl rfl
    have g_39 := (show x1 ≠ b23 from Nat.ne_of_lt (g23 ▸ Ex1.lt))
    have g_40 := ((Ex1.ext E23).wr W24).keep Kq28
    have g_41 := (show x1 ≠ oi_30 from Nat.ne_of_lt (Nat.lt_of_lt_of_le g_40.lt q30_6))
    have g_42 := ((((((Ff1.ext E23).other W24 (Or.inl nx1)).keep Kq28 (by simp only [List.mem_cons, List.not_mem_nil, or_false, not_or]; exact g_39)).keep Kq30 (List.not_mem_nil)).keep Kq36 (by simp only [List.mem_cons, List.not_mem_nil, or_false, not_or]; exact g_41)).other W49 (Or.inl g_39)).keep Kq53 (by simp only [List.mem_cons, List.not_mem_nil, or_false, not_or]; exact g_41)
    obtain ⟨T59, v59, L59, X59, Q59, k59⟩ := k58.virt (y := (⟨"com/example/enact/enact/Classification$Flat", "feeder", "()I"⟩ : MethodName)) (z := (⟨"com/example/enact/enact/Classification$Flat", "feeder", "()I"⟩ : MethodName)) (Wd := 1) (cells' := 2) (slots' := 8) (argsL := []) (rest := [(.ref b23)]) X57 hx hZ hown (by rw [hml]; rfl) (hv 160 rfl) (hv 161 rfl) (notFace_of_selects (args := #[]) (mvT hZ (hv 163 rfl))) (hv 163 rfl) (hv 162 rfl) (hv 164 rfl) (hv 97 rfl) (hb hby d_rmfa0_52) (by decide) (rmfe l Z a0 hw [] x1 f1 h53 n0 Z53 g_42) e57 g_37 rfl rfl pd_rmfa1_4 rfl (Nat.le_of_eq rfl) (by decide) (by decide) rfl rfl (by decide) (by decide)
    obtain ⟨rfl, Nq59, e59q⟩ := Q59
    have N59 := Fr.app N53 Nq59
    have e59 : T59.heap = h53 := e59q
    have k59 : Go p e below m W T59 55 #[.val (.ref a1), .val (.int (4 : Int32)), .val (.ref l1), .val (.ref oi_30), .val (.ref x1)] [(.int f1), (.ref b23)] := k59
    have k60 : Go p e below m W T59 57 #[.val (.ref a1), .val (.int (4 : Int32)), .val (.ref l1), .val (.ref oi_30), .val (.ref x1)] [(.ref x1), (.int f1), (.ref b23)] := k59.aload X59 hx (hb hby d_rmfa0_55) rfl rfl
    have g_43 := ((((((Fp1.ext E23).other W24 (Or.inl nx1)).keep Kq28 (by simp only [List.mem_cons, List.not_mem_nil, or_false, not_or]; exact g_39)).keep Kq30 (List.not_mem_nil)).keep Kq36 (by simp only [List.mem_cons, List.not_mem_nil, or_false, not_or]; exact g_41)).other W49 (Or.inl g_39)).keep Kq53 (by simp only [List.mem_cons, List.not_mem_nil, or_false, not_or]; exact g_41)
    obtain ⟨T61, v61, L61, X61, Q61, k61⟩ := k60.virt (y := (⟨"com/example/enact/enact/Classification$Flat", "place", "()I"⟩ : MethodName)) (z := (⟨"com/example/enact/enact/Classification$Flat", "place", "()I"⟩ : MethodName)) (Wd := 2) (cells' := 2) (slots' := 8) (argsL := []) (rest := [(.int f1), (.ref b23)]) X59 hx hZ hown (by rw [hml]; rfl) (hv 165 rfl) (hv 166 rfl) (notFace_of_selects (args := #[]) (mvT hZ (hv 168 rfl))) (hv 168 rfl) (hv 167 rfl) (hv 169 rfl) (hv 97 rfl) (hb hby d_rmfa0_57) (by decide) (rmfp l Z a0 hw [] x1 q1 h53 n0 Z53 g_43) e59 g_37 rfl rfl pd_rmfa1_4 rfl (Nat.le_of_eq rfl) (by decide) (by decide) rfl rfl (by decide) (by decide)
    obtain ⟨rfl, Nq61, e61q⟩ := Q61
    have N61 := Fr.app N59 Nq61
    have e61 : T61.heap = h53 := e61q
    have k61 : Go p e below m W T61 60 #[.val (.ref a1), .val (.int (4 : Int32)), .val (.ref l1), .val (.ref oi_30), .val (.ref x1)] [(.int q1), (.int f1), (.ref b23)] := k61
    rcases B1 with q62 | q63 | q64 | q65
    ·
      subst f1
      have g_44 := V49.keep Kq53 (by simp only [List.mem_cons, List.not_mem_nil, or_false, not_or]; exact g_26)
      obtain ⟨T66, h66, l66, X66, e66, W66, V66, N66, k66⟩ := k61.iastore (i := 0) X61 hx hZ e61 g_44 rfl rfl (by decide) (Nat.le_of_ble_eq_true rfl) N61 G23 (hb hby d_rmfa0_60)
      have k66 : Go p e below m W T66 61 #[.val (.ref a1), .val (.int (4 : Int32)), .val (.ref l1), .val (.ref oi_30), .val (.ref x1)] [] := k66
      have Z66 : n0 ≤ h66.size := (Wr.size W66).symm ▸ Z53
      have V66 : Arv Z h66 b23 c23 .int (4 : Int32) [(.int q1), (.int (-1 : Int32)), (.int (-1 : Int32)), (.int (-1 : Int32))] (.int (0 : Int32)) := V66
      have K66 : Keep h0 h66 [a1] := K53.wr W66 (Or.inr H23)
      have k67 : Go p e below m W T66 27 #[.val (.ref a1), .val (.int (4 : Int32)), .val (.ref l1), .val (.ref oi_30), .val (.ref x1)] [(.ref oi_30)] := (k66.goto X66 hx (hb hby d_rmfa0_61) (by decide) (by decide)).aloadN X66 hx (hb hby d_rmfa0_26) rfl rfl
      have g_45 := q53_1.other W66 (Or.inl (Ne.symm g_26))
      have g_46 := q53_4.other W66 (Or.inl (Ne.symm g_26))
      have g_47 := (g_30.keep Kq53 (by simp only [List.mem_cons, List.not_mem_nil, or_false, not_or]; exact g_14)).other W66 (Or.inl g_7)
      have g_48 := q53_0.wr W66
      obtain ⟨T68, v68, L68, X68, Q68, k68⟩ := k67.iface (y := (⟨"java/util/Iterator", "hasNext", "()Z"⟩ : MethodName)) (z := (⟨"java/util/ArrayList$Itr", "hasNext", "()Z"⟩ : MethodName)) (Wd := 0) (cells' := 2) (slots' := 8) (argsL := []) (rest := []) X66 hx hZ hown (by rw [hml]; rfl) (hv 66 rfl) (hv 67 rfl) (mvT hZ (hv 68 rfl)) (hv 69 rfl) (hv 70 rfl) (hv 71 rfl) (hv 72 rfl) (hv 73 rfl) (hv 74 rfl) (hv 52 rfl) (hb hby d_rmfa0_27) (by decide) (rmhn22 l Z a0 hw [] oi_30 l1 h66 n0 Z66 g_45 g_46 g_47) e66 g_48 rfl rfl pd_rmfa0_2 rfl (Nat.le_of_eq rfl) (by decide) (by decide) rfl rfl (by decide) (by decide)
      obtain ⟨rfl, Nq68, e68q⟩ := Q68
      have N68 := Fr.app N66 Nq68
      have e68 : T68.heap = h66 := e68q
      have k68 : Go p e below m W T68 32 #[.val (.ref a1), .val (.int (4 : Int32)), .val (.ref l1), .val (.ref oi_30), .val (.ref x1)] [(.int (0 : Int32))] := k68
      have k69 : Go p e below m W T68 66 #[.val (.ref a1), .val (.int (4 : Int32)), .val (.ref l1), .val (.ref oi_30), .val (.ref x1)] [(.ref l1), (.ref a1)] := ((k68.ifYes X68 hx (hb hby d_rmfa0_32) (XT.i0_eq_t (by decide)) (by decide) (by decide)).aloadN X68 hx (hb hby d_rmfa0_64) rfl rfl).aloadN X68 hx (hb hby d_rmfa0_65) rfl rfl
      have g_49 := ((((g_6.keep Kq30).keep Kq36).wr W49).keep Kq53).wr W66
      obtain ⟨T70, v70, L70, X70, Q70, k70⟩ := k69.iface (y := (⟨"java/util/List", "isEmpty", "()Z"⟩ : MethodName)) (z := (⟨"java/util/ArrayList", "isEmpty", "()Z"⟩ : MethodName)) (Wd := 1) (cells' := 2) (slots' := 8) (argsL := []) (rest := [(.ref a1)]) X68 hx hZ hown (by rw [hml]; rfl) (hv 79 rfl) (hv 80 rfl) (mvT hZ (hv 81 rfl)) (hv 82 rfl) (hv 83 rfl) (hv 84 rfl) (hv 85 rfl) (hv 48 rfl) (hv 86 rfl) (hv 3 rfl) (hb hby d_rmfa0_66) (by decide) (rmem2 l Z a0 hw [] l1 h66 n0 Z66 g_47) e68 g_49 rfl rfl pd_rmfa0_2 rfl (Nat.le_of_eq rfl) (by decide) (by decide) rfl rfl (by decide) (by decide)
      obtain ⟨rfl, Nq70, e70q⟩ := Q70
      have N70 := Fr.app N68 Nq70
      have e70 : T70.heap = h66 := e70q
      have k70 : Go p e below m W T70 71 #[.val (.ref a1), .val (.int (4 : Int32)), .val (.ref l1), .val (.ref oi_30), .val (.ref x1)] [(.int (0 : Int32)), (.ref a1)] := k70
      have k71 : Go p e below m W T70 79 #[.val (.ref a1), .val (.int (4 : Int32)), .val (.ref l1), .val (.ref oi_30), .val (.ref x1)] [(.int (1 : Int32)), (.ref a1)] := ((k70.ifNo X70 hx (hb hby d_rmfa0_71) (XT.i0_ne_f (by decide))).iconst X70 hx (hb hby d_rmfa0_74) (v := (1 : Int32)) rfl).goto X70 hx (hb hby d_rmfa0_75) (by decide) (by decide)
      have g_50 := (((((((F1.ext E23).other W24 (Or.inr (slot_ne (Or.inr (hv 89 rfl)) (Or.inr (hv 36 rfl)) (by decide) (by decide : parseFieldDescriptor "Z" = some .boolean) (by decide : parseFieldDescriptor "[I" = some (.array .int))))).keep Kq28 (by simp only [List.mem_cons, List.not_mem_nil, or_false, not_or]; exact g_4)).keep Kq30 (List.not_mem_nil)).keep Kq36 (by simp only [List.mem_cons, List.not_mem_nil, or_false, not_or]; exact g_19)).other W49 (Or.inl g_4)).keep Kq53 (by simp only [List.mem_cons, List.not_mem_nil, or_false, not_or]; exact g_19)).other W66 (Or.inl g_4)
      have g_51 := ((((g_18.keep Kq30).keep Kq36).wr W49).keep Kq53).wr W66
      obtain ⟨T72, h72, l72, X72, e72, W72, N72, k72⟩ := k71.putF X70 hx hZ hown (host := "") (Or.inl (hv 88 rfl)) Via.refl e70 g_50 g_51 (Or.inr ⟨(hv 89 rfl), rfl, hnm⟩) (hv 28 rfl) (ty := .boolean) (by decide) (own_nz (Or.inr rfl)).1 (own_nz (Or.inr rfl)).2.1 N70 G1 (hb hby d_rmfa0_79)
      have k72 : Go p e below m W T72 82 #[.val (.ref a1), .val (.int (4 : Int32)), .val (.ref l1), .val (.ref oi_30), .val (.ref x1)] [] := k72
      have Z72 : n0 ≤ h72.size := (Wr.size W72).symm ▸ Z66
      have K72 : Keep h0 h72 [a1] := K66.wr W72 (Or.inl (List.mem_of_getElem? (i := 0) rfl))
      have g_52 := g_51.wr W72
      have g_53 := (g_38.other W66 (Or.inl g_4)).other W72 (Or.inr (slot_ne (Or.inr (hv 36 rfl)) (Or.inr (hv 89 rfl)) (by decide) (by decide : parseFieldDescriptor "[I" = some (.array .int)) (by decide : parseFieldDescriptor "Z" = some .boolean)))
      have g_54 := V66.other W72 (Ne.symm g_4)
      exact k72.return_ X72 hx Bd.returns (hb hby d_rmfa0_82) (BodyLoose.notSynchronized Bd) (by rw [e72]; exact ⟨b23, c23, rfl, N72, K72, g_52, g_53, (own_cv4 g_54 (by first | rfl | (simp [own_e1, own_e2]; done)) (by first | rfl | (simp [own_e1, own_e2]; done)) (by first | rfl | (simp [own_e1, own_e2]; done)) (by first | rfl | (simp [own_e1, own_e2]; done))), G23, H23, g_4⟩) (by decide) (by decide)
    ·
      subst f1
      have g_55 := V49.keep Kq53 (by simp only [List.mem_cons, List.not_mem_nil, or_false, not_or]; exact g_26)
      obtain ⟨T73, h73, l73, X73, e73, W73, V73, N73, k73⟩ := k61.iastore (i := 1) X61 hx hZ e61 g_55 rfl rfl (by decide) (Nat.le_of_ble_eq_true rfl) N61 G23 (hb hby d_rmfa0_60)
      have k73 : Go p e below m W T73 61 #[.val (.ref a1), .val (.int (4 : Int32)), .val (.ref l1), .val (.ref oi_30), .val (.ref x1)] [] := k73
      have Z73 : n0 ≤ h73.size := (Wr.size W73).symm ▸ Z53
      have V73 : Arv Z h73 b23 c23 .int (4 : Int32) [(.int q0), (.int q1), (.int (-1 : Int32)), (.int (-1 : Int32))] (.int (0 : Int32)) := V73
      have K73 : Keep h0 h73 [a1] := K53.wr W73 (Or.inr H23)
      have k74 : Go p e below m W T73 27 #[.val (.ref a1), .val (.int (4 : Int32)), .val (.ref l1), .val (.ref oi_30), .val (.ref x1)] [(.ref oi_30)] := (k73.goto X73 hx (hb hby d_rmfa0_61) (by decide) (by decide)).aloadN X73 hx (hb hby d_rmfa0_26) rfl rfl
      have g_56 := q53_1.other W73 (Or.inl (Ne.symm g_26))
      have g_57 := q53_4.other W73 (Or.inl (Ne.symm g_26))
      have g_58 := (g_30.keep Kq53 (by simp only [List.mem_cons, List.not_mem_nil, or_false, not_or]; exact g_14)).other W73 (Or.inl g_7)
      have g_59 := q53_0.wr W73
      obtain ⟨T75, v75, L75, X75, Q75, k75⟩ := k74.iface (y := (⟨"java/util/Iterator", "hasNext", "()Z"⟩ : MethodName)) (z := (⟨"java/util/ArrayList$Itr", "hasNext", "()Z"⟩ : MethodName)) (Wd := 0) (cells' := 2) (slots' := 8) (argsL := []) (rest := []) X73 hx hZ hown (by rw [hml]; rfl) (hv 66 rfl) (hv 67 rfl) (mvT hZ (hv 68 rfl)) (hv 69 rfl) (hv 70 rfl) (hv 71 rfl) (hv 72 rfl) (hv 73 rfl) (hv 74 rfl) (hv 52 rfl) (hb hby d_rmfa0_27) (by decide) (rmhn22 l Z a0 hw [] oi_30 l1 h73 n0 Z73 g_56 g_57 g_58) e73 g_59 rfl rfl pd_rmfa0_2 rfl (Nat.le_of_eq rfl) (by decide) (by decide) rfl rfl (by decide) (by decide)
      obtain ⟨rfl, Nq75, e75q⟩ := Q75
      have N75 := Fr.app N73 Nq75
      have e75 : T75.heap = h73 := e75q
      have k75 : Go p e below m W T75 32 #[.val (.ref a1), .val (.int (4 : Int32)), .val (.ref l1), .val (.ref oi_30), .val (.ref x1)] [(.int (0 : Int32))] := k75
      have k76 : Go p e below m W T75 66 #[.val (.ref a1), .val (.int (4 : Int32)), .val (.ref l1), .val (.ref oi_30), .val (.ref x1)] [(.ref l1), (.ref a1)] := ((k75.ifYes X75 hx (hb hby d_rmfa0_32) (XT.i0_eq_t (by decide)) (by decide) (by decide)).aloadN X75 hx (hb hby d_rmfa0_64) rfl rfl).aloadN X75 hx (hb hby d_rmfa0_65) rfl rfl
      have g_60 := ((((g_6.keep Kq30).keep Kq36).wr W49).keep Kq53).wr W73
      obtain ⟨T77, v77, L77, X77, Q77, k77⟩ := k76.iface (y := (⟨"java/util/List", "isEmpty", "()Z"⟩ : MethodName)) (z := (⟨"java/util/ArrayList", "isEmpty", "()Z"⟩ : MethodName)) (Wd := 1) (cells' := 2) (slots' := 8) (argsL := []) (rest := [(.ref a1)]) X75 hx hZ hown (by rw [hml]; rfl) (hv 79 rfl) (hv 80 rfl) (mvT hZ (hv 81 rfl)) (hv 82 rfl) (hv 83 rfl) (hv 84 rfl) (hv 85 rfl) (hv 48 rfl) (hv 86 rfl) (hv 3 rfl) (hb hby d_rmfa0_66) (by decide) (rmem2 l Z a0 hw [] l1 h73 n0 Z73 g_58) e75 g_60 rfl rfl pd_rmfa0_2 rfl (Nat.le_of_eq rfl) (by decide) (by decide) rfl rfl (by decide) (by decide)
      obtain ⟨rfl, Nq77, e77q⟩ := Q77
      have N77 := Fr.app N75 Nq77
      have e77 : T77.heap = h73 := e77q
      have k77 : Go p e below m W T77 71 #[.val (.ref a1), .val (.int (4 : Int32)), .val (.ref l1), .val (.ref oi_30), .val (.ref x1)] [(.int (0 : Int32)), (.ref a1)] := k77
      have k78 : Go p e below m W T77 79 #[.val (.ref a1), .val (.int (4 : Int32)), .val (.ref l1), .val (.ref oi_30), .val (.ref x1)] [(.int (1 : Int32)), (.ref a1)] := ((k77.ifNo X77 hx (hb hby d_rmfa0_71) (XT.i0_ne_f (by decide))).iconst X77 hx (hb hby d_rmfa0_74) (v := (1 : Int32)) rfl).goto X77 hx (hb hby d_rmfa0_75) (by decide) (by decide)
      have g_61 := (((((((F1.ext E23).other W24 (Or.inr (slot_ne (Or.inr (hv 89 rfl)) (Or.inr (hv 36 rfl)) (by decide) (by decide : parseFieldDescriptor "Z" = some .boolean) (by decide : parseFieldDescriptor "[I" = some (.array .int))))).keep Kq28 (by simp only [List.mem_cons, List.not_mem_nil, or_false, not_or]; exact g_4)).keep Kq30 (List.not_mem_nil)).keep Kq36 (by simp only [List.mem_cons, List.not_mem_nil, or_false, not_or]; exact g_19)).other W49 (Or.inl g_4)).keep Kq53 (by simp only [List.mem_cons, List.not_mem_nil, or_false, not_or]; exact g_19)).other W73 (Or.inl g_4)
      have g_62 := ((((g_18.keep Kq30).keep Kq36).wr W49).keep Kq53).wr W73
      obtain ⟨T79, h79, l79, X79, e79, W79, N79, k79⟩ := k78.putF X77 hx hZ hown (host := "") (Or.inl (hv 88 rfl)) Via.refl e77 g_61 g_62 (Or.inr ⟨(hv 89 rfl), rfl, hnm⟩) (hv 28 rfl) (ty := .boolean) (by decide) (own_nz (Or.inr rfl)).1 (own_nz (Or.inr rfl)).2.1 N77 G1 (hb hby d_rmfa0_79)
      have k79 : Go p e below m W T79 82 #[.val (.ref a1), .val (.int (4 : Int32)), .val (.ref l1), .val (.ref oi_30), .val (.ref x1)] [] := k79
      have Z79 : n0 ≤ h79.size := (Wr.size W79).symm ▸ Z73
      have K79 : Keep h0 h79 [a1] := K73.wr W79 (Or.inl (List.mem_of_getElem? (i := 0) rfl))
      have g_63 := g_62.wr W79
      have g_64 := (g_38.other W73 (Or.inl g_4)).other W79 (Or.inr (slot_ne (Or.inr (hv 36 rfl)) (Or.inr (hv 89 rfl)) (by decide) (by decide : parseFieldDescriptor "[I" = some (.array .int)) (by decide : parseFieldDescriptor "Z" = some .boolean)))
      have g_65 := V73.other W79 (Ne.symm g_4)
      exact k79.return_ X79 hx Bd.returns (hb hby d_rmfa0_82) (BodyLoose.notSynchronized Bd) (by rw [e79]; exact ⟨b23, c23, rfl, N79, K79, g_63, g_64, (own_cv4 g_65 (by first | rfl | (simp [own_e1, own_e2]; done)) (by first | rfl | (simp [own_e1, own_e2]; done)) (by first | rfl | (simp [own_e1, own_e2]; done)) (by first | rfl | (simp [own_e1, own_e2]; done))), G23, H23, g_4⟩) (by decide) (by decide)
    ·
      subst f1
      have g_66 := V49.keep Kq53 (by simp only [List.mem_cons, List.not_mem_nil, or_false, not_or]; exact g_26)
      obtain ⟨T80, h80, l80, X80, e80, W80, V80, N80, k80⟩ := k61.iastore (i := 2) X61 hx hZ e61 g_66 rfl rfl (by decide) (Nat.le_of_ble_eq_true rfl) N61 G23 (hb hby d_rmfa0_60)
      have k80 : Go p e below m W T80 61 #[.val (.ref a1), .val (.int (4 : Int32)), .val (.ref l1), .val (.ref oi_30), .val (.ref x1)] [] := k80
      have Z80 : n0 ≤ h80.size := (Wr.size W80).symm ▸ Z53
      have V80 : Arv Z h80 b23 c23 .int (4 : Int32) [(.int q0), (.int (-1 : Int32)), (.int q1), (.int (-1 : Int32))] (.int (0 : Int32)) := V80
      have K80 : Keep h0 h80 [a1] := K53.wr W80 (Or.inr H23)
      have k81 : Go p e below m W T80 27 #[.val (.ref a1), .val (.int (4 : Int32)), .val (.ref l1), .val (.ref oi_30), .val (.ref x1)] [(.ref oi_30)] := (k80.goto X80 hx (hb hby d_rmfa0_61) (by decide) (by decide)).aloadN X80 hx (hb hby d_rmfa0_26) rfl rfl
      have g_67 := q53_1.other W80 (Or.inl (Ne.symm g_26))
      have g_68 := q53_4.other W80 (Or.inl (Ne.symm g_26))
      have g_69 := (g_30.keep Kq53 (by simp only [List.mem_cons, List.not_mem_nil, or_false, not_or]; exact g_14)).other W80 (Or.inl g_7)
      have g_70 := q53_0.wr W80
      obtain ⟨T82, v82, L82, X82, Q82, k82⟩ := k81.iface (y := (⟨"java/util/Iterator", "hasNext", "()Z"⟩ : MethodName)) (z := (⟨"java/util/ArrayList$Itr", "hasNext", "()Z"⟩ : MethodName)) (Wd := 0) (cells' := 2) (slots' := 8) (argsL := []) (rest := []) X80 hx hZ hown (by rw [hml]; rfl) (hv 66 rfl) (hv 67 rfl) (mvT hZ (hv 68 rfl)) (hv 69 rfl) (hv 70 rfl) (hv 71 rfl) (hv 72 rfl) (hv 73 rfl) (hv 74 rfl) (hv 52 rfl) (hb hby d_rmfa0_27) (by decide) (rmhn22 l Z a0 hw [] oi_30 l1 h80 n0 Z80 g_67 g_68 g_69) e80 g_70 rfl rfl pd_rmfa0_2 rfl (Nat.le_of_eq rfl) (by decide) (by decide) rfl rfl (by decide) (by decide)
      obtain ⟨rfl, Nq82, e82q⟩ := Q82
      have N82 := Fr.app N80 Nq82
      have e82 : T82.heap = h80 := e82q
      have k82 : Go p e below m W T82 32 #[.val (.ref a1), .val (.int (4 : Int32)), .val (.ref l1), .val (.ref oi_30), .val (.ref x1)] [(.int (0 : Int32))] := k82
      have k83 : Go p e below m W T82 66 #[.val (.ref a1), .val (.int (4 : Int32)), .val (.ref l1), .val (.ref oi_30), .val (.ref x1)] [(.ref l1), (.ref a1)] := ((k82.ifYes X82 hx (hb hby d_rmfa0_32) (XT.i0_eq_t (by decide)) (by decide) (by decide)).aloadN X82 hx (hb hby d_rmfa0_64) rfl rfl).aloadN X82 hx (hb hby d_rmfa0_65) rfl rfl
      have g_71 := ((((g_6.keep Kq30).keep Kq36).wr W49).keep Kq53).wr W80
      obtain ⟨T84, v84, L84, X84, Q84, k84⟩ := k83.iface (y := (⟨"java/util/List", "isEmpty", "()Z"⟩ : MethodName)) (z := (⟨"java/util/ArrayList", "isEmpty", "()Z"⟩ : MethodName)) (Wd := 1) (cells' := 2) (slots' := 8) (argsL := []) (rest := [(.ref a1)]) X82 hx hZ hown (by rw [hml]; rfl) (hv 79 rfl) (hv 80 rfl) (mvT hZ (hv 81 rfl)) (hv 82 rfl) (hv 83 rfl) (hv 84 rfl) (hv 85 rfl) (hv 48 rfl) (hv 86 rfl) (hv 3 rfl) (hb hby d_rmfa0_66) (by decide) (rmem2 l Z a0 hw [] l1 h80 n0 Z80 g_69) e82 g_71 rfl rfl pd_rmfa0_2 rfl (Nat.le_of_eq rfl) (by decide) (by decide) rfl rfl (by decide) (by decide)
      obtain ⟨rfl, Nq84, e84q⟩ := Q84
      have N84 := Fr.app N82 Nq84
      have e84 : T84.heap = h80 := e84q
      have k84 : Go p e below m W T84 71 #[.val (.ref a1), .val (.int (4 : Int32)), .val (.ref l1), .val (.ref oi_30), .val (.ref x1)] [(.int (0 : Int32)), (.ref a1)] := k84
      have k85 : Go p e below m W T84 79 #[.val (.ref a1), .val (.int (4 : Int32)), .val (.ref l1), .val (.ref oi_30), .val (.ref x1)] [(.int (1 : Int32)), (.ref a1)] := ((k84.ifNo X84 hx (hb hby d_rmfa0_71) (XT.i0_ne_f (by decide))).iconst X84 hx (hb hby d_rmfa0_74) (v := (1 : Int32)) rfl).goto X84 hx (hb hby d_rmfa0_75) (by decide) (by decide)
      have g_72 := (((((((F1.ext E23).other W24 (Or.inr (slot_ne (Or.inr (hv 89 rfl)) (Or.inr (hv 36 rfl)) (by decide) (by decide : parseFieldDescriptor "Z" = some .boolean) (by decide : parseFieldDescriptor "[I" = some (.array .int))))).keep Kq28 (by simp only [List.mem_cons, List.not_mem_nil, or_false, not_or]; exact g_4)).keep Kq30 (List.not_mem_nil)).keep Kq36 (by simp only [List.mem_cons, List.not_mem_nil, or_false, not_or]; exact g_19)).other W49 (Or.inl g_4)).keep Kq53 (by simp only [List.mem_cons, List.not_mem_nil, or_false, not_or]; exact g_19)).other W80 (Or.inl g_4)
      have g_73 := ((((g_18.keep Kq30).keep Kq36).wr W49).keep Kq53).wr W80
      obtain ⟨T86, h86, l86, X86, e86, W86, N86, k86⟩ := k85.putF X84 hx hZ hown (host := "") (Or.inl (hv 88 rfl)) Via.refl e84 g_72 g_73 (Or.inr ⟨(hv 89 rfl), rfl, hnm⟩) (hv 28 rfl) (ty := .boolean) (by decide) (own_nz (Or.inr rfl)).1 (own_nz (Or.inr rfl)).2.1 N84 G1 (hb hby d_rmfa0_79)
      have k86 : Go p e below m W T86 82 #[.val (.ref a1), .val (.int (4 : Int32)), .val (.ref l1), .val (.ref oi_30), .val (.ref x1)] [] := k86
      have Z86 : n0 ≤ h86.size := (Wr.size W86).symm ▸ Z80
      have K86 : Keep h0 h86 [a1] := K80.wr W86 (Or.inl (List.mem_of_getElem? (i := 0) rfl))
      have g_74 := g_73.wr W86
      have g_75 := (g_38.other W80 (Or.inl g_4)).other W86 (Or.inr (slot_ne (Or.inr (hv 36 rfl)) (Or.inr (hv 89 rfl)) (by decide) (by decide : parseFieldDescriptor "[I" = some (.array .int)) (by decide : parseFieldDescriptor "Z" = some .boolean)))
      have g_76 := V80.other W86 (Ne.symm g_4)
      exact k86.return_ X86 hx Bd.returns (hb hby d_rmfa0_82) (BodyLoose.notSynchronized Bd) (by rw [e86]; exact ⟨b23, c23, rfl, N86, K86, g_74, g_75, (own_cv4 g_76 (by first | rfl | (simp [own_e1, own_e2]; done)) (by first | rfl | (simp [own_e1, own_e2]; done)) (by first | rfl | (simp [own_e1, own_e2]; done)) (by first | rfl | (simp [own_e1, own_e2]; done))), G23, H23, g_4⟩) (by decide) (by decide)
    ·
      subst f1
      have g_77 := V49.keep Kq53 (by simp only [List.mem_cons, List.not_mem_nil, or_false, not_or]; exact g_26)
      obtain ⟨T87, h87, l87, X87, e87, W87, V87, N87, k87⟩ := k61.iastore (i := 3) X61 hx hZ e61 g_77 rfl rfl (by decide) (Nat.le_of_ble_eq_true rfl) N61 G23 (hb hby d_rmfa0_60)
      have k87 : Go p e below m W T87 61 #[.val (.ref a1), .val (.int (4 : Int32)), .val (.ref l1), .val (.ref oi_30), .val (.ref x1)] [] := k87
      have Z87 : n0 ≤ h87.size := (Wr.size W87).symm ▸ Z53
      have V87 : Arv Z h87 b23 c23 .int (4 : Int32) [(.int q0), (.int (-1 : Int32)), (.int (-1 : Int32)), (.int q1)] (.int (0 : Int32)) := V87
      have K87 : Keep h0 h87 [a1] := K53.wr W87 (Or.inr H23)
      have k88 : Go p e below m W T87 27 #[.val (.ref a1), .val (.int (4 : Int32)), .val (.ref l1), .val (.ref oi_30), .val (.ref x1)] [(.ref oi_30)] := (k87.goto X87 hx (hb hby d_rmfa0_61) (by decide) (by decide)).aloadN X87 hx (hb hby d_rmfa0_26) rfl rfl
      have g_78 := q53_1.other W87 (Or.inl (Ne.symm g_26))
      have g_79 := q53_4.other W87 (Or.inl (Ne.symm g_26))
      have g_80 := (g_30.keep Kq53 (by simp only [List.mem_cons, List.not_mem_nil, or_false, not_or]; exact g_14)).other W87 (Or.inl g_7)
      have g_81 := q53_0.wr W87
      obtain ⟨T89, v89, L89, X89, Q89, k89⟩ := k88.iface (y := (⟨"java/util/Iterator", "hasNext", "()Z"⟩ : MethodName)) (z := (⟨"java/util/ArrayList$Itr", "hasNext", "()Z"⟩ : MethodName)) (Wd := 0) (cells' := 2) (slots' := 8) (argsL := []) (rest := []) X87 hx hZ hown (by rw [hml]; rfl) (hv 66 rfl) (hv 67 rfl) (mvT hZ (hv 68 rfl)) (hv 69 rfl) (hv 70 rfl) (hv 71 rfl) (hv 72 rfl) (hv 73 rfl) (hv 74 rfl) (hv 52 rfl) (hb hby d_rmfa0_27) (by decide) (rmhn22 l Z a0 hw [] oi_30 l1 h87 n0 Z87 g_78 g_79 g_80) e87 g_81 rfl rfl pd_rmfa0_2 rfl (Nat.le_of_eq rfl) (by decide) (by decide) rfl rfl (by decide) (by decide)
      obtain ⟨rfl, Nq89, e89q⟩ := Q89
      have N89 := Fr.app N87 Nq89
      have e89 : T89.heap = h87 := e89q
      have k89 : Go p e below m W T89 32 #[.val (.ref a1), .val (.int (4 : Int32)), .val (.ref l1), .val (.ref oi_30), .val (.ref x1)] [(.int (0 : Int32))] := k89
      have k90 : Go p e below m W T89 66 #[.val (.ref a1), .val (.int (4 : Int32)), .val (.ref l1), .val (.ref oi_30), .val (.ref x1)] [(.ref l1), (.ref a1)] := ((k89.ifYes X89 hx (hb hby d_rmfa0_32) (XT.i0_eq_t (by decide)) (by decide) (by decide)).aloadN X89 hx (hb hby d_rmfa0_64) rfl rfl).aloadN X89 hx (hb hby d_rmfa0_65) rfl rfl
      have g_82 := ((((g_6.keep Kq30).keep Kq36).wr W49).keep Kq53).wr W87
      obtain ⟨T91, v91, L91, X91, Q91, k91⟩ := k90.iface (y := (⟨"java/util/List", "isEmpty", "()Z"⟩ : MethodName)) (z := (⟨"java/util/ArrayList", "isEmpty", "()Z"⟩ : MethodName)) (Wd := 1) (cells' := 2) (slots' := 8) (argsL := []) (rest := [(.ref a1)]) X89 hx hZ hown (by rw [hml]; rfl) (hv 79 rfl) (hv 80 rfl) (mvT hZ (hv 81 rfl)) (hv 82 rfl) (hv 83 rfl) (hv 84 rfl) (hv 85 rfl) (hv 48 rfl) (hv 86 rfl) (hv 3 rfl) (hb hby d_rmfa0_66) (by decide) (rmem2 l Z a0 hw [] l1 h87 n0 Z87 g_80) e89 g_82 rfl rfl pd_rmfa0_2 rfl (Nat.le_of_eq rfl) (by decide) (by decide) rfl rfl (by decide) (by decide)
      obtain ⟨rfl, Nq91, e91q⟩ := Q91
      have N91 := Fr.app N89 Nq91
      have e91 : T91.heap = h87 := e91q
      have k91 : Go p e below m W T91 71 #[.val (.ref a1), .val (.int (4 : Int32)), .val (.ref l1), .val (.ref oi_30), .val (.ref x1)] [(.int (0 : Int32)), (.ref a1)] := k91
      have k92 : Go p e below m W T91 79 #[.val (.ref a1), .val (.int (4 : Int32)), .val (.ref l1), .val (.ref oi_30), .val (.ref x1)] [(.int (1 : Int32)), (.ref a1)] := ((k91.ifNo X91 hx (hb hby d_rmfa0_71) (XT.i0_ne_f (by decide))).iconst X91 hx (hb hby d_rmfa0_74) (v := (1 : Int32)) rfl).goto X91 hx (hb hby d_rmfa0_75) (by decide) (by decide)
      have g_83 := (((((((F1.ext E23).other W24 (Or.inr (slot_ne (Or.inr (hv 89 rfl)) (Or.inr (hv 36 rfl)) (by decide) (by decide : parseFieldDescriptor "Z" = some .boolean) (by decide : parseFieldDescriptor "[I" = some (.array .int))))).keep Kq28 (by simp only [List.mem_cons, List.not_mem_nil, or_false, not_or]; exact g_4)).keep Kq30 (List.not_mem_nil)).keep Kq36 (by simp only [List.mem_cons, List.not_mem_nil, or_false, not_or]; exact g_19)).other W49 (Or.inl g_4)).keep Kq53 (by simp only [List.mem_cons, List.not_mem_nil, or_false, not_or]; exact g_19)).other W87 (Or.inl g_4)
      have g_84 := ((((g_18.keep Kq30).keep Kq36).wr W49).keep Kq53).wr W87
      obtain ⟨T93, h93, l93, X93, e93, W93, N93, k93⟩ := k92.putF X91 hx hZ hown (host := "") (Or.inl (hv 88 rfl)) Via.refl e91 g_83 g_84 (Or.inr ⟨(hv 89 rfl), rfl, hnm⟩) (hv 28 rfl) (ty := .boolean) (by decide) (own_nz (Or.inr rfl)).1 (own_nz (Or.inr rfl)).2.1 N91 G1 (hb hby d_rmfa0_79)
      have k93 : Go p e below m W T93 82 #[.val (.ref a1), .val (.int (4 : Int32)), .val (.ref l1), .val (.ref oi_30), .val (.ref x1)] [] := k93
      have Z93 : n0 ≤ h93.size := (Wr.size W93).symm ▸ Z87
      have K93 : Keep h0 h93 [a1] := K87.wr W93 (Or.inl (List.mem_of_getElem? (i := 0) rfl))
      have g_85 := g_84.wr W93
      have g_86 := (g_38.other W87 (Or.inl g_4)).other W93 (Or.inr (slot_ne (Or.inr (hv 36 rfl)) (Or.inr (hv 89 rfl)) (by decide) (by decide : parseFieldDescriptor "[I" = some (.array .int)) (by decide : parseFieldDescriptor "Z" = some .boolean)))
      have g_87 := V87.other W93 (Ne.symm g_4)
      exact k93.return_ X93 hx Bd.returns (hb hby d_rmfa0_82) (BodyLoose.notSynchronized Bd) (by rw [e93]; exact ⟨b23, c23, rfl, N93, K93, g_85, g_86, (own_cv4 g_87 (by first | rfl | (simp [own_e1, own_e2]; done)) (by first | rfl | (simp [own_e1, own_e2]; done)) (by first | rfl | (simp [own_e1, own_e2]; done)) (by first | rfl | (simp [own_e1, own_e2]; done))), G23, H23, g_4⟩) (by decide) (by decide)
  ·
    subst f0
    have g_88 := (show b23 ≠ oi_30 from Nat.ne_of_lt (Nat.lt_of_lt_of_le q28_0.lt q30_6))
    have g_89 := (q28_0.keep Kq30 (List.not_mem_nil)).keep Kq36 (by simp only [List.mem_cons, List.not_mem_nil, or_false, not_or]; exact g_88)
    obtain ⟨T94, h94, l94, X94, e94, W94, V94, N94, k94⟩ := k44.iastore (i := 1) X44 hx hZ e44 g_89 rfl rfl (by decide) (Nat.le_of_ble_eq_true rfl) N44 G23 (hb hby d_rmfa0_60)
    have k94 : Go p e below m W T94 61 #[.val (.ref a1), .val (.int (4 : Int32)), .val (.ref l1), .val (.ref oi_30), .val (.ref x0)] [] := k94
    have Z94 : n0 ≤ h94.size := (Wr.size W94).symm ▸ Z36
    have V94 : Arv Z h94 b23 c23 .int (4 : Int32) [(.int (-1 : Int32)), (.int q0), (.int (-1 : Int32)), (.int (-1 : Int32))] (.int (0 : Int32)) := V94
    have K94 : Keep h0 h94 [a1] := K36.wr W94 (Or.inr H23)
    have k95 : Go p e below m W T94 27 #[.val (.ref a1), .val (.int (4 : Int32)), .val (.ref l1), .val (.ref oi_30), .val (.ref x0)] [(.ref oi_30)] := (k94.goto X94 hx (hb hby d_rmfa0_61) (by decide) (by decide)).aloadN X94 hx (hb hby d_rmfa0_26) rfl rfl
    have g_90 := q36_1.other W94 (Or.inl (Ne.symm g_88))
    have g_91 := q36_4.other W94 (Or.inl (Ne.symm g_88))
    have g_92 := (g_9.keep Kq36 (by simp only [List.mem_cons, List.not_mem_nil, or_false, not_or]; exact g_14)).other W94 (Or.inl g_7)
    have g_93 := q36_0.wr W94
    obtain ⟨T96, v96, L96, X96, Q96, k96⟩ := k95.iface (y := (⟨"java/util/Iterator", "hasNext", "()Z"⟩ : MethodName)) (z := (⟨"java/util/ArrayList$Itr", "hasNext", "()Z"⟩ : MethodName)) (Wd := 0) (cells' := 2) (slots' := 8) (argsL := []) (rest := []) X94 hx hZ hown (by rw [hml]; rfl) (hv 66 rfl) (hv 67 rfl) (mvT hZ (hv 68 rfl)) (hv 69 rfl) (hv 70 rfl) (hv 71 rfl) (hv 72 rfl) (hv 73 rfl) (hv 74 rfl) (hv 52 rfl) (hb hby d_rmfa0_27) (by decide) (rmhn12 l Z a0 hw [] oi_30 l1 h94 n0 Z94 g_90 g_91 g_92) e94 g_93 rfl rfl pd_rmfa0_2 rfl (Nat.le_of_eq rfl) (by decide) (by decide) rfl rfl (by decide) (by decide)
    obtain ⟨rfl, Nq96, e96q⟩ := Q96
    have N96 := Fr.app N94 Nq96
    have e96 : T96.heap = h94 := e96q
    have k96 : Go p e below m W T96 32 #[.val (.ref a1), .val (.int (4 : Int32)), .val (.ref l1), .val (.ref oi_30), .val (.ref x0)] [(.int (1 : Int32))] := k96
    have k97 : Go p e below m W T96 36 #[.val (.ref a1), .val (.int (4 : Int32)), .val (.ref l1), .val (.ref oi_30), .val (.ref x0)] [(.ref oi_30)] := (k96.ifNo X96 hx (hb hby d_rmfa0_32) (XT.i0_eq_f (by decide))).aloadN X96 hx (hb hby d_rmfa0_35) rfl rfl
    have g_94 := q36_2.other W94 (Or.inl (Ne.symm g_88))
    have g_95 := q36_3.other W94 (Or.inl (Ne.symm g_88))
    have g_96 := (g_10.keep Kq36 (by simp only [List.mem_cons, List.not_mem_nil, or_false, not_or]; exact g_14)).other W94 (Or.inl g_7)
    have g_97 := (g_11.keep Kq36 (by simp only [List.mem_cons, List.not_mem_nil, or_false, not_or]; exact g_14)).other W94 (Or.inl g_7)
    have g_98 := (g_13.keep Kq36 (by simp only [List.mem_cons, List.not_mem_nil, or_false, not_or]; exact g_16)).other W94 g_12
    obtain ⟨T98, v98, L98, X98, Q98, k98⟩ := k97.iface (y := (⟨"java/util/Iterator", "next", "()Ljava/lang/Object;"⟩ : MethodName)) (z := (⟨"java/util/ArrayList$Itr", "next", "()Ljava/lang/Object;"⟩ : MethodName)) (Wd := 0) (cells' := 2) (slots' := 8) (argsL := []) (rest := []) X96 hx hZ hown (by rw [hml]; rfl) (hv 144 rfl) (hv 145 rfl) (mvT hZ (hv 146 rfl)) (hv 147 rfl) (hv 148 rfl) (hv 149 rfl) (hv 150 rfl) (hv 73 rfl) (hv 151 rfl) (hv 52 rfl) (hb hby d_rmfa0_36) (by decide) (rmnx12 l Z a0 hw [] oi_30 l1 d1 k1 (2 : Int32) (.int (0 : Int32)) x0 x1 h94 n0 Z94 g_93 q30_5 g_90 g_94 g_95 g_91 g_96 g_92 g_97 g_98 g_14 g_16) e96 g_93 rfl rfl pd_rmfa1_3 rfl (Nat.le_of_eq rfl) (by decide) (by decide) rfl rfl (by decide) (by decide)
    obtain ⟨rfl, Nq98, Kq98, q98_0, q98_1, q98_2, q98_3, q98_4⟩ := Q98
    have N98 := Fr.app N96 Nq98
    obtain ⟨h98, e98⟩ : ∃ h, T98.heap = h := ⟨_, rfl⟩
    rw [e98] at Kq98 q98_0 q98_1 q98_2 q98_3 q98_4
    have Z98 : n0 ≤ h98.size := Nat.le_trans Z94 Kq98.1
    have K98 : Keep h0 h98 [a1] := K94.trans Kq98 (by intro x q; simp only [List.mem_cons, List.not_mem_nil, or_false] at q; rcases q with rfl; exact (Or.inr H31))
    have k98 : Go p e below m W T98 41 #[.val (.ref a1), .val (.int (4 : Int32)), .val (.ref l1), .val (.ref oi_30), .val (.ref x0)] [(.ref x1)] := k98
    have g_99 := ((((((Ex1.ext E23).wr W24).keep Kq28).keep Kq30).keep Kq36).wr W94).keep Kq98
    obtain ⟨T99, X99, e99, k99⟩ := k98.castY X98 hx hZ hown (hv 158 rfl) e98 (Ins.self g_99) (hb hby d_rmfa0_41)
    have k99 : Go p e below m W T99 44 #[.val (.ref a1), .val (.int (4 : Int32)), .val (.ref l1), .val (.ref oi_30), .val (.ref x0)] [(.ref x1)] := k99
    have k100 : Go p e below m W T99 46 #[.val (.ref a1), .val (.int (4 : Int32)), .val (.ref l1), .val (.ref oi_30), .val (.ref x1)] [] := k99.astore X99 hx (hb hby d_rmfa0_44) rfl rfl
    have k101 : Go p e below m W T99 47 #[.val (.ref a1), .val (.int (4 : Int32)), .val (.ref l1), .val (.ref oi_30), .val (.ref x1)] [(.ref a1)] := k100.aloadN X99 hx (hb hby d_rmfa0_46) rfl rfl
    have g_100 := (g_20.other W94 (Or.inl g_4)).keep Kq98 (by simp only [List.mem_cons, List.not_mem_nil, or_false, not_or]; exact g_19)
    obtain ⟨T102, X102, e102, k102⟩ := k101.getF X99 hx hZ hown (host := "") (Or.inl (hv 35 rfl)) Via.refl e99 g_100 (hb hby d_rmfa0_47)
    have k102 : Go p e below m W T102 50 #[.val (.ref a1), .val (.int (4 : Int32)), .val (.ref l1), .val (.ref oi_30), .val (.ref x1)] [(.ref b23)] := k102
    have k103 : Go p e below m W T102 52 #[.val (.ref a1), .val (.int (4 : Int32)), .val (.ref l1), .val (.ref oi_30), .val (.ref x1)] [(.ref x1), (.ref b23)] := k102.aload X102 hx (hb hby d_rmfa0_50) rfl rfl
    have g_101 := (show x1 ≠ b23 from Nat.ne_of_lt (g23 ▸ Ex1.lt))
    have g_102 := ((Ex1.ext E23).wr W24).keep Kq28
    have g_103 := (show x1 ≠ oi_30 from Nat.ne_of_lt (Nat.lt_of_lt_of_le g_102.lt q30_6))
    have g_104 := ((((((Ff1.ext E23).other W24 (Or.inl nx1)).keep Kq28 (by simp only [List.mem_cons, List.not_mem_nil, or_false, not_or]; exact g_101)).keep Kq30 (List.not_mem_nil)).keep Kq36 (by simp only [List.mem_cons, List.not_mem_nil, or_false, not_or]; exact g_103)).other W94 (Or.inl g_101)).keep Kq98 (by simp only [List.mem_cons, List.not_mem_nil, or_false, not_or]; exact g_103)
    obtain ⟨T104, v104, L104, X104, Q104, k104⟩ := k103.virt (y := (⟨"com/example/enact/enact/Classification$Flat", "feeder", "()I"⟩ : MethodName)) (z := (⟨"com/example/enact/enact/Classification$Flat", "feeder", "()I"⟩ : MethodName)) (Wd := 1) (cells' := 2) (slots' := 8) (argsL := []) (rest := [(.ref b23)]) X102 hx hZ hown (by rw [hml]; rfl) (hv 160 rfl) (hv 161 rfl) (notFace_of_selects (args := #[]) (mvT hZ (hv 163 rfl))) (hv 163 rfl) (hv 162 rfl) (hv 164 rfl) (hv 97 rfl) (hb hby d_rmfa0_52) (by decide) (rmfe l Z a0 hw [] x1 f1 h98 n0 Z98 g_104) e102 g_99 rfl rfl pd_rmfa1_4 rfl (Nat.le_of_eq rfl) (by decide) (by decide) rfl rfl (by decide) (by decide)
    obtain ⟨rfl, Nq104, e104q⟩ := Q104
    have N104 := Fr.app N98 Nq104
    have e104 : T104.heap = h98 := e104q
    have k104 : Go p e below m W T104 55 #[.val (.ref a1), .val (.int (4 : Int32)), .val (.ref l1), .val (.ref oi_30), .val (.ref x1)] [(.int f1), (.ref b23)] := k104
    have k105 : Go p e below m W T104 57 #[.val (.ref a1), .val (.int (4 : Int32)), .val (.ref l1), .val (.ref oi_30), .val (.ref x1)] [(.ref x1), (.int f1), (.ref b23)] := k104.aload X104 hx (hb hby d_rmfa0_55) rfl rfl
    have g_105 := ((((((Fp1.ext E23).other W24 (Or.inl nx1)).keep Kq28 (by simp only [List.mem_cons, List.not_mem_nil, or_false, not_or]; exact g_101)).keep Kq30 (List.not_mem_nil)).keep Kq36 (by simp only [List.mem_cons, List.not_mem_nil, or_false, not_or]; exact g_103)).other W94 (Or.inl g_101)).keep Kq98 (by simp only [List.mem_cons, List.not_mem_nil, or_false, not_or]; exact g_103)
    obtain ⟨T106, v106, L106, X106, Q106, k106⟩ := k105.virt (y := (⟨"com/example/enact/enact/Classification$Flat", "place", "()I"⟩ : MethodName)) (z := (⟨"com/example/enact/enact/Classification$Flat", "place", "()I"⟩ : MethodName)) (Wd := 2) (cells' := 2) (slots' := 8) (argsL := []) (rest := [(.int f1), (.ref b23)]) X104 hx hZ hown (by rw [hml]; rfl) (hv 165 rfl) (hv 166 rfl) (notFace_of_selects (args := #[]) (mvT hZ (hv 168 rfl))) (hv 168 rfl) (hv 167 rfl) (hv 169 rfl) (hv 97 rfl) (hb hby d_rmfa0_57) (by decide) (rmfp l Z a0 hw [] x1 q1 h98 n0 Z98 g_105) e104 g_99 rfl rfl pd_rmfa1_4 rfl (Nat.le_of_eq rfl) (by decide) (by decide) rfl rfl (by decide) (by decide)
    obtain ⟨rfl, Nq106, e106q⟩ := Q106
    have N106 := Fr.app N104 Nq106
    have e106 : T106.heap = h98 := e106q
    have k106 : Go p e below m W T106 60 #[.val (.ref a1), .val (.int (4 : Int32)), .val (.ref l1), .val (.ref oi_30), .val (.ref x1)] [(.int q1), (.int f1), (.ref b23)] := k106
    rcases B1 with q107 | q108 | q109 | q110
    ·
      subst f1
      have g_106 := V94.keep Kq98 (by simp only [List.mem_cons, List.not_mem_nil, or_false, not_or]; exact g_88)
      obtain ⟨T111, h111, l111, X111, e111, W111, V111, N111, k111⟩ := k106.iastore (i := 0) X106 hx hZ e106 g_106 rfl rfl (by decide) (Nat.le_of_ble_eq_true rfl) N106 G23 (hb hby d_rmfa0_60)
      have k111 : Go p e below m W T111 61 #[.val (.ref a1), .val (.int (4 : Int32)), .val (.ref l1), .val (.ref oi_30), .val (.ref x1)] [] := k111
      have Z111 : n0 ≤ h111.size := (Wr.size W111).symm ▸ Z98
      have V111 : Arv Z h111 b23 c23 .int (4 : Int32) [(.int q1), (.int q0), (.int (-1 : Int32)), (.int (-1 : Int32))] (.int (0 : Int32)) := V111
      have K111 : Keep h0 h111 [a1] := K98.wr W111 (Or.inr H23)
      have k112 : Go p e below m W T111 27 #[.val (.ref a1), .val (.int (4 : Int32)), .val (.ref l1), .val (.ref oi_30), .val (.ref x1)] [(.ref oi_30)] := (k111.goto X111 hx (hb hby d_rmfa0_61) (by decide) (by decide)).aloadN X111 hx (hb hby d_rmfa0_26) rfl rfl
      have g_107 := q98_1.other W111 (Or.inl (Ne.symm g_88))
      have g_108 := q98_4.other W111 (Or.inl (Ne.symm g_88))
      have g_109 := (g_92.keep Kq98 (by simp only [List.mem_cons, List.not_mem_nil, or_false, not_or]; exact g_14)).other W111 (Or.inl g_7)
      have g_110 := q98_0.wr W111
      obtain ⟨T113, v113, L113, X113, Q113, k113⟩ := k112.iface (y := (⟨"java/util/Iterator", "hasNext", "()Z"⟩ : MethodName)) (z := (⟨"java/util/ArrayList$Itr", "hasNext", "()Z"⟩ : MethodName)) (Wd := 0) (cells' := 2) (slots' := 8) (argsL := []) (rest := []) X111 hx hZ hown (by rw [hml]; rfl) (hv 66 rfl) (hv 67 rfl) (mvT hZ (hv 68 rfl)) (hv 69 rfl) (hv 70 rfl) (hv 71 rfl) (hv 72 rfl) (hv 73 rfl) (hv 74 rfl) (hv 52 rfl) (hb hby d_rmfa0_27) (by decide) (rmhn22 l Z a0 hw [] oi_30 l1 h111 n0 Z111 g_107 g_108 g_109) e111 g_110 rfl rfl pd_rmfa0_2 rfl (Nat.le_of_eq rfl) (by decide) (by decide) rfl rfl (by decide) (by decide)
      obtain ⟨rfl, Nq113, e113q⟩ := Q113
      have N113 := Fr.app N111 Nq113
      have e113 : T113.heap = h111 := e113q
      have k113 : Go p e below m W T113 32 #[.val (.ref a1), .val (.int (4 : Int32)), .val (.ref l1), .val (.ref oi_30), .val (.ref x1)] [(.int (0 : Int32))] := k113
      have k114 : Go p e below m W T113 66 #[.val (.ref a1), .val (.int (4 : Int32)), .val (.ref l1), .val (.ref oi_30), .val (.ref x1)] [(.ref l1), (.ref a1)] := ((k113.ifYes X113 hx (hb hby d_rmfa0_32) (XT.i0_eq_t (by decide)) (by decide) (by decide)).aloadN X113 hx (hb hby d_rmfa0_64) rfl rfl).aloadN X113 hx (hb hby d_rmfa0_65) rfl rfl
      have g_111 := ((((g_6.keep Kq30).keep Kq36).wr W94).keep Kq98).wr W111
      obtain ⟨T115, v115, L115, X115, Q115, k115⟩ := k114.iface (y := (⟨"java/util/List", "isEmpty", "()Z"⟩ : MethodName)) (z := (⟨"java/util/ArrayList", "isEmpty", "()Z"⟩ : MethodName)) (Wd := 1) (cells' := 2) (slots' := 8) (argsL := []) (rest := [(.ref a1)]) X113 hx hZ hown (by rw [hml]; rfl) (hv 79 rfl) (hv 80 rfl) (mvT hZ (hv 81 rfl)) (hv 82 rfl) (hv 83 rfl) (hv 84 rfl) (hv 85 rfl) (hv 48 rfl) (hv 86 rfl) (hv 3 rfl) (hb hby d_rmfa0_66) (by decide) (rmem2 l Z a0 hw [] l1 h111 n0 Z111 g_109) e113 g_111 rfl rfl pd_rmfa0_2 rfl (Nat.le_of_eq rfl) (by decide) (by decide) rfl rfl (by decide) (by decide)
      obtain ⟨rfl, Nq115, e115q⟩ := Q115
      have N115 := Fr.app N113 Nq115
      have e115 : T115.heap = h111 := e115q
      have k115 : Go p e below m W T115 71 #[.val (.ref a1), .val (.int (4 : Int32)), .val (.ref l1), .val (.ref oi_30), .val (.ref x1)] [(.int (0 : Int32)), (.ref a1)] := k115
      have k116 : Go p e below m W T115 79 #[.val (.ref a1), .val (.int (4 : Int32)), .val (.ref l1), .val (.ref oi_30), .val (.ref x1)] [(.int (1 : Int32)), (.ref a1)] := ((k115.ifNo X115 hx (hb hby d_rmfa0_71) (XT.i0_ne_f (by decide))).iconst X115 hx (hb hby d_rmfa0_74) (v := (1 : Int32)) rfl).goto X115 hx (hb hby d_rmfa0_75) (by decide) (by decide)
      have g_112 := (((((((F1.ext E23).other W24 (Or.inr (slot_ne (Or.inr (hv 89 rfl)) (Or.inr (hv 36 rfl)) (by decide) (by decide : parseFieldDescriptor "Z" = some .boolean) (by decide : parseFieldDescriptor "[I" = some (.array .int))))).keep Kq28 (by simp only [List.mem_cons, List.not_mem_nil, or_false, not_or]; exact g_4)).keep Kq30 (List.not_mem_nil)).keep Kq36 (by simp only [List.mem_cons, List.not_mem_nil, or_false, not_or]; exact g_19)).other W94 (Or.inl g_4)).keep Kq98 (by simp only [List.mem_cons, List.not_mem_nil, or_false, not_or]; exact g_19)).other W111 (Or.inl g_4)
      have g_113 := ((((g_18.keep Kq30).keep Kq36).wr W94).keep Kq98).wr W111
      obtain ⟨T117, h117, l117, X117, e117, W117, N117, k117⟩ := k116.putF X115 hx hZ hown (host := "") (Or.inl (hv 88 rfl)) Via.refl e115 g_112 g_113 (Or.inr ⟨(hv 89 rfl), rfl, hnm⟩) (hv 28 rfl) (ty := .boolean) (by decide) (own_nz (Or.inr rfl)).1 (own_nz (Or.inr rfl)).2.1 N115 G1 (hb hby d_rmfa0_79)
      have k117 : Go p e below m W T117 82 #[.val (.ref a1), .val (.int (4 : Int32)), .val (.ref l1), .val (.ref oi_30), .val (.ref x1)] [] := k117
      have Z117 : n0 ≤ h117.size := (Wr.size W117).symm ▸ Z111
      have K117 : Keep h0 h117 [a1] := K111.wr W117 (Or.inl (List.mem_of_getElem? (i := 0) rfl))
      have g_114 := g_113.wr W117
      have g_115 := (g_100.other W111 (Or.inl g_4)).other W117 (Or.inr (slot_ne (Or.inr (hv 36 rfl)) (Or.inr (hv 89 rfl)) (by decide) (by decide : parseFieldDescriptor "[I" = some (.array .int)) (by decide : parseFieldDescriptor "Z" = some .boolean)))
      have g_116 := V111.other W117 (Ne.symm g_4)
      exact k117.return_ X117 hx Bd.returns (hb hby d_rmfa0_82) (BodyLoose.notSynchronized Bd) (by rw [e117]; exact ⟨b23, c23, rfl, N117, K117, g_114, g_115, (own_cv4 g_116 (by first | rfl | (simp [own_e1, own_e2]; done)) (by first | rfl | (simp [own_e1, own_e2]; done)) (by first | rfl | (simp [own_e1, own_e2]; done)) (by first | rfl | (simp [own_e1, own_e2]; done))), G23, H23, g_4⟩) (by decide) (by decide)
    ·
      subst f1
      have g_117 := V94.keep Kq98 (by simp only [List.mem_cons, List.not_mem_nil, or_false, not_or]; exact g_88)
      obtain ⟨T118, h118, l118, X118, e118, W118, V118, N118, k118⟩ := k106.iastore (i := 1) X106 hx hZ e106 g_117 rfl rfl (by decide) (Nat.le_of_ble_eq_true rfl) N106 G23 (hb hby d_rmfa0_60)
      have k118 : Go p e below m W T118 61 #[.val (.ref a1), .val (.int (4 : Int32)), .val (.ref l1), .val (.ref oi_30), .val (.ref x1)] [] := k118
      have Z118 : n0 ≤ h118.size := (Wr.size W118).symm ▸ Z98
      have V118 : Arv Z h118 b23 c23 .int (4 : Int32) [(.int (-1 : Int32)), (.int q1), (.int (-1 : Int32)), (.int (-1 : Int32))] (.int (0 : Int32)) := V118
      have K118 : Keep h0 h118 [a1] := K98.wr W118 (Or.inr H23)
      have k119 : Go p e below m W T118 27 #[.val (.ref a1), .val (.int (4 : Int32)), .val (.ref l1), .val (.ref oi_30), .val (.ref x1)] [(.ref oi_30)] := (k118.goto X118 hx (hb hby d_rmfa0_61) (by decide) (by decide)).aloadN X118 hx (hb hby d_rmfa0_26) rfl rfl
      have g_118 := q98_1.other W118 (Or.inl (Ne.symm g_88))
      have g_119 := q98_4.other W118 (Or.inl (Ne.symm g_88))
      have g_120 := (g_92.keep Kq98 (by simp only [List.mem_cons, List.not_mem_nil, or_false, not_or]; exact g_14)).other W118 (Or.inl g_7)
      have g_121 := q98_0.wr W118
      obtain ⟨T120, v120, L120, X120, Q120, k120⟩ := k119.iface (y := (⟨"java/util/Iterator", "hasNext", "()Z"⟩ : MethodName)) (z := (⟨"java/util/ArrayList$Itr", "hasNext", "()Z"⟩ : MethodName)) (Wd := 0) (cells' := 2) (slots' := 8) (argsL := []) (rest := []) X118 hx hZ hown (by rw [hml]; rfl) (hv 66 rfl) (hv 67 rfl) (mvT hZ (hv 68 rfl)) (hv 69 rfl) (hv 70 rfl) (hv 71 rfl) (hv 72 rfl) (hv 73 rfl) (hv 74 rfl) (hv 52 rfl) (hb hby d_rmfa0_27) (by decide) (rmhn22 l Z a0 hw [] oi_30 l1 h118 n0 Z118 g_118 g_119 g_120) e118 g_121 rfl rfl pd_rmfa0_2 rfl (Nat.le_of_eq rfl) (by decide) (by decide) rfl rfl (by decide) (by decide)
      obtain ⟨rfl, Nq120, e120q⟩ := Q120
      have N120 := Fr.app N118 Nq120
      have e120 : T120.heap = h118 := e120q
      have k120 : Go p e below m W T120 32 #[.val (.ref a1), .val (.int (4 : Int32)), .val (.ref l1), .val (.ref oi_30), .val (.ref x1)] [(.int (0 : Int32))] := k120
      have k121 : Go p e below m W T120 66 #[.val (.ref a1), .val (.int (4 : Int32)), .val (.ref l1), .val (.ref oi_30), .val (.ref x1)] [(.ref l1), (.ref a1)] := ((k120.ifYes X120 hx (hb hby d_rmfa0_32) (XT.i0_eq_t (by decide)) (by decide) (by decide)).aloadN X120 hx (hb hby d_rmfa0_64) rfl rfl).aloadN X120 hx (hb hby d_rmfa0_65) rfl rfl
      have g_122 := ((((g_6.keep Kq30).keep Kq36).wr W94).keep Kq98).wr W118
      obtain ⟨T122, v122, L122, X122, Q122, k122⟩ := k121.iface (y := (⟨"java/util/List", "isEmpty", "()Z"⟩ : MethodName)) (z := (⟨"java/util/ArrayList", "isEmpty", "()Z"⟩ : MethodName)) (Wd := 1) (cells' := 2) (slots' := 8) (argsL := []) (rest := [(.ref a1)]) X120 hx hZ hown (by rw [hml]; rfl) (hv 79 rfl) (hv 80 rfl) (mvT hZ (hv 81 rfl)) (hv 82 rfl) (hv 83 rfl) (hv 84 rfl) (hv 85 rfl) (hv 48 rfl) (hv 86 rfl) (hv 3 rfl) (hb hby d_rmfa0_66) (by decide) (rmem2 l Z a0 hw [] l1 h118 n0 Z118 g_120) e120 g_122 rfl rfl pd_rmfa0_2 rfl (Nat.le_of_eq rfl) (by decide) (by decide) rfl rfl (by decide) (by decide)
      obtain ⟨rfl, Nq122, e122q⟩ := Q122
      have N122 := Fr.app N120 Nq122
      have e122 : T122.heap = h118 := e122q
      have k122 : Go p e below m W T122 71 #[.val (.ref a1), .val (.int (4 : Int32)), .val (.ref l1), .val (.ref oi_30), .val (.ref x1)] [(.int (0 : Int32)), (.ref a1)] := k122
      have k123 : Go p e below m W T122 79 #[.val (.ref a1), .val (.int (4 : Int32)), .val (.ref l1), .val (.ref oi_30), .val (.ref x1)] [(.int (1 : Int32)), (.ref a1)] := ((k122.ifNo X122 hx (hb hby d_rmfa0_71) (XT.i0_ne_f (by decide))).iconst X122 hx (hb hby d_rmfa0_74) (v := (1 : Int32)) rfl).goto X122 hx (hb hby d_rmfa0_75) (by decide) (by decide)
      have g_123 := (((((((F1.ext E23).other W24 (Or.inr (slot_ne (Or.inr (hv 89 rfl)) (Or.inr (hv 36 rfl)) (by decide) (by decide : parseFieldDescriptor "Z" = some .boolean) (by decide : parseFieldDescriptor "[I" = some (.array .int))))).keep Kq28 (by simp only [List.mem_cons, List.not_mem_nil, or_false, not_or]; exact g_4)).keep Kq30 (List.not_mem_nil)).keep Kq36 (by simp only [List.mem_cons, List.not_mem_nil, or_false, not_or]; exact g_19)).other W94 (Or.inl g_4)).keep Kq98 (by simp only [List.mem_cons, List.not_mem_nil, or_false, not_or]; exact g_19)).other W118 (Or.inl g_4)
      have g_124 := ((((g_18.keep Kq30).keep Kq36).wr W94).keep Kq98).wr W118
      obtain ⟨T124, h124, l124, X124, e124, W124, N124, k124⟩ := k123.putF X122 hx hZ hown (host := "") (Or.inl (hv 88 rfl)) Via.refl e122 g_123 g_124 (Or.inr ⟨(hv 89 rfl), rfl, hnm⟩) (hv 28 rfl) (ty := .boolean) (by decide) (own_nz (Or.inr rfl)).1 (own_nz (Or.inr rfl)).2.1 N122 G1 (hb hby d_rmfa0_79)
      have k124 : Go p e below m W T124 82 #[.val (.ref a1), .val (.int (4 : Int32)), .val (.ref l1), .val (.ref oi_30), .val (.ref x1)] [] := k124
      have Z124 : n0 ≤ h124.size := (Wr.size W124).symm ▸ Z118
      have K124 : Keep h0 h124 [a1] := K118.wr W124 (Or.inl (List.mem_of_getElem? (i := 0) rfl))
      have g_125 := g_124.wr W124
      have g_126 := (g_100.other W118 (Or.inl g_4)).other W124 (Or.inr (slot_ne (Or.inr (hv 36 rfl)) (Or.inr (hv 89 rfl)) (by decide) (by decide : parseFieldDescriptor "[I" = some (.array .int)) (by decide : parseFieldDescriptor "Z" = some .boolean)))
      have g_127 := V118.other W124 (Ne.symm g_4)
      exact k124.return_ X124 hx Bd.returns (hb hby d_rmfa0_82) (BodyLoose.notSynchronized Bd) (by rw [e124]; exact ⟨b23, c23, rfl, N124, K124, g_125, g_126, (own_cv4 g_127 (by first | rfl | (simp [own_e1, own_e2]; done)) (by first | rfl | (simp [own_e1, own_e2]; done)) (by first | rfl | (simp [own_e1, own_e2]; done)) (by first | rfl | (simp [own_e1, own_e2]; done))), G23, H23, g_4⟩) (by decide) (by decide)
    ·
      subst f1
      have g_128 := V94.keep Kq98 (by simp only [List.mem_cons, List.not_mem_nil, or_false, not_or]; exact g_88)
      obtain ⟨T125, h125, l125, X125, e125, W125, V125, N125, k125⟩ := k106.iastore (i := 2) X106 hx hZ e106 g_128 rfl rfl (by decide) (Nat.le_of_ble_eq_true rfl) N106 G23 (hb hby d_rmfa0_60)
      have k125 : Go p e below m W T125 61 #[.val (.ref a1), .val (.int (4 : Int32)), .val (.ref l1), .val (.ref oi_30), .val (.ref x1)] [] := k125
      have Z125 : n0 ≤ h125.size := (Wr.size W125).symm ▸ Z98
      have V125 : Arv Z h125 b23 c23 .int (4 : Int32) [(.int (-1 : Int32)), (.int q0), (.int q1), (.int (-1 : Int32))] (.int (0 : Int32)) := V125
      have K125 : Keep h0 h125 [a1] := K98.wr W125 (Or.inr H23)
      have k126 : Go p e below m W T125 27 #[.val (.ref a1), .val (.int (4 : Int32)), .val (.ref l1), .val (.ref oi_30), .val (.ref x1)] [(.ref oi_30)] := (k125.goto X125 hx (hb hby d_rmfa0_61) (by decide) (by decide)).aloadN X125 hx (hb hby d_rmfa0_26) rfl rfl
      have g_129 := q98_1.other W125 (Or.inl (Ne.symm g_88))
      have g_130 := q98_4.other W125 (Or.inl (Ne.symm g_88))
      have g_131 := (g_92.keep Kq98 (by simp only [List.mem_cons, List.not_mem_nil, or_false, not_or]; exact g_14)).other W125 (Or.inl g_7)
      have g_132 := q98_0.wr W125
      obtain ⟨T127, v127, L127, X127, Q127, k127⟩ := k126.iface (y := (⟨"java/util/Iterator", "hasNext", "()Z"⟩ : MethodName)) (z := (⟨"java/util/ArrayList$Itr", "hasNext", "()Z"⟩ : MethodName)) (Wd := 0) (cells' := 2) (slots' := 8) (argsL := []) (rest := []) X125 hx hZ hown (by rw [hml]; rfl) (hv 66 rfl) (hv 67 rfl) (mvT hZ (hv 68 rfl)) (hv 69 rfl) (hv 70 rfl) (hv 71 rfl) (hv 72 rfl) (hv 73 rfl) (hv 74 rfl) (hv 52 rfl) (hb hby d_rmfa0_27) (by decide) (rmhn22 l Z a0 hw [] oi_30 l1 h125 n0 Z125 g_129 g_130 g_131) e125 g_132 rfl rfl pd_rmfa0_2 rfl (Nat.le_of_eq rfl) (by decide) (by decide) rfl rfl (by decide) (by decide)
      obtain ⟨rfl, Nq127, e127q⟩ := Q127
      have N127 := Fr.app N125 Nq127
      have e127 : T127.heap = h125 := e127q
      have k127 : Go p e below m W T127 32 #[.val (.ref a1), .val (.int (4 : Int32)), .val (.ref l1), .val (.ref oi_30), .val (.ref x1)] [(.int (0 : Int32))] := k127
      have k128 : Go p e below m W T127 66 #[.val (.ref a1), .val (.int (4 : Int32)), .val (.ref l1), .val (.ref oi_30), .val (.ref x1)] [(.ref l1), (.ref a1)] := ((k127.ifYes X127 hx (hb hby d_rmfa0_32) (XT.i0_eq_t (by decide)) (by decide) (by decide)).aloadN X127 hx (hb hby d_rmfa0_64) rfl rfl).aloadN X127 hx (hb hby d_rmfa0_65) rfl rfl
      have g_133 := ((((g_6.keep Kq30).keep Kq36).wr W94).keep Kq98).wr W125
      obtain ⟨T129, v129, L129, X129, Q129, k129⟩ := k128.iface (y := (⟨"java/util/List", "isEmpty", "()Z"⟩ : MethodName)) (z := (⟨"java/util/ArrayList", "isEmpty", "()Z"⟩ : MethodName)) (Wd := 1) (cells' := 2) (slots' := 8) (argsL := []) (rest := [(.ref a1)]) X127 hx hZ hown (by rw [hml]; rfl) (hv 79 rfl) (hv 80 rfl) (mvT hZ (hv 81 rfl)) (hv 82 rfl) (hv 83 rfl) (hv 84 rfl) (hv 85 rfl) (hv 48 rfl) (hv 86 rfl) (hv 3 rfl) (hb hby d_rmfa0_66) (by decide) (rmem2 l Z a0 hw [] l1 h125 n0 Z125 g_131) e127 g_133 rfl rfl pd_rmfa0_2 rfl (Nat.le_of_eq rfl) (by decide) (by decide) rfl rfl (by decide) (by decide)
      obtain ⟨rfl, Nq129, e129q⟩ := Q129
      have N129 := Fr.app N127 Nq129
      have e129 : T129.heap = h125 := e129q
      have k129 : Go p e below m W T129 71 #[.val (.ref a1), .val (.int (4 : Int32)), .val (.ref l1), .val (.ref oi_30), .val (.ref x1)] [(.int (0 : Int32)), (.ref a1)] := k129
      have k130 : Go p e below m W T129 79 #[.val (.ref a1), .val (.int (4 : Int32)), .val (.ref l1), .val (.ref oi_30), .val (.ref x1)] [(.int (1 : Int32)), (.ref a1)] := ((k129.ifNo X129 hx (hb hby d_rmfa0_71) (XT.i0_ne_f (by decide))).iconst X129 hx (hb hby d_rmfa0_74) (v := (1 : Int32)) rfl).goto X129 hx (hb hby d_rmfa0_75) (by decide) (by decide)
      have g_134 := (((((((F1.ext E23).other W24 (Or.inr (slot_ne (Or.inr (hv 89 rfl)) (Or.inr (hv 36 rfl)) (by decide) (by decide : parseFieldDescriptor "Z" = some .boolean) (by decide : parseFieldDescriptor "[I" = some (.array .int))))).keep Kq28 (by simp only [List.mem_cons, List.not_mem_nil, or_false, not_or]; exact g_4)).keep Kq30 (List.not_mem_nil)).keep Kq36 (by simp only [List.mem_cons, List.not_mem_nil, or_false, not_or]; exact g_19)).other W94 (Or.inl g_4)).keep Kq98 (by simp only [List.mem_cons, List.not_mem_nil, or_false, not_or]; exact g_19)).other W125 (Or.inl g_4)
      have g_135 := ((((g_18.keep Kq30).keep Kq36).wr W94).keep Kq98).wr W125
      obtain ⟨T131, h131, l131, X131, e131, W131, N131, k131⟩ := k130.putF X129 hx hZ hown (host := "") (Or.inl (hv 88 rfl)) Via.refl e129 g_134 g_135 (Or.inr ⟨(hv 89 rfl), rfl, hnm⟩) (hv 28 rfl) (ty := .boolean) (by decide) (own_nz (Or.inr rfl)).1 (own_nz (Or.inr rfl)).2.1 N129 G1 (hb hby d_rmfa0_79)
      have k131 : Go p e below m W T131 82 #[.val (.ref a1), .val (.int (4 : Int32)), .val (.ref l1), .val (.ref oi_30), .val (.ref x1)] [] := k131
      have Z131 : n0 ≤ h131.size := (Wr.size W131).symm ▸ Z125
      have K131 : Keep h0 h131 [a1] := K125.wr W131 (Or.inl (List.mem_of_getElem? (i := 0) rfl))
      have g_136 := g_135.wr W131
      have g_137 := (g_100.other W125 (Or.inl g_4)).other W131 (Or.inr (slot_ne (Or.inr (hv 36 rfl)) (Or.inr (hv 89 rfl)) (by decide) (by decide : parseFieldDescriptor "[I" = some (.array .int)) (by decide : parseFieldDescriptor "Z" = some .boolean)))
      have g_138 := V125.other W131 (Ne.symm g_4)
      exact k131.return_ X131 hx Bd.returns (hb hby d_rmfa0_82) (BodyLoose.notSynchronized Bd) (by rw [e131]; exact ⟨b23, c23, rfl, N131, K131, g_136, g_137, (own_cv4 g_138 (by first | rfl | (simp [own_e1, own_e2]; done)) (by first | rfl | (simp [own_e1, own_e2]; done)) (by first | rfl | (simp [own_e1, own_e2]; done)) (by first | rfl | (simp [own_e1, own_e2]; done))), G23, H23, g_4⟩) (by decide) (by decide)
    ·
      subst f1
      have g_139 := V94.keep Kq98 (by simp only [List.mem_cons, List.not_mem_nil, or_false, not_or]; exact g_88)
      obtain ⟨T132, h132, l132, X132, e132, W132, V132, N132, k132⟩ := k106.iastore (i := 3) X106 hx hZ e106 g_139 rfl rfl (by decide) (Nat.le_of_ble_eq_true rfl) N106 G23 (hb hby d_rmfa0_60)
      have k132 : Go p e below m W T132 61 #[.val (.ref a1), .val (.int (4 : Int32)), .val (.ref l1), .val (.ref oi_30), .val (.ref x1)] [] := k132
      have Z132 : n0 ≤ h132.size := (Wr.size W132).symm ▸ Z98
      have V132 : Arv Z h132 b23 c23 .int (4 : Int32) [(.int (-1 : Int32)), (.int q0), (.int (-1 : Int32)), (.int q1)] (.int (0 : Int32)) := V132
      have K132 : Keep h0 h132 [a1] := K98.wr W132 (Or.inr H23)
      have k133 : Go p e below m W T132 27 #[.val (.ref a1), .val (.int (4 : Int32)), .val (.ref l1), .val (.ref oi_30), .val (.ref x1)] [(.ref oi_30)] := (k132.goto X132 hx (hb hby d_rmfa0_61) (by decide) (by decide)).aloadN X132 hx (hb hby d_rmfa0_26) rfl rfl
      have g_140 := q98_1.other W132 (Or.inl (Ne.symm g_88))
      have g_141 := q98_4.other W132 (Or.inl (Ne.symm g_88))
      have g_142 := (g_92.keep Kq98 (by simp only [List.mem_cons, List.not_mem_nil, or_false, not_or]; exact g_14)).other W132 (Or.inl g_7)
      have g_143 := q98_0.wr W132
      obtain ⟨T134, v134, L134, X134, Q134, k134⟩ := k133.iface (y := (⟨"java/util/Iterator", "hasNext", "()Z"⟩ : MethodName)) (z := (⟨"java/util/ArrayList$Itr", "hasNext", "()Z"⟩ : MethodName)) (Wd := 0) (cells' := 2) (slots' := 8) (argsL := []) (rest := []) X132 hx hZ hown (by rw [hml]; rfl) (hv 66 rfl) (hv 67 rfl) (mvT hZ (hv 68 rfl)) (hv 69 rfl) (hv 70 rfl) (hv 71 rfl) (hv 72 rfl) (hv 73 rfl) (hv 74 rfl) (hv 52 rfl) (hb hby d_rmfa0_27) (by decide) (rmhn22 l Z a0 hw [] oi_30 l1 h132 n0 Z132 g_140 g_141 g_142) e132 g_143 rfl rfl pd_rmfa0_2 rfl (Nat.le_of_eq rfl) (by decide) (by decide) rfl rfl (by decide) (by decide)
      obtain ⟨rfl, Nq134, e134q⟩ := Q134
      have N134 := Fr.app N132 Nq134
      have e134 : T134.heap = h132 := e134q
      have k134 : Go p e below m W T134 32 #[.val (.ref a1), .val (.int (4 : Int32)), .val (.ref l1), .val (.ref oi_30), .val (.ref x1)] [(.int (0 : Int32))] := k134
      have k135 : Go p e below m W T134 66 #[.val (.ref a1), .val (.int (4 : Int32)), .val (.ref l1), .val (.ref oi_30), .val (.ref x1)] [(.ref l1), (.ref a1)] := ((k134.ifYes X134 hx (hb hby d_rmfa0_32) (XT.i0_eq_t (by decide)) (by decide) (by decide)).aloadN X134 hx (hb hby d_rmfa0_64) rfl rfl).aloadN X134 hx (hb hby d_rmfa0_65) rfl rfl
      have g_144 := ((((g_6.keep Kq30).keep Kq36).wr W94).keep Kq98).wr W132
      obtain ⟨T136, v136, L136, X136, Q136, k136⟩ := k135.iface (y := (⟨"java/util/List", "isEmpty", "()Z"⟩ : MethodName)) (z := (⟨"java/util/ArrayList", "isEmpty", "()Z"⟩ : MethodName)) (Wd := 1) (cells' := 2) (slots' := 8) (argsL := []) (rest := [(.ref a1)]) X134 hx hZ hown (by rw [hml]; rfl) (hv 79 rfl) (hv 80 rfl) (mvT hZ (hv 81 rfl)) (hv 82 rfl) (hv 83 rfl) (hv 84 rfl) (hv 85 rfl) (hv 48 rfl) (hv 86 rfl) (hv 3 rfl) (hb hby d_rmfa0_66) (by decide) (rmem2 l Z a0 hw [] l1 h132 n0 Z132 g_142) e134 g_144 rfl rfl pd_rmfa0_2 rfl (Nat.le_of_eq rfl) (by decide) (by decide) rfl rfl (by decide) (by decide)
      obtain ⟨rfl, Nq136, e136q⟩ := Q136
      have N136 := Fr.app N134 Nq136
      have e136 : T136.heap = h132 := e136q
      have k136 : Go p e below m W T136 71 #[.val (.ref a1), .val (.int (4 : Int32)), .val (.ref l1), .val (.ref oi_30), .val (.ref x1)] [(.int (0 : Int32)), (.ref a1)] := k136
      have k137 : Go p e below m W T136 79 #[.val (.ref a1), .val (.int (4 : Int32)), .val (.ref l1), .val (.ref oi_30), .val (.ref x1)] [(.int (1 : Int32)), (.ref a1)] := ((k136.ifNo X136 hx (hb hby d_rmfa0_71) (XT.i0_ne_f (by decide))).iconst X136 hx (hb hby d_rmfa0_74) (v := (1 : Int32)) rfl).goto X136 hx (hb hby d_rmfa0_75) (by decide) (by decide)
      have g_145 := (((((((F1.ext E23).other W24 (Or.inr (slot_ne (Or.inr (hv 89 rfl)) (Or.inr (hv 36 rfl)) (by decide) (by decide : parseFieldDescriptor "Z" = some .boolean) (by decide : parseFieldDescriptor "[I" = some (.array .int))))).keep Kq28 (by simp only [List.mem_cons, List.not_mem_nil, or_false, not_or]; exact g_4)).keep Kq30 (List.not_mem_nil)).keep Kq36 (by simp only [List.mem_cons, List.not_mem_nil, or_false, not_or]; exact g_19)).other W94 (Or.inl g_4)).keep Kq98 (by simp only [List.mem_cons, List.not_mem_nil, or_false, not_or]; exact g_19)).other W132 (Or.inl g_4)
      have g_146 := ((((g_18.keep Kq30).keep Kq36).wr W94).keep Kq98).wr W132
      obtain ⟨T138, h138, l138, X138, e138, W138, N138, k138⟩ := k137.putF X136 hx hZ hown (host := "") (Or.inl (hv 88 rfl)) Via.refl e136 g_145 g_146 (Or.inr ⟨(hv 89 rfl), rfl, hnm⟩) (hv 28 rfl) (ty := .boolean) (by decide) (own_nz (Or.inr rfl)).1 (own_nz (Or.inr rfl)).2.1 N136 G1 (hb hby d_rmfa0_79)
      have k138 : Go p e below m W T138 82 #[.val (.ref a1), .val (.int (4 : Int32)), .val (.ref l1), .val (.ref oi_30), .val (.ref x1)] [] := k138
      have Z138 : n0 ≤ h138.size := (Wr.size W138).symm ▸ Z132
      have K138 : Keep h0 h138 [a1] := K132.wr W138 (Or.inl (List.mem_of_getElem? (i := 0) rfl))
      have g_147 := g_146.wr W138
      have g_148 := (g_100.other W132 (Or.inl g_4)).other W138 (Or.inr (slot_ne (Or.inr (hv 36 rfl)) (Or.inr (hv 89 rfl)) (by decide) (by decide : parseFieldDescriptor "[I" = some (.array .int)) (by decide : parseFieldDescriptor "Z" = some .boolean)))
      have g_149 := V132.other W138 (Ne.symm g_4)
      exact k138.return_ X138 hx Bd.returns (hb hby d_rmfa0_82) (BodyLoose.notSynchronized Bd) (by rw [e138]; exact ⟨b23, c23, rfl, N138, K138, g_147, g_148, (own_cv4 g_149 (by first | rfl | (simp [own_e1, own_e2]; done)) (by first | rfl | (simp [own_e1, own_e2]; done)) (by first | rfl | (simp [own_e1, own_e2]; done)) (by first | rfl | (simp [own_e1, own_e2]; done))), G23, H23, g_4⟩) (by decide) (by decide)
  ·
    subst f0
    have g_150 := (show b23 ≠ oi_30 from Nat.ne_of_lt (Nat.lt_of_lt_of_le q28_0.lt q30_6))
    have g_151 := (q28_0.keep Kq30 (List.not_mem_nil)).keep Kq36 (by simp only [List.mem_cons, List.not_mem_nil, or_false, not_or]; exact g_150)
    obtain ⟨T139, h139, l139, X139, e139, W139, V139, N139, k139⟩ := k44.iastore (i := 2) X44 hx hZ e44 g_151 rfl rfl (by decide) (Nat.le_of_ble_eq_true rfl) N44 G23 (hb hby d_rmfa0_60)
    have k139 : Go p e below m W T139 61 #[.val (.ref a1), .val (.int (4 : Int32)), .val (.ref l1), .val (.ref oi_30), .val (.ref x0)] [] := k139
    have Z139 : n0 ≤ h139.size := (Wr.size W139).symm ▸ Z36
    have V139 : Arv Z h139 b23 c23 .int (4 : Int32) [(.int (-1 : Int32)), (.int (-1 : Int32)), (.int q0), (.int (-1 : Int32))] (.int (0 : Int32)) := V139
    have K139 : Keep h0 h139 [a1] := K36.wr W139 (Or.inr H23)
    have k140 : Go p e below m W T139 27 #[.val (.ref a1), .val (.int (4 : Int32)), .val (.ref l1), .val (.ref oi_30), .val (.ref x0)] [(.ref oi_30)] := (k139.goto X139 hx (hb hby d_rmfa0_61) (by decide) (by decide)).aloadN X139 hx (hb hby d_rmfa0_26) rfl rfl
    have g_152 := q36_1.other W139 (Or.inl (Ne.symm g_150))
    have g_153 := q36_4.other W139 (Or.inl (Ne.symm g_150))
    have g_154 := (g_9.keep Kq36 (by simp only [List.mem_cons, List.not_mem_nil, or_false, not_or]; exact g_14)).other W139 (Or.inl g_7)
    have g_155 := q36_0.wr W139
    obtain ⟨T141, v141, L141, X141, Q141, k141⟩ := k140.iface (y := (⟨"java/util/Iterator", "hasNext", "()Z"⟩ : MethodName)) (z := (⟨"java/util/ArrayList$Itr", "hasNext", "()Z"⟩ : MethodName)) (Wd := 0) (cells' := 2) (slots' := 8) (argsL := []) (rest := []) X139 hx hZ hown (by rw [hml]; rfl) (hv 66 rfl) (hv 67 rfl) (mvT hZ (hv 68 rfl)) (hv 69 rfl) (hv 70 rfl) (hv 71 rfl) (hv 72 rfl) (hv 73 rfl) (hv 74 rfl) (hv 52 rfl) (hb hby d_rmfa0_27) (by decide) (rmhn12 l Z a0 hw [] oi_30 l1 h139 n0 Z139 g_152 g_153 g_154) e139 g_155 rfl rfl pd_rmfa0_2 rfl (Nat.le_of_eq rfl) (by decide) (by decide) rfl rfl (by decide) (by decide)
    obtain ⟨rfl, Nq141, e141q⟩ := Q141
    have N141 := Fr.app N139 Nq141
    have e141 : T141.heap = h139 := e141q
    have k141 : Go p e below m W T141 32 #[.val (.ref a1), .val (.int (4 : Int32)), .val (.ref l1), .val (.ref oi_30), .val (.ref x0)] [(.int (1 : Int32))] := k141
    have k142 : Go p e below m W T141 36 #[.val (.ref a1), .val (.int (4 : Int32)), .val (.ref l1), .val (.ref oi_30), .val (.ref x0)] [(.ref oi_30)] := (k141.ifNo X141 hx (hb hby d_rmfa0_32) (XT.i0_eq_f (by decide))).aloadN X141 hx (hb hby d_rmfa0_35) rfl rfl
    have g_156 := q36_2.other W139 (Or.inl (Ne.symm g_150))
    have g_157 := q36_3.other W139 (Or.inl (Ne.symm g_150))
    have g_158 := (g_10.keep Kq36 (by simp only [List.mem_cons, List.not_mem_nil, or_false, not_or]; exact g_14)).other W139 (Or.inl g_7)
    have g_159 := (g_11.keep Kq36 (by simp only [List.mem_cons, List.not_mem_nil, or_false, not_or]; exact g_14)).other W139 (Or.inl g_7)
    have g_160 := (g_13.keep Kq36 (by simp only [List.mem_cons, List.not_mem_nil, or_false, not_or]; exact g_16)).other W139 g_12
    obtain ⟨T143, v143, L143, X143, Q143, k143⟩ := k142.iface (y := (⟨"java/util/Iterator", "next", "()Ljava/lang/Object;"⟩ : MethodName)) (z := (⟨"java/util/ArrayList$Itr", "next", "()Ljava/lang/Object;"⟩ : MethodName)) (Wd := 0) (cells' := 2) (slots' := 8) (argsL := []) (rest := []) X141 hx hZ hown (by rw [hml]; rfl) (hv 144 rfl) (hv 145 rfl) (mvT hZ (hv 146 rfl)) (hv 147 rfl) (hv 148 rfl) (hv 149 rfl) (hv 150 rfl) (hv 73 rfl) (hv 151 rfl) (hv 52 rfl) (hb hby d_rmfa0_36) (by decide) (rmnx12 l Z a0 hw [] oi_30 l1 d1 k1 (2 : Int32) (.int (0 : Int32)) x0 x1 h139 n0 Z139 g_155 q30_5 g_152 g_156 g_157 g_153 g_158 g_154 g_159 g_160 g_14 g_16) e141 g_155 rfl rfl pd_rmfa1_3 rfl (Nat.le_of_eq rfl) (by decide) (by decide) rfl rfl (by decide) (by decide)
    obtain ⟨rfl, Nq143, Kq143, q143_0, q143_1, q143_2, q143_3, q143_4⟩ := Q143
    have N143 := Fr.app N141 Nq143
    obtain ⟨h143, e143⟩ : ∃ h, T143.heap = h := ⟨_, rfl⟩
    rw [e143] at Kq143 q143_0 q143_1 q143_2 q143_3 q143_4
    have Z143 : n0 ≤ h143.size := Nat.le_trans Z139 Kq143.1
    have K143 : Keep h0 h143 [a1] := K139.trans Kq143 (by intro x q; simp only [List.mem_cons, List.not_mem_nil, or_false] at q; rcases q with rfl; exact (Or.inr H31))
    have k143 : Go p e below m W T143 41 #[.val (.ref a1), .val (.int (4 : Int32)), .val (.ref l1), .val (.ref oi_30), .val (.ref x0)] [(.ref x1)] := k143
    have g_161 := ((((((Ex1.ext E23).wr W24).keep Kq28).keep Kq30).keep Kq36).wr W139).keep Kq143
    obtain ⟨T144, X144, e144, k144⟩ := k143.castY X143 hx hZ hown (hv 158 rfl) e143 (Ins.self g_161) (hb hby d_rmfa0_41)
    have k144 : Go p e below m W T144 44 #[.val (.ref a1), .val (.int (4 : Int32)), .val (.ref l1), .val (.ref oi_30), .val (.ref x0)] [(.ref x1)] := k144
    have k145 : Go p e below m W T144 46 #[.val (.ref a1), .val (.int (4 : Int32)), .val (.ref l1), .val (.ref oi_30), .val (.ref x1)] [] := k144.astore X144 hx (hb hby d_rmfa0_44) rfl rfl
    have k146 : Go p e below m W T144 47 #[.val (.ref a1), .val (.int (4 : Int32)), .val (.ref l1), .val (.ref oi_30), .val (.ref x1)] [(.ref a1)] := k145.aloadN X144 hx (hb hby d_rmfa0_46) rfl rfl
    have g_162 := (g_20.other W139 (Or.inl g_4)).keep Kq143 (by simp only [List.mem_cons, List.not_mem_nil, or_false, not_or]; exact g_19)
    obtain ⟨T147, X147, e147, k147⟩ := k146.getF X144 hx hZ hown (host := "") (Or.inl (hv 35 rfl)) Via.refl e144 g_162 (hb hby d_rmfa0_47)
    have k147 : Go p e below m W T147 50 #[.val (.ref a1), .val (.int (4 : Int32)), .val (.ref l1), .val (.ref oi_30), .val (.ref x1)] [(.ref b23)] := k147
    have k148 : Go p e below m W T147 52 #[.val (.ref a1), .val (.int (4 : Int32)), .val (.ref l1), .val (.ref oi_30), .val (.ref x1)] [(.ref x1), (.ref b23)] := k147.aload X147 hx (hb hby d_rmfa0_50) rfl rfl
    have g_163 := (show x1 ≠ b23 from Nat.ne_of_lt (g23 ▸ Ex1.lt))
    have g_164 := ((Ex1.ext E23).wr W24).keep Kq28
    have g_165 := (show x1 ≠ oi_30 from Nat.ne_of_lt (Nat.lt_of_lt_of_le g_164.lt q30_6))
    have g_166 := ((((((Ff1.ext E23).other W24 (Or.inl nx1)).keep Kq28 (by simp only [List.mem_cons, List.not_mem_nil, or_false, not_or]; exact g_163)).keep Kq30 (List.not_mem_nil)).keep Kq36 (by simp only [List.mem_cons, List.not_mem_nil, or_false, not_or]; exact g_165)).other W139 (Or.inl g_163)).keep Kq143 (by simp only [List.mem_cons, List.not_mem_nil, or_false, not_or]; exact g_165)
    obtain ⟨T149, v149, L149, X149, Q149, k149⟩ := k148.virt (y := (⟨"com/example/enact/enact/Classification$Flat", "feeder", "()I"⟩ : MethodName)) (z := (⟨"com/example/enact/enact/Classification$Flat", "feeder", "()I"⟩ : MethodName)) (Wd := 1) (cells' := 2) (slots' := 8) (argsL := []) (rest := [(.ref b23)]) X147 hx hZ hown (by rw [hml]; rfl) (hv 160 rfl) (hv 161 rfl) (notFace_of_selects (args := #[]) (mvT hZ (hv 163 rfl))) (hv 163 rfl) (hv 162 rfl) (hv 164 rfl) (hv 97 rfl) (hb hby d_rmfa0_52) (by decide) (rmfe l Z a0 hw [] x1 f1 h143 n0 Z143 g_166) e147 g_161 rfl rfl pd_rmfa1_4 rfl (Nat.le_of_eq rfl) (by decide) (by decide) rfl rfl (by decide) (by decide)
    obtain ⟨rfl, Nq149, e149q⟩ := Q149
    have N149 := Fr.app N143 Nq149
    have e149 : T149.heap = h143 := e149q
    have k149 : Go p e below m W T149 55 #[.val (.ref a1), .val (.int (4 : Int32)), .val (.ref l1), .val (.ref oi_30), .val (.ref x1)] [(.int f1), (.ref b23)] := k149
    have k150 : Go p e below m W T149 57 #[.val (.ref a1), .val (.int (4 : Int32)), .val (.ref l1), .val (.ref oi_30), .val (.ref x1)] [(.ref x1), (.int f1), (.ref b23)] := k149.aload X149 hx (hb hby d_rmfa0_55) rfl rfl
    have g_167 := ((((((Fp1.ext E23).other W24 (Or.inl nx1)).keep Kq28 (by simp only [List.mem_cons, List.not_mem_nil, or_false, not_or]; exact g_163)).keep Kq30 (List.not_mem_nil)).keep Kq36 (by simp only [List.mem_cons, List.not_mem_nil, or_false, not_or]; exact g_165)).other W139 (Or.inl g_163)).keep Kq143 (by simp only [List.mem_cons, List.not_mem_nil, or_false, not_or]; exact g_165)
    obtain ⟨T151, v151, L151, X151, Q151, k151⟩ := k150.virt (y := (⟨"com/example/enact/enact/Classification$Flat", "place", "()I"⟩ : MethodName)) (z := (⟨"com/example/enact/enact/Classification$Flat", "place", "()I"⟩ : MethodName)) (Wd := 2) (cells' := 2) (slots' := 8) (argsL := []) (rest := [(.int f1), (.ref b23)]) X149 hx hZ hown (by rw [hml]; rfl) (hv 165 rfl) (hv 166 rfl) (notFace_of_selects (args := #[]) (mvT hZ (hv 168 rfl))) (hv 168 rfl) (hv 167 rfl) (hv 169 rfl) (hv 97 rfl) (hb hby d_rmfa0_57) (by decide) (rmfp l Z a0 hw [] x1 q1 h143 n0 Z143 g_167) e149 g_161 rfl rfl pd_rmfa1_4 rfl (Nat.le_of_eq rfl) (by decide) (by decide) rfl rfl (by decide) (by decide)
    obtain ⟨rfl, Nq151, e151q⟩ := Q151
    have N151 := Fr.app N149 Nq151
    have e151 : T151.heap = h143 := e151q
    have k151 : Go p e below m W T151 60 #[.val (.ref a1), .val (.int (4 : Int32)), .val (.ref l1), .val (.ref oi_30), .val (.ref x1)] [(.int q1), (.int f1), (.ref b23)] := k151
    rcases B1 with q152 | q153 | q154 | q155
    ·
      subst f1
      have g_168 := V139.keep Kq143 (by simp only [List.mem_cons, List.not_mem_nil, or_false, not_or]; exact g_150)
      obtain ⟨T156, h156, l156, X156, e156, W156, V156, N156, k156⟩ := k151.iastore (i := 0) X151 hx hZ e151 g_168 rfl rfl (by decide) (Nat.le_of_ble_eq_true rfl) N151 G23 (hb hby d_rmfa0_60)
      have k156 : Go p e below m W T156 61 #[.val (.ref a1), .val (.int (4 : Int32)), .val (.ref l1), .val (.ref oi_30), .val (.ref x1)] [] := k156
      have Z156 : n0 ≤ h156.size := (Wr.size W156).symm ▸ Z143
      have V156 : Arv Z h156 b23 c23 .int (4 : Int32) [(.int q1), (.int (-1 : Int32)), (.int q0), (.int (-1 : Int32))] (.int (0 : Int32)) := V156
      have K156 : Keep h0 h156 [a1] := K143.wr W156 (Or.inr H23)
      have k157 : Go p e below m W T156 27 #[.val (.ref a1), .val (.int (4 : Int32)), .val (.ref l1), .val (.ref oi_30), .val (.ref x1)] [(.ref oi_30)] := (k156.goto X156 hx (hb hby d_rmfa0_61) (by decide) (by decide)).aloadN X156 hx (hb hby d_rmfa0_26) rfl rfl
      have g_169 := q143_1.other W156 (Or.inl (Ne.symm g_150))
      have g_170 := q143_4.other W156 (Or.inl (Ne.symm g_150))
      have g_171 := (g_154.keep Kq143 (by simp only [List.mem_cons, List.not_mem_nil, or_false, not_or]; exact g_14)).other W156 (Or.inl g_7)
      have g_172 := q143_0.wr W156
      obtain ⟨T158, v158, L158, X158, Q158, k158⟩ := k157.iface (y := (⟨"java/util/Iterator", "hasNext", "()Z"⟩ : MethodName)) (z := (⟨"java/util/ArrayList$Itr", "hasNext", "()Z"⟩ : MethodName)) (Wd := 0) (cells' := 2) (slots' := 8) (argsL := []) (rest := []) X156 hx hZ hown (by rw [hml]; rfl) (hv 66 rfl) (hv 67 rfl) (mvT hZ (hv 68 rfl)) (hv 69 rfl) (hv 70 rfl) (hv 71 rfl) (hv 72 rfl) (hv 73 rfl) (hv 74 rfl) (hv 52 rfl) (hb hby d_rmfa0_27) (by decide) (rmhn22 l Z a0 hw [] oi_30 l1 h156 n0 Z156 g_169 g_170 g_171) e156 g_172 rfl rfl pd_rmfa0_2 rfl (Nat.le_of_eq rfl) (by decide) (by decide) rfl rfl (by decide) (by decide)
      obtain ⟨rfl, Nq158, e158q⟩ := Q158
      have N158 := Fr.app N156 Nq158
      have e158 : T158.heap = h156 := e158q
      have k158 : Go p e below m W T158 32 #[.val (.ref a1), .val (.int (4 : Int32)), .val (.ref l1), .val (.ref oi_30), .val (.ref x1)] [(.int (0 : Int32))] := k158
      have k159 : Go p e below m W T158 66 #[.val (.ref a1), .val (.int (4 : Int32)), .val (.ref l1), .val (.ref oi_30), .val (.ref x1)] [(.ref l1), (.ref a1)] := ((k158.ifYes X158 hx (hb hby d_rmfa0_32) (XT.i0_eq_t (by decide)) (by decide) (by decide)).aloadN X158 hx (hb hby d_rmfa0_64) rfl rfl).aloadN X158 hx (hb hby d_rmfa0_65) rfl rfl
      have g_173 := ((((g_6.keep Kq30).keep Kq36).wr W139).keep Kq143).wr W156
      obtain ⟨T160, v160, L160, X160, Q160, k160⟩ := k159.iface (y := (⟨"java/util/List", "isEmpty", "()Z"⟩ : MethodName)) (z := (⟨"java/util/ArrayList", "isEmpty", "()Z"⟩ : MethodName)) (Wd := 1) (cells' := 2) (slots' := 8) (argsL := []) (rest := [(.ref a1)]) X158 hx hZ hown (by rw [hml]; rfl) (hv 79 rfl) (hv 80 rfl) (mvT hZ (hv 81 rfl)) (hv 82 rfl) (hv 83 rfl) (hv 84 rfl) (hv 85 rfl) (hv 48 rfl) (hv 86 rfl) (hv 3 rfl) (hb hby d_rmfa0_66) (by decide) (rmem2 l Z a0 hw [] l1 h156 n0 Z156 g_171) e158 g_173 rfl rfl pd_rmfa0_2 rfl (Nat.le_of_eq rfl) (by decide) (by decide) rfl rfl (by decide) (by decide)
      obtain ⟨rfl, Nq160, e160q⟩ := Q160
      have N160 := Fr.app N158 Nq160
      have e160 : T160.heap = h156 := e160q
      have k160 : Go p e below m W T160 71 #[.val (.ref a1), .val (.int (4 : Int32)), .val (.ref l1), .val (.ref oi_30), .val (.ref x1)] [(.int (0 : Int32)), (.ref a1)] := k160
      have k161 : Go p e below m W T160 79 #[.val (.ref a1), .val (.int (4 : Int32)), .val (.ref l1), .val (.ref oi_30), .val (.ref x1)] [(.int (1 : Int32)), (.ref a1)] := ((k160.ifNo X160 hx (hb hby d_rmfa0_71) (XT.i0_ne_f (by decide))).iconst X160 hx (hb hby d_rmfa0_74) (v := (1 : Int32)) rfl).goto X160 hx (hb hby d_rmfa0_75) (by decide) (by decide)
      have g_174 := (((((((F1.ext E23).other W24 (Or.inr (slot_ne (Or.inr (hv 89 rfl)) (Or.inr (hv 36 rfl)) (by decide) (by decide : parseFieldDescriptor "Z" = some .boolean) (by decide : parseFieldDescriptor "[I" = some (.array .int))))).keep Kq28 (by simp only [List.mem_cons, List.not_mem_nil, or_false, not_or]; exact g_4)).keep Kq30 (List.not_mem_nil)).keep Kq36 (by simp only [List.mem_cons, List.not_mem_nil, or_false, not_or]; exact g_19)).other W139 (Or.inl g_4)).keep Kq143 (by simp only [List.mem_cons, List.not_mem_nil, or_false, not_or]; exact g_19)).other W156 (Or.inl g_4)
      have g_175 := ((((g_18.keep Kq30).keep Kq36).wr W139).keep Kq143).wr W156
      obtain ⟨T162, h162, l162, X162, e162, W162, N162, k162⟩ := k161.putF X160 hx hZ hown (host := "") (Or.inl (hv 88 rfl)) Via.refl e160 g_174 g_175 (Or.inr ⟨(hv 89 rfl), rfl, hnm⟩) (hv 28 rfl) (ty := .boolean) (by decide) (own_nz (Or.inr rfl)).1 (own_nz (Or.inr rfl)).2.1 N160 G1 (hb hby d_rmfa0_79)
      have k162 : Go p e below m W T162 82 #[.val (.ref a1), .val (.int (4 : Int32)), .val (.ref l1), .val (.ref oi_30), .val (.ref x1)] [] := k162
      have Z162 : n0 ≤ h162.size := (Wr.size W162).symm ▸ Z156
      have K162 : Keep h0 h162 [a1] := K156.wr W162 (Or.inl (List.mem_of_getElem? (i := 0) rfl))
      have g_176 := g_175.wr W162
      have g_177 := (g_162.other W156 (Or.inl g_4)).other W162 (Or.inr (slot_ne (Or.inr (hv 36 rfl)) (Or.inr (hv 89 rfl)) (by decide) (by decide : parseFieldDescriptor "[I" = some (.array .int)) (by decide : parseFieldDescriptor "Z" = some .boolean)))
      have g_178 := V156.other W162 (Ne.symm g_4)
      exact k162.return_ X162 hx Bd.returns (hb hby d_rmfa0_82) (BodyLoose.notSynchronized Bd) (by rw [e162]; exact ⟨b23, c23, rfl, N162, K162, g_176, g_177, (own_cv4 g_178 (by first | rfl | (simp [own_e1, own_e2]; done)) (by first | rfl | (simp [own_e1, own_e2]; done)) (by first | rfl | (simp [own_e1, own_e2]; done)) (by first | rfl | (simp [own_e1, own_e2]; done))), G23, H23, g_4⟩) (by decide) (by decide)
    ·
      subst f1
      have g_179 := V139.keep Kq143 (by simp only [List.mem_cons, List.not_mem_nil, or_false, not_or]; exact g_150)
      obtain ⟨T163, h163, l163, X163, e163, W163, V163, N163, k163⟩ := k151.iastore (i := 1) X151 hx hZ e151 g_179 rfl rfl (by decide) (Nat.le_of_ble_eq_true rfl) N151 G23 (hb hby d_rmfa0_60)
      have k163 : Go p e below m W T163 61 #[.val (.ref a1), .val (.int (4 : Int32)), .val (.ref l1), .val (.ref oi_30), .val (.ref x1)] [] := k163
      have Z163 : n0 ≤ h163.size := (Wr.size W163).symm ▸ Z143
      have V163 : Arv Z h163 b23 c23 .int (4 : Int32) [(.int (-1 : Int32)), (.int q1), (.int q0), (.int (-1 : Int32))] (.int (0 : Int32)) := V163
      have K163 : Keep h0 h163 [a1] := K143.wr W163 (Or.inr H23)
      have k164 : Go p e below m W T163 27 #[.val (.ref a1), .val (.int (4 : Int32)), .val (.ref l1), .val (.ref oi_30), .val (.ref x1)] [(.ref oi_30)] := (k163.goto X163 hx (hb hby d_rmfa0_61) (by decide) (by decide)).aloadN X163 hx (hb hby d_rmfa0_26) rfl rfl
      have g_180 := q143_1.other W163 (Or.inl (Ne.symm g_150))
      have g_181 := q143_4.other W163 (Or.inl (Ne.symm g_150))
      have g_182 := (g_154.keep Kq143 (by simp only [List.mem_cons, List.not_mem_nil, or_false, not_or]; exact g_14)).other W163 (Or.inl g_7)
      have g_183 := q143_0.wr W163
      obtain ⟨T165, v165, L165, X165, Q165, k165⟩ := k164.iface (y := (⟨"java/util/Iterator", "hasNext", "()Z"⟩ : MethodName)) (z := (⟨"java/util/ArrayList$Itr", "hasNext", "()Z"⟩ : MethodName)) (Wd := 0) (cells' := 2) (slots' := 8) (argsL := []) (rest := []) X163 hx hZ hown (by rw [hml]; rfl) (hv 66 rfl) (hv 67 rfl) (mvT hZ (hv 68 rfl)) (hv 69 rfl) (hv 70 rfl) (hv 71 rfl) (hv 72 rfl) (hv 73 rfl) (hv 74 rfl) (hv 52 rfl) (hb hby d_rmfa0_27) (by decide) (rmhn22 l Z a0 hw [] oi_30 l1 h163 n0 Z163 g_180 g_181 g_182) e163 g_183 rfl rfl pd_rmfa0_2 rfl (Nat.le_of_eq rfl) (by decide) (by decide) rfl rfl (by decide) (by decide)
      obtain ⟨rfl, Nq165, e165q⟩ := Q165
      have N165 := Fr.app N163 Nq165
      have e165 : T165.heap = h163 := e165q
      have k165 : Go p e below m W T165 32 #[.val (.ref a1), .val (.int (4 : Int32)), .val (.ref l1), .val (.ref oi_30), .val (.ref x1)] [(.int (0 : Int32))] := k165
      have k166 : Go p e below m W T165 66 #[.val (.ref a1), .val (.int (4 : Int32)), .val (.ref l1), .val (.ref oi_30), .val (.ref x1)] [(.ref l1), (.ref a1)] := ((k165.ifYes X165 hx (hb hby d_rmfa0_32) (XT.i0_eq_t (by decide)) (by decide) (by decide)).aloadN X165 hx (hb hby d_rmfa0_64) rfl rfl).aloadN X165 hx (hb hby d_rmfa0_65) rfl rfl
      have g_184 := ((((g_6.keep Kq30).keep Kq36).wr W139).keep Kq143).wr W163
      obtain ⟨T167, v167, L167, X167, Q167, k167⟩ := k166.iface (y := (⟨"java/util/List", "isEmpty", "()Z"⟩ : MethodName)) (z := (⟨"java/util/ArrayList", "isEmpty", "()Z"⟩ : MethodName)) (Wd := 1) (cells' := 2) (slots' := 8) (argsL := []) (rest := [(.ref a1)]) X165 hx hZ hown (by rw [hml]; rfl) (hv 79 rfl) (hv 80 rfl) (mvT hZ (hv 81 rfl)) (hv 82 rfl) (hv 83 rfl) (hv 84 rfl) (hv 85 rfl) (hv 48 rfl) (hv 86 rfl) (hv 3 rfl) (hb hby d_rmfa0_66) (by decide) (rmem2 l Z a0 hw [] l1 h163 n0 Z163 g_182) e165 g_184 rfl rfl pd_rmfa0_2 rfl (Nat.le_of_eq rfl) (by decide) (by decide) rfl rfl (by decide) (by decide)
      obtain ⟨rfl, Nq167, e167q⟩ := Q167
      have N167 := Fr.app N165 Nq167
      have e167 : T167.heap = h163 := e167q
      have k167 : Go p e below m W T167 71 #[.val (.ref a1), .val (.int (4 : Int32)), .val (.ref l1), .val (.ref oi_30), .val (.ref x1)] [(.int (0 : Int32)), (.ref a1)] := k167
      have k168 : Go p e below m W T167 79 #[.val (.ref a1), .val (.int (4 : Int32)), .val (.ref l1), .val (.ref oi_30), .val (.ref x1)] [(.int (1 : Int32)), (.ref a1)] := ((k167.ifNo X167 hx (hb hby d_rmfa0_71) (XT.i0_ne_f (by decide))).iconst X167 hx (hb hby d_rmfa0_74) (v := (1 : Int32)) rfl).goto X167 hx (hb hby d_rmfa0_75) (by decide) (by decide)
      have g_185 := (((((((F1.ext E23).other W24 (Or.inr (slot_ne (Or.inr (hv 89 rfl)) (Or.inr (hv 36 rfl)) (by decide) (by decide : parseFieldDescriptor "Z" = some .boolean) (by decide : parseFieldDescriptor "[I" = some (.array .int))))).keep Kq28 (by simp only [List.mem_cons, List.not_mem_nil, or_false, not_or]; exact g_4)).keep Kq30 (List.not_mem_nil)).keep Kq36 (by simp only [List.mem_cons, List.not_mem_nil, or_false, not_or]; exact g_19)).other W139 (Or.inl g_4)).keep Kq143 (by simp only [List.mem_cons, List.not_mem_nil, or_false, not_or]; exact g_19)).other W163 (Or.inl g_4)
      have g_186 := ((((g_18.keep Kq30).keep Kq36).wr W139).keep Kq143).wr W163
      obtain ⟨T169, h169, l169, X169, e169, W169, N169, k169⟩ := k168.putF X167 hx hZ hown (host := "") (Or.inl (hv 88 rfl)) Via.refl e167 g_185 g_186 (Or.inr ⟨(hv 89 rfl), rfl, hnm⟩) (hv 28 rfl) (ty := .boolean) (by decide) (own_nz (Or.inr rfl)).1 (own_nz (Or.inr rfl)).2.1 N167 G1 (hb hby d_rmfa0_79)
      have k169 : Go p e below m W T169 82 #[.val (.ref a1), .val (.int (4 : Int32)), .val (.ref l1), .val (.ref oi_30), .val (.ref x1)] [] := k169
      have Z169 : n0 ≤ h169.size := (Wr.size W169).symm ▸ Z163
      have K169 : Keep h0 h169 [a1] := K163.wr W169 (Or.inl (List.mem_of_getElem? (i := 0) rfl))
      have g_187 := g_186.wr W169
      have g_188 := (g_162.other W163 (Or.inl g_4)).other W169 (Or.inr (slot_ne (Or.inr (hv 36 rfl)) (Or.inr (hv 89 rfl)) (by decide) (by decide : parseFieldDescriptor "[I" = some (.array .int)) (by decide : parseFieldDescriptor "Z" = some .boolean)))
      have g_189 := V163.other W169 (Ne.symm g_4)
      exact k169.return_ X169 hx Bd.returns (hb hby d_rmfa0_82) (BodyLoose.notSynchronized Bd) (by rw [e169]; exact ⟨b23, c23, rfl, N169, K169, g_187, g_188, (own_cv4 g_189 (by first | rfl | (simp [own_e1, own_e2]; done)) (by first | rfl | (simp [own_e1, own_e2]; done)) (by first | rfl | (simp [own_e1, own_e2]; done)) (by first | rfl | (simp [own_e1, own_e2]; done))), G23, H23, g_4⟩) (by decide) (by decide)
    ·
      subst f1
      have g_190 := V139.keep Kq143 (by simp only [List.mem_cons, List.not_mem_nil, or_false, not_or]; exact g_150)
      obtain ⟨T170, h170, l170, X170, e170, W170, V170, N170, k170⟩ := k151.iastore (i := 2) X151 hx hZ e151 g_190 rfl rfl (by decide) (Nat.le_of_ble_eq_true rfl) N151 G23 (hb hby d_rmfa0_60)
      have k170 : Go p e below m W T170 61 #[.val (.ref a1), .val (.int (4 : Int32)), .val (.ref l1), .val (.ref oi_30), .val (.ref x1)] [] := k170
      have Z170 : n0 ≤ h170.size := (Wr.size W170).symm ▸ Z143
      have V170 : Arv Z h170 b23 c23 .int (4 : Int32) [(.int (-1 : Int32)), (.int (-1 : Int32)), (.int q1), (.int (-1 : Int32))] (.int (0 : Int32)) := V170
      have K170 : Keep h0 h170 [a1] := K143.wr W170 (Or.inr H23)
      have k171 : Go p e below m W T170 27 #[.val (.ref a1), .val (.int (4 : Int32)), .val (.ref l1), .val (.ref oi_30), .val (.ref x1)] [(.ref oi_30)] := (k170.goto X170 hx (hb hby d_rmfa0_61) (by decide) (by decide)).aloadN X170 hx (hb hby d_rmfa0_26) rfl rfl
      have g_191 := q143_1.other W170 (Or.inl (Ne.symm g_150))
      have g_192 := q143_4.other W170 (Or.inl (Ne.symm g_150))
      have g_193 := (g_154.keep Kq143 (by simp only [List.mem_cons, List.not_mem_nil, or_false, not_or]; exact g_14)).other W170 (Or.inl g_7)
      have g_194 := q143_0.wr W170
      obtain ⟨T172, v172, L172, X172, Q172, k172⟩ := k171.iface (y := (⟨"java/util/Iterator", "hasNext", "()Z"⟩ : MethodName)) (z := (⟨"java/util/ArrayList$Itr", "hasNext", "()Z"⟩ : MethodName)) (Wd := 0) (cells' := 2) (slots' := 8) (argsL := []) (rest := []) X170 hx hZ hown (by rw [hml]; rfl) (hv 66 rfl) (hv 67 rfl) (mvT hZ (hv 68 rfl)) (hv 69 rfl) (hv 70 rfl) (hv 71 rfl) (hv 72 rfl) (hv 73 rfl) (hv 74 rfl) (hv 52 rfl) (hb hby d_rmfa0_27) (by decide) (rmhn22 l Z a0 hw [] oi_30 l1 h170 n0 Z170 g_191 g_192 g_193) e170 g_194 rfl rfl pd_rmfa0_2 rfl (Nat.le_of_eq rfl) (by decide) (by decide) rfl rfl (by decide) (by decide)
      obtain ⟨rfl, Nq172, e172q⟩ := Q172
      have N172 := Fr.app N170 Nq172
      have e172 : T172.heap = h170 := e172q
      have k172 : Go p e below m W T172 32 #[.val (.ref a1), .val (.int (4 : Int32)), .val (.ref l1), .val (.ref oi_30), .val (.ref x1)] [(.int (0 : Int32))] := k172
      have k173 : Go p e below m W T172 66 #[.val (.ref a1), .val (.int (4 : Int32)), .val (.ref l1), .val (.ref oi_30), .val (.ref x1)] [(.ref l1), (.ref a1)] := ((k172.ifYes X172 hx (hb hby d_rmfa0_32) (XT.i0_eq_t (by decide)) (by decide) (by decide)).aloadN X172 hx (hb hby d_rmfa0_64) rfl rfl).aloadN X172 hx (hb hby d_rmfa0_65) rfl rfl
      have g_195 := ((((g_6.keep Kq30).keep Kq36).wr W139).keep Kq143).wr W170
      obtain ⟨T174, v174, L174, X174, Q174, k174⟩ := k173.iface (y := (⟨"java/util/List", "isEmpty", "()Z"⟩ : MethodName)) (z := (⟨"java/util/ArrayList", "isEmpty", "()Z"⟩ : MethodName)) (Wd := 1) (cells' := 2) (slots' := 8) (argsL := []) (rest := [(.ref a1)]) X172 hx hZ hown (by rw [hml]; rfl) (hv 79 rfl) (hv 80 rfl) (mvT hZ (hv 81 rfl)) (hv 82 rfl) (hv 83 rfl) (hv 84 rfl) (hv 85 rfl) (hv 48 rfl) (hv 86 rfl) (hv 3 rfl) (hb hby d_rmfa0_66) (by decide) (rmem2 l Z a0 hw [] l1 h170 n0 Z170 g_193) e172 g_195 rfl rfl pd_rmfa0_2 rfl (Nat.le_of_eq rfl) (by decide) (by decide) rfl rfl (by decide) (by decide)
      obtain ⟨rfl, Nq174, e174q⟩ := Q174
      have N174 := Fr.app N172 Nq174
      have e174 : T174.heap = h170 := e174q
      have k174 : Go p e below m W T174 71 #[.val (.ref a1), .val (.int (4 : Int32)), .val (.ref l1), .val (.ref oi_30), .val (.ref x1)] [(.int (0 : Int32)), (.ref a1)] := k174
      have k175 : Go p e below m W T174 79 #[.val (.ref a1), .val (.int (4 : Int32)), .val (.ref l1), .val (.ref oi_30), .val (.ref x1)] [(.int (1 : Int32)), (.ref a1)] := ((k174.ifNo X174 hx (hb hby d_rmfa0_71) (XT.i0_ne_f (by decide))).iconst X174 hx (hb hby d_rmfa0_74) (v := (1 : Int32)) rfl).goto X174 hx (hb hby d_rmfa0_75) (by decide) (by decide)
      have g_196 := (((((((F1.ext E23).other W24 (Or.inr (slot_ne (Or.inr (hv 89 rfl)) (Or.inr (hv 36 rfl)) (by decide) (by decide : parseFieldDescriptor "Z" = some .boolean) (by decide : parseFieldDescriptor "[I" = some (.array .int))))).keep Kq28 (by simp only [List.mem_cons, List.not_mem_nil, or_false, not_or]; exact g_4)).keep Kq30 (List.not_mem_nil)).keep Kq36 (by simp only [List.mem_cons, List.not_mem_nil, or_false, not_or]; exact g_19)).other W139 (Or.inl g_4)).keep Kq143 (by simp only [List.mem_cons, List.not_mem_nil, or_false, not_or]; exact g_19)).other W170 (Or.inl g_4)
      have g_197 := ((((g_18.keep Kq30).keep Kq36).wr W139).keep Kq143).wr W170
      obtain ⟨T176, h176, l176, X176, e176, W176, N176, k176⟩ := k175.putF X174 hx hZ hown (host := "") (Or.inl (hv 88 rfl)) Via.refl e174 g_196 g_197 (Or.inr ⟨(hv 89 rfl), rfl, hnm⟩) (hv 28 rfl) (ty := .boolean) (by decide) (own_nz (Or.inr rfl)).1 (own_nz (Or.inr rfl)).2.1 N174 G1 (hb hby d_rmfa0_79)
      have k176 : Go p e below m W T176 82 #[.val (.ref a1), .val (.int (4 : Int32)), .val (.ref l1), .val (.ref oi_30), .val (.ref x1)] [] := k176
      have Z176 : n0 ≤ h176.size := (Wr.size W176).symm ▸ Z170
      have K176 : Keep h0 h176 [a1] := K170.wr W176 (Or.inl (List.mem_of_getElem? (i := 0) rfl))
      have g_198 := g_197.wr W176
      have g_199 := (g_162.other W170 (Or.inl g_4)).other W176 (Or.inr (slot_ne (Or.inr (hv 36 rfl)) (Or.inr (hv 89 rfl)) (by decide) (by decide : parseFieldDescriptor "[I" = some (.array .int)) (by decide : parseFieldDescriptor "Z" = some .boolean)))
      have g_200 := V170.other W176 (Ne.symm g_4)
      exact k176.return_ X176 hx Bd.returns (hb hby d_rmfa0_82) (BodyLoose.notSynchronized Bd) (by rw [e176]; exact ⟨b23, c23, rfl, N176, K176, g_198, g_199, (own_cv4 g_200 (by first | rfl | (simp [own_e1, own_e2]; done)) (by first | rfl | (simp [own_e1, own_e2]; done)) (by first | rfl | (simp [own_e1, own_e2]; done)) (by first | rfl | (simp [own_e1, own_e2]; done))), G23, H23, g_4⟩) (by decide) (by decide)
    ·
      subst f1
      have g_201 := V139.keep Kq143 (by simp only [List.mem_cons, List.not_mem_nil, or_false, not_or]; exact g_150)
      obtain ⟨T177, h177, l177, X177, e177, W177, V177, N177, k177⟩ := k151.iastore (i := 3) X151 hx hZ e151 g_201 rfl rfl (by decide) (Nat.le_of_ble_eq_true rfl) N151 G23 (hb hby d_rmfa0_60)
      have k177 : Go p e below m W T177 61 #[.val (.ref a1), .val (.int (4 : Int32)), .val (.ref l1), .val (.ref oi_30), .val (.ref x1)] [] := k177
      have Z177 : n0 ≤ h177.size := (Wr.size W177).symm ▸ Z143
      have V177 : Arv Z h177 b23 c23 .int (4 : Int32) [(.int (-1 : Int32)), (.int (-1 : Int32)), (.int q0), (.int q1)] (.int (0 : Int32)) := V177
      have K177 : Keep h0 h177 [a1] := K143.wr W177 (Or.inr H23)
      have k178 : Go p e below m W T177 27 #[.val (.ref a1), .val (.int (4 : Int32)), .val (.ref l1), .val (.ref oi_30), .val (.ref x1)] [(.ref oi_30)] := (k177.goto X177 hx (hb hby d_rmfa0_61) (by decide) (by decide)).aloadN X177 hx (hb hby d_rmfa0_26) rfl rfl
      have g_202 := q143_1.other W177 (Or.inl (Ne.symm g_150))
      have g_203 := q143_4.other W177 (Or.inl (Ne.symm g_150))
      have g_204 := (g_154.keep Kq143 (by simp only [List.mem_cons, List.not_mem_nil, or_false, not_or]; exact g_14)).other W177 (Or.inl g_7)
      have g_205 := q143_0.wr W177
      obtain ⟨T179, v179, L179, X179, Q179, k179⟩ := k178.iface (y := (⟨"java/util/Iterator", "hasNext", "()Z"⟩ : MethodName)) (z := (⟨"java/util/ArrayList$Itr", "hasNext", "()Z"⟩ : MethodName)) (Wd := 0) (cells' := 2) (slots' := 8) (argsL := []) (rest := []) X177 hx hZ hown (by rw [hml]; rfl) (hv 66 rfl) (hv 67 rfl) (mvT hZ (hv 68 rfl)) (hv 69 rfl) (hv 70 rfl) (hv 71 rfl) (hv 72 rfl) (hv 73 rfl) (hv 74 rfl) (hv 52 rfl) (hb hby d_rmfa0_27) (by decide) (rmhn22 l Z a0 hw [] oi_30 l1 h177 n0 Z177 g_202 g_203 g_204) e177 g_205 rfl rfl pd_rmfa0_2 rfl (Nat.le_of_eq rfl) (by decide) (by decide) rfl rfl (by decide) (by decide)
      obtain ⟨rfl, Nq179, e179q⟩ := Q179
      have N179 := Fr.app N177 Nq179
      have e179 : T179.heap = h177 := e179q
      have k179 : Go p e below m W T179 32 #[.val (.ref a1), .val (.int (4 : Int32)), .val (.ref l1), .val (.ref oi_30), .val (.ref x1)] [(.int (0 : Int32))] := k179
      have k180 : Go p e below m W T179 66 #[.val (.ref a1), .val (.int (4 : Int32)), .val (.ref l1), .val (.ref oi_30), .val (.ref x1)] [(.ref l1), (.ref a1)] := ((k179.ifYes X179 hx (hb hby d_rmfa0_32) (XT.i0_eq_t (by decide)) (by decide) (by decide)).aloadN X179 hx (hb hby d_rmfa0_64) rfl rfl).aloadN X179 hx (hb hby d_rmfa0_65) rfl rfl
      have g_206 := ((((g_6.keep Kq30).keep Kq36).wr W139).keep Kq143).wr W177
      obtain ⟨T181, v181, L181, X181, Q181, k181⟩ := k180.iface (y := (⟨"java/util/List", "isEmpty", "()Z"⟩ : MethodName)) (z := (⟨"java/util/ArrayList", "isEmpty", "()Z"⟩ : MethodName)) (Wd := 1) (cells' := 2) (slots' := 8) (argsL := []) (rest := [(.ref a1)]) X179 hx hZ hown (by rw [hml]; rfl) (hv 79 rfl) (hv 80 rfl) (mvT hZ (hv 81 rfl)) (hv 82 rfl) (hv 83 rfl) (hv 84 rfl) (hv 85 rfl) (hv 48 rfl) (hv 86 rfl) (hv 3 rfl) (hb hby d_rmfa0_66) (by decide) (rmem2 l Z a0 hw [] l1 h177 n0 Z177 g_204) e179 g_206 rfl rfl pd_rmfa0_2 rfl (Nat.le_of_eq rfl) (by decide) (by decide) rfl rfl (by decide) (by decide)
      obtain ⟨rfl, Nq181, e181q⟩ := Q181
      have N181 := Fr.app N179 Nq181
      have e181 : T181.heap = h177 := e181q
      have k181 : Go p e below m W T181 71 #[.val (.ref a1), .val (.int (4 : Int32)), .val (.ref l1), .val (.ref oi_30), .val (.ref x1)] [(.int (0 : Int32)), (.ref a1)] := k181
      have k182 : Go p e below m W T181 79 #[.val (.ref a1), .val (.int (4 : Int32)), .val (.ref l1), .val (.ref oi_30), .val (.ref x1)] [(.int (1 : Int32)), (.ref a1)] := ((k181.ifNo X181 hx (hb hby d_rmfa0_71) (XT.i0_ne_f (by decide))).iconst X181 hx (hb hby d_rmfa0_74) (v := (1 : Int32)) rfl).goto X181 hx (hb hby d_rmfa0_75) (by decide) (by decide)
      have g_207 := (((((((F1.ext E23).other W24 (Or.inr (slot_ne (Or.inr (hv 89 rfl)) (Or.inr (hv 36 rfl)) (by decide) (by decide : parseFieldDescriptor "Z" = some .boolean) (by decide : parseFieldDescriptor "[I" = some (.array .int))))).keep Kq28 (by simp only [List.mem_cons, List.not_mem_nil, or_false, not_or]; exact g_4)).keep Kq30 (List.not_mem_nil)).keep Kq36 (by simp only [List.mem_cons, List.not_mem_nil, or_false, not_or]; exact g_19)).other W139 (Or.inl g_4)).keep Kq143 (by simp only [List.mem_cons, List.not_mem_nil, or_false, not_or]; exact g_19)).other W177 (Or.inl g_4)
      have g_208 := ((((g_18.keep Kq30).keep Kq36).wr W139).keep Kq143).wr W177
      obtain ⟨T183, h183, l183, X183, e183, W183, N183, k183⟩ := k182.putF X181 hx hZ hown (host := "") (Or.inl (hv 88 rfl)) Via.refl e181 g_207 g_208 (Or.inr ⟨(hv 89 rfl), rfl, hnm⟩) (hv 28 rfl) (ty := .boolean) (by decide) (own_nz (Or.inr rfl)).1 (own_nz (Or.inr rfl)).2.1 N181 G1 (hb hby d_rmfa0_79)
      have k183 : Go p e below m W T183 82 #[.val (.ref a1), .val (.int (4 : Int32)), .val (.ref l1), .val (.ref oi_30), .val (.ref x1)] [] := k183
      have Z183 : n0 ≤ h183.size := (Wr.size W183).symm ▸ Z177
      have K183 : Keep h0 h183 [a1] := K177.wr W183 (Or.inl (List.mem_of_getElem? (i := 0) rfl))
      have g_209 := g_208.wr W183
      have g_210 := (g_162.other W177 (Or.inl g_4)).other W183 (Or.inr (slot_ne (Or.inr (hv 36 rfl)) (Or.inr (hv 89 rfl)) (by decide) (by decide : parseFieldDescriptor "[I" = some (.array .int)) (by decide : parseFieldDescriptor "Z" = some .boolean)))
      have g_211 := V177.other W183 (Ne.symm g_4)
      exact k183.return_ X183 hx Bd.returns (hb hby d_rmfa0_82) (BodyLoose.notSynchronized Bd) (by rw [e183]; exact ⟨b23, c23, rfl, N183, K183, g_209, g_210, (own_cv4 g_211 (by first | rfl | (simp [own_e1, own_e2]; done)) (by first | rfl | (simp [own_e1, own_e2]; done)) (by first | rfl | (simp [own_e1, own_e2]; done)) (by first | rfl | (simp [own_e1, own_e2]; done))), G23, H23, g_4⟩) (by decide) (by decide)
  ·
    subst f0
    have g_212 := (show b23 ≠ oi_30 from Nat.ne_of_lt (Nat.lt_of_lt_of_le q28_0.lt q30_6))
    have g_213 := (q28_0.keep Kq30 (List.not_mem_nil)).keep Kq36 (by simp only [List.mem_cons, List.not_mem_nil, or_false, not_or]; exact g_212)
    obtain ⟨T184, h184, l184, X184, e184, W184, V184, N184, k184⟩ := k44.iastore (i := 3) X44 hx hZ e44 g_213 rfl rfl (by decide) (Nat.le_of_ble_eq_true rfl) N44 G23 (hb hby d_rmfa0_60)
    have k184 : Go p e below m W T184 61 #[.val (.ref a1), .val (.int (4 : Int32)), .val (.ref l1), .val (.ref oi_30), .val (.ref x0)] [] := k184
    have Z184 : n0 ≤ h184.size := (Wr.size W184).symm ▸ Z36
    have V184 : Arv Z h184 b23 c23 .int (4 : Int32) [(.int (-1 : Int32)), (.int (-1 : Int32)), (.int (-1 : Int32)), (.int q0)] (.int (0 : Int32)) := V184
    have K184 : Keep h0 h184 [a1] := K36.wr W184 (Or.inr H23)
    have k185 : Go p e below m W T184 27 #[.val (.ref a1), .val (.int (4 : Int32)), .val (.ref l1), .val (.ref oi_30), .val (.ref x0)] [(.ref oi_30)] := (k184.goto X184 hx (hb hby d_rmfa0_61) (by decide) (by decide)).aloadN X184 hx (hb hby d_rmfa0_26) rfl rfl
    have g_214 := q36_1.other W184 (Or.inl (Ne.symm g_212))
    have g_215 := q36_4.other W184 (Or.inl (Ne.symm g_212))
    have g_216 := (g_9.keep Kq36 (by simp only [List.mem_cons, List.not_mem_nil, or_false, not_or]; exact g_14)).other W184 (Or.inl g_7)
    have g_217 := q36_0.wr W184
    obtain ⟨T186, v186, L186, X186, Q186, k186⟩ := k185.iface (y := (⟨"java/util/Iterator", "hasNext", "()Z"⟩ : MethodName)) (z := (⟨"java/util/ArrayList$Itr", "hasNext", "()Z"⟩ : MethodName)) (Wd := 0) (cells' := 2) (slots' := 8) (argsL := []) (rest := []) X184 hx hZ hown (by rw [hml]; rfl) (hv 66 rfl) (hv 67 rfl) (mvT hZ (hv 68 rfl)) (hv 69 rfl) (hv 70 rfl) (hv 71 rfl) (hv 72 rfl) (hv 73 rfl) (hv 74 rfl) (hv 52 rfl) (hb hby d_rmfa0_27) (by decide) (rmhn12 l Z a0 hw [] oi_30 l1 h184 n0 Z184 g_214 g_215 g_216) e184 g_217 rfl rfl pd_rmfa0_2 rfl (Nat.le_of_eq rfl) (by decide) (by decide) rfl rfl (by decide) (by decide)
    obtain ⟨rfl, Nq186, e186q⟩ := Q186
    have N186 := Fr.app N184 Nq186
    have e186 : T186.heap = h184 := e186q
    have k186 : Go p e below m W T186 32 #[.val (.ref a1), .val (.int (4 : Int32)), .val (.ref l1), .val (.ref oi_30), .val (.ref x0)] [(.int (1 : Int32))] := k186
    have k187 : Go p e below m W T186 36 #[.val (.ref a1), .val (.int (4 : Int32)), .val (.ref l1), .val (.ref oi_30), .val (.ref x0)] [(.ref oi_30)] := (k186.ifNo X186 hx (hb hby d_rmfa0_32) (XT.i0_eq_f (by decide))).aloadN X186 hx (hb hby d_rmfa0_35) rfl rfl
    have g_218 := q36_2.other W184 (Or.inl (Ne.symm g_212))
    have g_219 := q36_3.other W184 (Or.inl (Ne.symm g_212))
    have g_220 := (g_10.keep Kq36 (by simp only [List.mem_cons, List.not_mem_nil, or_false, not_or]; exact g_14)).other W184 (Or.inl g_7)
    have g_221 := (g_11.keep Kq36 (by simp only [List.mem_cons, List.not_mem_nil, or_false, not_or]; exact g_14)).other W184 (Or.inl g_7)
    have g_222 := (g_13.keep Kq36 (by simp only [List.mem_cons, List.not_mem_nil, or_false, not_or]; exact g_16)).other W184 g_12
    obtain ⟨T188, v188, L188, X188, Q188, k188⟩ := k187.iface (y := (⟨"java/util/Iterator", "next", "()Ljava/lang/Object;"⟩ : MethodName)) (z := (⟨"java/util/ArrayList$Itr", "next", "()Ljava/lang/Object;"⟩ : MethodName)) (Wd := 0) (cells' := 2) (slots' := 8) (argsL := []) (rest := []) X186 hx hZ hown (by rw [hml]; rfl) (hv 144 rfl) (hv 145 rfl) (mvT hZ (hv 146 rfl)) (hv 147 rfl) (hv 148 rfl) (hv 149 rfl) (hv 150 rfl) (hv 73 rfl) (hv 151 rfl) (hv 52 rfl) (hb hby d_rmfa0_36) (by decide) (rmnx12 l Z a0 hw [] oi_30 l1 d1 k1 (2 : Int32) (.int (0 : Int32)) x0 x1 h184 n0 Z184 g_217 q30_5 g_214 g_218 g_219 g_215 g_220 g_216 g_221 g_222 g_14 g_16) e186 g_217 rfl rfl pd_rmfa1_3 rfl (Nat.le_of_eq rfl) (by decide) (by decide) rfl rfl (by decide) (by decide)
    obtain ⟨rfl, Nq188, Kq188, q188_0, q188_1, q188_2, q188_3, q188_4⟩ := Q188
    have N188 := Fr.app N186 Nq188
    obtain ⟨h188, e188⟩ : ∃ h, T188.heap = h := ⟨_, rfl⟩
    rw [e188] at Kq188 q188_0 q188_1 q188_2 q188_3 q188_4
    have Z188 : n0 ≤ h188.size := Nat.le_trans Z184 Kq188.1
    have K188 : Keep h0 h188 [a1] := K184.trans Kq188 (by intro x q; simp only [List.mem_cons, List.not_mem_nil, or_false] at q; rcases q with rfl; exact (Or.inr H31))
    have k188 : Go p e below m W T188 41 #[.val (.ref a1), .val (.int (4 : Int32)), .val (.ref l1), .val (.ref oi_30), .val (.ref x0)] [(.ref x1)] := k188
    have g_223 := ((((((Ex1.ext E23).wr W24).keep Kq28).keep Kq30).keep Kq36).wr W184).keep Kq188
    obtain ⟨T189, X189, e189, k189⟩ := k188.castY X188 hx hZ hown (hv 158 rfl) e188 (Ins.self g_223) (hb hby d_rmfa0_41)
    have k189 : Go p e below m W T189 44 #[.val (.ref a1), .val (.int (4 : Int32)), .val (.ref l1), .val (.ref oi_30), .val (.ref x0)] [(.ref x1)] := k189
    have k190 : Go p e below m W T189 46 #[.val (.ref a1), .val (.int (4 : Int32)), .val (.ref l1), .val (.ref oi_30), .val (.ref x1)] [] := k189.astore X189 hx (hb hby d_rmfa0_44) rfl rfl
    have k191 : Go p e below m W T189 47 #[.val (.ref a1), .val (.int (4 : Int32)), .val (.ref l1), .val (.ref oi_30), .val (.ref x1)] [(.ref a1)] := k190.aloadN X189 hx (hb hby d_rmfa0_46) rfl rfl
    have g_224 := (g_20.other W184 (Or.inl g_4)).keep Kq188 (by simp only [List.mem_cons, List.not_mem_nil, or_false, not_or]; exact g_19)
    obtain ⟨T192, X192, e192, k192⟩ := k191.getF X189 hx hZ hown (host := "") (Or.inl (hv 35 rfl)) Via.refl e189 g_224 (hb hby d_rmfa0_47)
    have k192 : Go p e below m W T192 50 #[.val (.ref a1), .val (.int (4 : Int32)), .val (.ref l1), .val (.ref oi_30), .val (.ref x1)] [(.ref b23)] := k192
    have k193 : Go p e below m W T192 52 #[.val (.ref a1), .val (.int (4 : Int32)), .val (.ref l1), .val (.ref oi_30), .val (.ref x1)] [(.ref x1), (.ref b23)] := k192.aload X192 hx (hb hby d_rmfa0_50) rfl rfl
    have g_225 := (show x1 ≠ b23 from Nat.ne_of_lt (g23 ▸ Ex1.lt))
    have g_226 := ((Ex1.ext E23).wr W24).keep Kq28
    have g_227 := (show x1 ≠ oi_30 from Nat.ne_of_lt (Nat.lt_of_lt_of_le g_226.lt q30_6))
    have g_228 := ((((((Ff1.ext E23).other W24 (Or.inl nx1)).keep Kq28 (by simp only [List.mem_cons, List.not_mem_nil, or_false, not_or]; exact g_225)).keep Kq30 (List.not_mem_nil)).keep Kq36 (by simp only [List.mem_cons, List.not_mem_nil, or_false, not_or]; exact g_227)).other W184 (Or.inl g_225)).keep Kq188 (by simp only [List.mem_cons, List.not_mem_nil, or_false, not_or]; exact g_227)
    obtain ⟨T194, v194, L194, X194, Q194, k194⟩ := k193.virt (y := (⟨"com/example/enact/enact/Classification$Flat", "feeder", "()I"⟩ : MethodName)) (z := (⟨"com/example/enact/enact/Classification$Flat", "feeder", "()I"⟩ : MethodName)) (Wd := 1) (cells' := 2) (slots' := 8) (argsL := []) (rest := [(.ref b23)]) X192 hx hZ hown (by rw [hml]; rfl) (hv 160 rfl) (hv 161 rfl) (notFace_of_selects (args := #[]) (mvT hZ (hv 163 rfl))) (hv 163 rfl) (hv 162 rfl) (hv 164 rfl) (hv 97 rfl) (hb hby d_rmfa0_52) (by decide) (rmfe l Z a0 hw [] x1 f1 h188 n0 Z188 g_228) e192 g_223 rfl rfl pd_rmfa1_4 rfl (Nat.le_of_eq rfl) (by decide) (by decide) rfl rfl (by decide) (by decide)
    obtain ⟨rfl, Nq194, e194q⟩ := Q194
    have N194 := Fr.app N188 Nq194
    have e194 : T194.heap = h188 := e194q
    have k194 : Go p e below m W T194 55 #[.val (.ref a1), .val (.int (4 : Int32)), .val (.ref l1), .val (.ref oi_30), .val (.ref x1)] [(.int f1), (.ref b23)] := k194
    have k195 : Go p e below m W T194 57 #[.val (.ref a1), .val (.int (4 : Int32)), .val (.ref l1), .val (.ref oi_30), .val (.ref x1)] [(.ref x1), (.int f1), (.ref b23)] := k194.aload X194 hx (hb hby d_rmfa0_55) rfl rfl
    have g_229 := ((((((Fp1.ext E23).other W24 (Or.inl nx1)).keep Kq28 (by simp only [List.mem_cons, List.not_mem_nil, or_false, not_or]; exact g_225)).keep Kq30 (List.not_mem_nil)).keep Kq36 (by simp only [List.mem_cons, List.not_mem_nil, or_false, not_or]; exact g_227)).other W184 (Or.inl g_225)).keep Kq188 (by simp only [List.mem_cons, List.not_mem_nil, or_false, not_or]; exact g_227)
    obtain ⟨T196, v196, L196, X196, Q196, k196⟩ := k195.virt (y := (⟨"com/example/enact/enact/Classification$Flat", "place", "()I"⟩ : MethodName)) (z := (⟨"com/example/enact/enact/Classification$Flat", "place", "()I"⟩ : MethodName)) (Wd := 2) (cells' := 2) (slots' := 8) (argsL := []) (rest := [(.int f1), (.ref b23)]) X194 hx hZ hown (by rw [hml]; rfl) (hv 165 rfl) (hv 166 rfl) (notFace_of_selects (args := #[]) (mvT hZ (hv 168 rfl))) (hv 168 rfl) (hv 167 rfl) (hv 169 rfl) (hv 97 rfl) (hb hby d_rmfa0_57) (by decide) (rmfp l Z a0 hw [] x1 q1 h188 n0 Z188 g_229) e194 g_223 rfl rfl pd_rmfa1_4 rfl (Nat.le_of_eq rfl) (by decide) (by decide) rfl rfl (by decide) (by decide)
    obtain ⟨rfl, Nq196, e196q⟩ := Q196
    have N196 := Fr.app N194 Nq196
    have e196 : T196.heap = h188 := e196q
    have k196 : Go p e below m W T196 60 #[.val (.ref a1), .val (.int (4 : Int32)), .val (.ref l1), .val (.ref oi_30), .val (.ref x1)] [(.int q1), (.int f1), (.ref b23)] := k196
    rcases B1 with q197 | q198 | q199 | q200
    ·
      subst f1
      have g_230 := V184.keep Kq188 (by simp only [List.mem_cons, List.not_mem_nil, or_false, not_or]; exact g_212)
      obtain ⟨T201, h201, l201, X201, e201, W201, V201, N201, k201⟩ := k196.iastore (i := 0) X196 hx hZ e196 g_230 rfl rfl (by decide) (Nat.le_of_ble_eq_true rfl) N196 G23 (hb hby d_rmfa0_60)
      have k201 : Go p e below m W T201 61 #[.val (.ref a1), .val (.int (4 : Int32)), .val (.ref l1), .val (.ref oi_30), .val (.ref x1)] [] := k201
      have Z201 : n0 ≤ h201.size := (Wr.size W201).symm ▸ Z188
      have V201 : Arv Z h201 b23 c23 .int (4 : Int32) [(.int q1), (.int (-1 : Int32)), (.int (-1 : Int32)), (.int q0)] (.int (0 : Int32)) := V201
      have K201 : Keep h0 h201 [a1] := K188.wr W201 (Or.inr H23)
      have k202 : Go p e below m W T201 27 #[.val (.ref a1), .val (.int (4 : Int32)), .val (.ref l1), .val (.ref oi_30), .val (.ref x1)] [(.ref oi_30)] := (k201.goto X201 hx (hb hby d_rmfa0_61) (by decide) (by decide)).aloadN X201 hx (hb hby d_rmfa0_26) rfl rfl
      have g_231 := q188_1.other W201 (Or.inl (Ne.symm g_212))
      have g_232 := q188_4.other W201 (Or.inl (Ne.symm g_212))
      have g_233 := (g_216.keep Kq188 (by simp only [List.mem_cons, List.not_mem_nil, or_false, not_or]; exact g_14)).other W201 (Or.inl g_7)
      have g_234 := q188_0.wr W201
      obtain ⟨T203, v203, L203, X203, Q203, k203⟩ := k202.iface (y := (⟨"java/util/Iterator", "hasNext", "()Z"⟩ : MethodName)) (z := (⟨"java/util/ArrayList$Itr", "hasNext", "()Z"⟩ : MethodName)) (Wd := 0) (cells' := 2) (slots' := 8) (argsL := []) (rest := []) X201 hx hZ hown (by rw [hml]; rfl) (hv 66 rfl) (hv 67 rfl) (mvT hZ (hv 68 rfl)) (hv 69 rfl) (hv 70 rfl) (hv 71 rfl) (hv 72 rfl) (hv 73 rfl) (hv 74 rfl) (hv 52 rfl) (hb hby d_rmfa0_27) (by decide) (rmhn22 l Z a0 hw [] oi_30 l1 h201 n0 Z201 g_231 g_232 g_233) e201 g_234 rfl rfl pd_rmfa0_2 rfl (Nat.le_of_eq rfl) (by decide) (by decide) rfl rfl (by decide) (by decide)
      obtain ⟨rfl, Nq203, e203q⟩ := Q203
      have N203 := Fr.app N201 Nq203
      have e203 : T203.heap = h201 := e203q
      have k203 : Go p e below m W T203 32 #[.val (.ref a1), .val (.int (4 : Int32)), .val (.ref l1), .val (.ref oi_30), .val (.ref x1)] [(.int (0 : Int32))] := k203
      have k204 : Go p e below m W T203 66 #[.val (.ref a1), .val (.int (4 : Int32)), .val (.ref l1), .val (.ref oi_30), .val (.ref x1)] [(.ref l1), (.ref a1)] := ((k203.ifYes X203 hx (hb hby d_rmfa0_32) (XT.i0_eq_t (by decide)) (by decide) (by decide)).aloadN X203 hx (hb hby d_rmfa0_64) rfl rfl).aloadN X203 hx (hb hby d_rmfa0_65) rfl rfl
      have g_235 := ((((g_6.keep Kq30).keep Kq36).wr W184).keep Kq188).wr W201
      obtain ⟨T205, v205, L205, X205, Q205, k205⟩ := k204.iface (y := (⟨"java/util/List", "isEmpty", "()Z"⟩ : MethodName)) (z := (⟨"java/util/ArrayList", "isEmpty", "()Z"⟩ : MethodName)) (Wd := 1) (cells' := 2) (slots' := 8) (argsL := []) (rest := [(.ref a1)]) X203 hx hZ hown (by rw [hml]; rfl) (hv 79 rfl) (hv 80 rfl) (mvT hZ (hv 81 rfl)) (hv 82 rfl) (hv 83 rfl) (hv 84 rfl) (hv 85 rfl) (hv 48 rfl) (hv 86 rfl) (hv 3 rfl) (hb hby d_rmfa0_66) (by decide) (rmem2 l Z a0 hw [] l1 h201 n0 Z201 g_233) e203 g_235 rfl rfl pd_rmfa0_2 rfl (Nat.le_of_eq rfl) (by decide) (by decide) rfl rfl (by decide) (by decide)
      obtain ⟨rfl, Nq205, e205q⟩ := Q205
      have N205 := Fr.app N203 Nq205
      have e205 : T205.heap = h201 := e205q
      have k205 : Go p e below m W T205 71 #[.val (.ref a1), .val (.int (4 : Int32)), .val (.ref l1), .val (.ref oi_30), .val (.ref x1)] [(.int (0 : Int32)), (.ref a1)] := k205
      have k206 : Go p e below m W T205 79 #[.val (.ref a1), .val (.int (4 : Int32)), .val (.ref l1), .val (.ref oi_30), .val (.ref x1)] [(.int (1 : Int32)), (.ref a1)] := ((k205.ifNo X205 hx (hb hby d_rmfa0_71) (XT.i0_ne_f (by decide))).iconst X205 hx (hb hby d_rmfa0_74) (v := (1 : Int32)) rfl).goto X205 hx (hb hby d_rmfa0_75) (by decide) (by decide)
      have g_236 := (((((((F1.ext E23).other W24 (Or.inr (slot_ne (Or.inr (hv 89 rfl)) (Or.inr (hv 36 rfl)) (by decide) (by decide : parseFieldDescriptor "Z" = some .boolean) (by decide : parseFieldDescriptor "[I" = some (.array .int))))).keep Kq28 (by simp only [List.mem_cons, List.not_mem_nil, or_false, not_or]; exact g_4)).keep Kq30 (List.not_mem_nil)).keep Kq36 (by simp only [List.mem_cons, List.not_mem_nil, or_false, not_or]; exact g_19)).other W184 (Or.inl g_4)).keep Kq188 (by simp only [List.mem_cons, List.not_mem_nil, or_false, not_or]; exact g_19)).other W201 (Or.inl g_4)
      have g_237 := ((((g_18.keep Kq30).keep Kq36).wr W184).keep Kq188).wr W201
      obtain ⟨T207, h207, l207, X207, e207, W207, N207, k207⟩ := k206.putF X205 hx hZ hown (host := "") (Or.inl (hv 88 rfl)) Via.refl e205 g_236 g_237 (Or.inr ⟨(hv 89 rfl), rfl, hnm⟩) (hv 28 rfl) (ty := .boolean) (by decide) (own_nz (Or.inr rfl)).1 (own_nz (Or.inr rfl)).2.1 N205 G1 (hb hby d_rmfa0_79)
      have k207 : Go p e below m W T207 82 #[.val (.ref a1), .val (.int (4 : Int32)), .val (.ref l1), .val (.ref oi_30), .val (.ref x1)] [] := k207
      have Z207 : n0 ≤ h207.size := (Wr.size W207).symm ▸ Z201
      have K207 : Keep h0 h207 [a1] := K201.wr W207 (Or.inl (List.mem_of_getElem? (i := 0) rfl))
      have g_238 := g_237.wr W207
      have g_239 := (g_224.other W201 (Or.inl g_4)).other W207 (Or.inr (slot_ne (Or.inr (hv 36 rfl)) (Or.inr (hv 89 rfl)) (by decide) (by decide : parseFieldDescriptor "[I" = some (.array .int)) (by decide : parseFieldDescriptor "Z" = some .boolean)))
      have g_240 := V201.other W207 (Ne.symm g_4)
      exact k207.return_ X207 hx Bd.returns (hb hby d_rmfa0_82) (BodyLoose.notSynchronized Bd) (by rw [e207]; exact ⟨b23, c23, rfl, N207, K207, g_238, g_239, (own_cv4 g_240 (by first | rfl | (simp [own_e1, own_e2]; done)) (by first | rfl | (simp [own_e1, own_e2]; done)) (by first | rfl | (simp [own_e1, own_e2]; done)) (by first | rfl | (simp [own_e1, own_e2]; done))), G23, H23, g_4⟩) (by decide) (by decide)
    ·
      subst f1
      have g_241 := V184.keep Kq188 (by simp only [List.mem_cons, List.not_mem_nil, or_false, not_or]; exact g_212)
      obtain ⟨T208, h208, l208, X208, e208, W208, V208, N208, k208⟩ := k196.iastore (i := 1) X196 hx hZ e196 g_241 rfl rfl (by decide) (Nat.le_of_ble_eq_true rfl) N196 G23 (hb hby d_rmfa0_60)
      have k208 : Go p e below m W T208 61 #[.val (.ref a1), .val (.int (4 : Int32)), .val (.ref l1), .val (.ref oi_30), .val (.ref x1)] [] := k208
      have Z208 : n0 ≤ h208.size := (Wr.size W208).symm ▸ Z188
      have V208 : Arv Z h208 b23 c23 .int (4 : Int32) [(.int (-1 : Int32)), (.int q1), (.int (-1 : Int32)), (.int q0)] (.int (0 : Int32)) := V208
      have K208 : Keep h0 h208 [a1] := K188.wr W208 (Or.inr H23)
      have k209 : Go p e below m W T208 27 #[.val (.ref a1), .val (.int (4 : Int32)), .val (.ref l1), .val (.ref oi_30), .val (.ref x1)] [(.ref oi_30)] := (k208.goto X208 hx (hb hby d_rmfa0_61) (by decide) (by decide)).aloadN X208 hx (hb hby d_rmfa0_26) rfl rfl
      have g_242 := q188_1.other W208 (Or.inl (Ne.symm g_212))
      have g_243 := q188_4.other W208 (Or.inl (Ne.symm g_212))
      have g_244 := (g_216.keep Kq188 (by simp only [List.mem_cons, List.not_mem_nil, or_false, not_or]; exact g_14)).other W208 (Or.inl g_7)
      have g_245 := q188_0.wr W208
      obtain ⟨T210, v210, L210, X210, Q210, k210⟩ := k209.iface (y := (⟨"java/util/Iterator", "hasNext", "()Z"⟩ : MethodName)) (z := (⟨"java/util/ArrayList$Itr", "hasNext", "()Z"⟩ : MethodName)) (Wd := 0) (cells' := 2) (slots' := 8) (argsL := []) (rest := []) X208 hx hZ hown (by rw [hml]; rfl) (hv 66 rfl) (hv 67 rfl) (mvT hZ (hv 68 rfl)) (hv 69 rfl) (hv 70 rfl) (hv 71 rfl) (hv 72 rfl) (hv 73 rfl) (hv 74 rfl) (hv 52 rfl) (hb hby d_rmfa0_27) (by decide) (rmhn22 l Z a0 hw [] oi_30 l1 h208 n0 Z208 g_242 g_243 g_244) e208 g_245 rfl rfl pd_rmfa0_2 rfl (Nat.le_of_eq rfl) (by decide) (by decide) rfl rfl (by decide) (by decide)
      obtain ⟨rfl, Nq210, e210q⟩ := Q210
      have N210 := Fr.app N208 Nq210
      have e210 : T210.heap = h208 := e210q
      have k210 : Go p e below m W T210 32 #[.val (.ref a1), .val (.int (4 : Int32)), .val (.ref l1), .val (.ref oi_30), .val (.ref x1)] [(.int (0 : Int32))] := k210
      have k211 : Go p e below m W T210 66 #[.val (.ref a1), .val (.int (4 : Int32)), .val (.ref l1), .val (.ref oi_30), .val (.ref x1)] [(.ref l1), (.ref a1)] := ((k210.ifYes X210 hx (hb hby d_rmfa0_32) (XT.i0_eq_t (by decide)) (by decide) (by decide)).aloadN X210 hx (hb hby d_rmfa0_64) rfl rfl).aloadN X210 hx (hb hby d_rmfa0_65) rfl rfl
      have g_246 := ((((g_6.keep Kq30).keep Kq36).wr W184).keep Kq188).wr W208
      obtain ⟨T212, v212, L212, X212, Q212, k212⟩ := k211.iface (y := (⟨"java/util/List", "isEmpty", "()Z"⟩ : MethodName)) (z := (⟨"java/util/ArrayList", "isEmpty", "()Z"⟩ : MethodName)) (Wd := 1) (cells' := 2) (slots' := 8) (argsL := []) (rest := [(.ref a1)]) X210 hx hZ hown (by rw [hml]; rfl) (hv 79 rfl) (hv 80 rfl) (mvT hZ (hv 81 rfl)) (hv 82 rfl) (hv 83 rfl) (hv 84 rfl) (hv 85 rfl) (hv 48 rfl) (hv 86 rfl) (hv 3 rfl) (hb hby d_rmfa0_66) (by decide) (rmem2 l Z a0 hw [] l1 h208 n0 Z208 g_244) e210 g_246 rfl rfl pd_rmfa0_2 rfl (Nat.le_of_eq rfl) (by decide) (by decide) rfl rfl (by decide) (by decide)
      obtain ⟨rfl, Nq212, e212q⟩ := Q212
      have N212 := Fr.app N210 Nq212
      have e212 : T212.heap = h208 := e212q
      have k212 : Go p e below m W T212 71 #[.val (.ref a1), .val (.int (4 : Int32)), .val (.ref l1), .val (.ref oi_30), .val (.ref x1)] [(.int (0 : Int32)), (.ref a1)] := k212
      have k213 : Go p e below m W T212 79 #[.val (.ref a1), .val (.int (4 : Int32)), .val (.ref l1), .val (.ref oi_30), .val (.ref x1)] [(.int (1 : Int32)), (.ref a1)] := ((k212.ifNo X212 hx (hb hby d_rmfa0_71) (XT.i0_ne_f (by decide))).iconst X212 hx (hb hby d_rmfa0_74) (v := (1 : Int32)) rfl).goto X212 hx (hb hby d_rmfa0_75) (by decide) (by decide)
      have g_247 := (((((((F1.ext E23).other W24 (Or.inr (slot_ne (Or.inr (hv 89 rfl)) (Or.inr (hv 36 rfl)) (by decide) (by decide : parseFieldDescriptor "Z" = some .boolean) (by decide : parseFieldDescriptor "[I" = some (.array .int))))).keep Kq28 (by simp only [List.mem_cons, List.not_mem_nil, or_false, not_or]; exact g_4)).keep Kq30 (List.not_mem_nil)).keep Kq36 (by simp only [List.mem_cons, List.not_mem_nil, or_false, not_or]; exact g_19)).other W184 (Or.inl g_4)).keep Kq188 (by simp only [List.mem_cons, List.not_mem_nil, or_false, not_or]; exact g_19)).other W208 (Or.inl g_4)
      have g_248 := ((((g_18.keep Kq30).keep Kq36).wr W184).keep Kq188).wr W208
      obtain ⟨T214, h214, l214, X214, e214, W214, N214, k214⟩ := k213.putF X212 hx hZ hown (host := "") (Or.inl (hv 88 rfl)) Via.refl e212 g_247 g_248 (Or.inr ⟨(hv 89 rfl), rfl, hnm⟩) (hv 28 rfl) (ty := .boolean) (by decide) (own_nz (Or.inr rfl)).1 (own_nz (Or.inr rfl)).2.1 N212 G1 (hb hby d_rmfa0_79)
      have k214 : Go p e below m W T214 82 #[.val (.ref a1), .val (.int (4 : Int32)), .val (.ref l1), .val (.ref oi_30), .val (.ref x1)] [] := k214
      have Z214 : n0 ≤ h214.size := (Wr.size W214).symm ▸ Z208
      have K214 : Keep h0 h214 [a1] := K208.wr W214 (Or.inl (List.mem_of_getElem? (i := 0) rfl))
      have g_249 := g_248.wr W214
      have g_250 := (g_224.other W208 (Or.inl g_4)).other W214 (Or.inr (slot_ne (Or.inr (hv 36 rfl)) (Or.inr (hv 89 rfl)) (by decide) (by decide : parseFieldDescriptor "[I" = some (.array .int)) (by decide : parseFieldDescriptor "Z" = some .boolean)))
      have g_251 := V208.other W214 (Ne.symm g_4)
      exact k214.return_ X214 hx Bd.returns (hb hby d_rmfa0_82) (BodyLoose.notSynchronized Bd) (by rw [e214]; exact ⟨b23, c23, rfl, N214, K214, g_249, g_250, (own_cv4 g_251 (by first | rfl | (simp [own_e1, own_e2]; done)) (by first | rfl | (simp [own_e1, own_e2]; done)) (by first | rfl | (simp [own_e1, own_e2]; done)) (by first | rfl | (simp [own_e1, own_e2]; done))), G23, H23, g_4⟩) (by decide) (by decide)
    ·
      subst f1
      have g_252 := V184.keep Kq188 (by simp only [List.mem_cons, List.not_mem_nil, or_false, not_or]; exact g_212)
      obtain ⟨T215, h215, l215, X215, e215, W215, V215, N215, k215⟩ := k196.iastore (i := 2) X196 hx hZ e196 g_252 rfl rfl (by decide) (Nat.le_of_ble_eq_true rfl) N196 G23 (hb hby d_rmfa0_60)
      have k215 : Go p e below m W T215 61 #[.val (.ref a1), .val (.int (4 : Int32)), .val (.ref l1), .val (.ref oi_30), .val (.ref x1)] [] := k215
      have Z215 : n0 ≤ h215.size := (Wr.size W215).symm ▸ Z188
      have V215 : Arv Z h215 b23 c23 .int (4 : Int32) [(.int (-1 : Int32)), (.int (-1 : Int32)), (.int q1), (.int q0)] (.int (0 : Int32)) := V215
      have K215 : Keep h0 h215 [a1] := K188.wr W215 (Or.inr H23)
      have k216 : Go p e below m W T215 27 #[.val (.ref a1), .val (.int (4 : Int32)), .val (.ref l1), .val (.ref oi_30), .val (.ref x1)] [(.ref oi_30)] := (k215.goto X215 hx (hb hby d_rmfa0_61) (by decide) (by decide)).aloadN X215 hx (hb hby d_rmfa0_26) rfl rfl
      have g_253 := q188_1.other W215 (Or.inl (Ne.symm g_212))
      have g_254 := q188_4.other W215 (Or.inl (Ne.symm g_212))
      have g_255 := (g_216.keep Kq188 (by simp only [List.mem_cons, List.not_mem_nil, or_false, not_or]; exact g_14)).other W215 (Or.inl g_7)
      have g_256 := q188_0.wr W215
      obtain ⟨T217, v217, L217, X217, Q217, k217⟩ := k216.iface (y := (⟨"java/util/Iterator", "hasNext", "()Z"⟩ : MethodName)) (z := (⟨"java/util/ArrayList$Itr", "hasNext", "()Z"⟩ : MethodName)) (Wd := 0) (cells' := 2) (slots' := 8) (argsL := []) (rest := []) X215 hx hZ hown (by rw [hml]; rfl) (hv 66 rfl) (hv 67 rfl) (mvT hZ (hv 68 rfl)) (hv 69 rfl) (hv 70 rfl) (hv 71 rfl) (hv 72 rfl) (hv 73 rfl) (hv 74 rfl) (hv 52 rfl) (hb hby d_rmfa0_27) (by decide) (rmhn22 l Z a0 hw [] oi_30 l1 h215 n0 Z215 g_253 g_254 g_255) e215 g_256 rfl rfl pd_rmfa0_2 rfl (Nat.le_of_eq rfl) (by decide) (by decide) rfl rfl (by decide) (by decide)
      obtain ⟨rfl, Nq217, e217q⟩ := Q217
      have N217 := Fr.app N215 Nq217
      have e217 : T217.heap = h215 := e217q
      have k217 : Go p e below m W T217 32 #[.val (.ref a1), .val (.int (4 : Int32)), .val (.ref l1), .val (.ref oi_30), .val (.ref x1)] [(.int (0 : Int32))] := k217
      have k218 : Go p e below m W T217 66 #[.val (.ref a1), .val (.int (4 : Int32)), .val (.ref l1), .val (.ref oi_30), .val (.ref x1)] [(.ref l1), (.ref a1)] := ((k217.ifYes X217 hx (hb hby d_rmfa0_32) (XT.i0_eq_t (by decide)) (by decide) (by decide)).aloadN X217 hx (hb hby d_rmfa0_64) rfl rfl).aloadN X217 hx (hb hby d_rmfa0_65) rfl rfl
      have g_257 := ((((g_6.keep Kq30).keep Kq36).wr W184).keep Kq188).wr W215
      obtain ⟨T219, v219, L219, X219, Q219, k219⟩ := k218.iface (y := (⟨"java/util/List", "isEmpty", "()Z"⟩ : MethodName)) (z := (⟨"java/util/ArrayList", "isEmpty", "()Z"⟩ : MethodName)) (Wd := 1) (cells' := 2) (slots' := 8) (argsL := []) (rest := [(.ref a1)]) X217 hx hZ hown (by rw [hml]; rfl) (hv 79 rfl) (hv 80 rfl) (mvT hZ (hv 81 rfl)) (hv 82 rfl) (hv 83 rfl) (hv 84 rfl) (hv 85 rfl) (hv 48 rfl) (hv 86 rfl) (hv 3 rfl) (hb hby d_rmfa0_66) (by decide) (rmem2 l Z a0 hw [] l1 h215 n0 Z215 g_255) e217 g_257 rfl rfl pd_rmfa0_2 rfl (Nat.le_of_eq rfl) (by decide) (by decide) rfl rfl (by decide) (by decide)
      obtain ⟨rfl, Nq219, e219q⟩ := Q219
      have N219 := Fr.app N217 Nq219
      have e219 : T219.heap = h215 := e219q
      have k219 : Go p e below m W T219 71 #[.val (.ref a1), .val (.int (4 : Int32)), .val (.ref l1), .val (.ref oi_30), .val (.ref x1)] [(.int (0 : Int32)), (.ref a1)] := k219
      have k220 : Go p e below m W T219 79 #[.val (.ref a1), .val (.int (4 : Int32)), .val (.ref l1), .val (.ref oi_30), .val (.ref x1)] [(.int (1 : Int32)), (.ref a1)] := ((k219.ifNo X219 hx (hb hby d_rmfa0_71) (XT.i0_ne_f (by decide))).iconst X219 hx (hb hby d_rmfa0_74) (v := (1 : Int32)) rfl).goto X219 hx (hb hby d_rmfa0_75) (by decide) (by decide)
      have g_258 := (((((((F1.ext E23).other W24 (Or.inr (slot_ne (Or.inr (hv 89 rfl)) (Or.inr (hv 36 rfl)) (by decide) (by decide : parseFieldDescriptor "Z" = some .boolean) (by decide : parseFieldDescriptor "[I" = some (.array .int))))).keep Kq28 (by simp only [List.mem_cons, List.not_mem_nil, or_false, not_or]; exact g_4)).keep Kq30 (List.not_mem_nil)).keep Kq36 (by simp only [List.mem_cons, List.not_mem_nil, or_false, not_or]; exact g_19)).other W184 (Or.inl g_4)).keep Kq188 (by simp only [List.mem_cons, List.not_mem_nil, or_false, not_or]; exact g_19)).other W215 (Or.inl g_4)
      have g_259 := ((((g_18.keep Kq30).keep Kq36).wr W184).keep Kq188).wr W215
      obtain ⟨T221, h221, l221, X221, e221, W221, N221, k221⟩ := k220.putF X219 hx hZ hown (host := "") (Or.inl (hv 88 rfl)) Via.refl e219 g_258 g_259 (Or.inr ⟨(hv 89 rfl), rfl, hnm⟩) (hv 28 rfl) (ty := .boolean) (by decide) (own_nz (Or.inr rfl)).1 (own_nz (Or.inr rfl)).2.1 N219 G1 (hb hby d_rmfa0_79)
      have k221 : Go p e below m W T221 82 #[.val (.ref a1), .val (.int (4 : Int32)), .val (.ref l1), .val (.ref oi_30), .val (.ref x1)] [] := k221
      have Z221 : n0 ≤ h221.size := (Wr.size W221).symm ▸ Z215
      have K221 : Keep h0 h221 [a1] := K215.wr W221 (Or.inl (List.mem_of_getElem? (i := 0) rfl))
      have g_260 := g_259.wr W221
      have g_261 := (g_224.other W215 (Or.inl g_4)).other W221 (Or.inr (slot_ne (Or.inr (hv 36 rfl)) (Or.inr (hv 89 rfl)) (by decide) (by decide : parseFieldDescriptor "[I" = some (.array .int)) (by decide : parseFieldDescriptor "Z" = some .boolean)))
      have g_262 := V215.other W221 (Ne.symm g_4)
      exact k221.return_ X221 hx Bd.returns (hb hby d_rmfa0_82) (BodyLoose.notSynchronized Bd) (by rw [e221]; exact ⟨b23, c23, rfl, N221, K221, g_260, g_261, (own_cv4 g_262 (by first | rfl | (simp [own_e1, own_e2]; done)) (by first | rfl | (simp [own_e1, own_e2]; done)) (by first | rfl | (simp [own_e1, own_e2]; done)) (by first | rfl | (simp [own_e1, own_e2]; done))), G23, H23, g_4⟩) (by decide) (by decide)
    ·
      subst f1
      have g_263 := V184.keep Kq188 (by simp only [List.mem_cons, List.not_mem_nil, or_false, not_or]; exact g_212)
      obtain ⟨T222, h222, l222, X222, e222, W222, V222, N222, k222⟩ := k196.iastore (i := 3) X196 hx hZ e196 g_263 rfl rfl (by decide) (Nat.le_of_ble_eq_true rfl) N196 G23 (hb hby d_rmfa0_60)
      have k222 : Go p e below m W T222 61 #[.val (.ref a1), .val (.int (4 : Int32)), .val (.ref l1), .val (.ref oi_30), .val (.ref x1)] [] := k222
      have Z222 : n0 ≤ h222.size := (Wr.size W222).symm ▸ Z188
      have V222 : Arv Z h222 b23 c23 .int (4 : Int32) [(.int (-1 : Int32)), (.int (-1 : Int32)), (.int (-1 : Int32)), (.int q1)] (.int (0 : Int32)) := V222
      have K222 : Keep h0 h222 [a1] := K188.wr W222 (Or.inr H23)
      have k223 : Go p e below m W T222 27 #[.val (.ref a1), .val (.int (4 : Int32)), .val (.ref l1), .val (.ref oi_30), .val (.ref x1)] [(.ref oi_30)] := (k222.goto X222 hx (hb hby d_rmfa0_61) (by decide) (by decide)).aloadN X222 hx (hb hby d_rmfa0_26) rfl rfl
      have g_264 := q188_1.other W222 (Or.inl (Ne.symm g_212))
      have g_265 := q188_4.other W222 (Or.inl (Ne.symm g_212))
      have g_266 := (g_216.keep Kq188 (by simp only [List.mem_cons, List.not_mem_nil, or_false, not_or]; exact g_14)).other W222 (Or.inl g_7)
      have g_267 := q188_0.wr W222
      obtain ⟨T224, v224, L224, X224, Q224, k224⟩ := k223.iface (y := (⟨"java/util/Iterator", "hasNext", "()Z"⟩ : MethodName)) (z := (⟨"java/util/ArrayList$Itr", "hasNext", "()Z"⟩ : MethodName)) (Wd := 0) (cells' := 2) (slots' := 8) (argsL := []) (rest := []) X222 hx hZ hown (by rw [hml]; rfl) (hv 66 rfl) (hv 67 rfl) (mvT hZ (hv 68 rfl)) (hv 69 rfl) (hv 70 rfl) (hv 71 rfl) (hv 72 rfl) (hv 73 rfl) (hv 74 rfl) (hv 52 rfl) (hb hby d_rmfa0_27) (by decide) (rmhn22 l Z a0 hw [] oi_30 l1 h222 n0 Z222 g_264 g_265 g_266) e222 g_267 rfl rfl pd_rmfa0_2 rfl (Nat.le_of_eq rfl) (by decide) (by decide) rfl rfl (by decide) (by decide)
      obtain ⟨rfl, Nq224, e224q⟩ := Q224
      have N224 := Fr.app N222 Nq224
      have e224 : T224.heap = h222 := e224q
      have k224 : Go p e below m W T224 32 #[.val (.ref a1), .val (.int (4 : Int32)), .val (.ref l1), .val (.ref oi_30), .val (.ref x1)] [(.int (0 : Int32))] := k224
      have k225 : Go p e below m W T224 66 #[.val (.ref a1), .val (.int (4 : Int32)), .val (.ref l1), .val (.ref oi_30), .val (.ref x1)] [(.ref l1), (.ref a1)] := ((k224.ifYes X224 hx (hb hby d_rmfa0_32) (XT.i0_eq_t (by decide)) (by decide) (by decide)).aloadN X224 hx (hb hby d_rmfa0_64) rfl rfl).aloadN X224 hx (hb hby d_rmfa0_65) rfl rfl
      have g_268 := ((((g_6.keep Kq30).keep Kq36).wr W184).keep Kq188).wr W222
      obtain ⟨T226, v226, L226, X226, Q226, k226⟩ := k225.iface (y := (⟨"java/util/List", "isEmpty", "()Z"⟩ : MethodName)) (z := (⟨"java/util/ArrayList", "isEmpty", "()Z"⟩ : MethodName)) (Wd := 1) (cells' := 2) (slots' := 8) (argsL := []) (rest := [(.ref a1)]) X224 hx hZ hown (by rw [hml]; rfl) (hv 79 rfl) (hv 80 rfl) (mvT hZ (hv 81 rfl)) (hv 82 rfl) (hv 83 rfl) (hv 84 rfl) (hv 85 rfl) (hv 48 rfl) (hv 86 rfl) (hv 3 rfl) (hb hby d_rmfa0_66) (by decide) (rmem2 l Z a0 hw [] l1 h222 n0 Z222 g_266) e224 g_268 rfl rfl pd_rmfa0_2 rfl (Nat.le_of_eq rfl) (by decide) (by decide) rfl rfl (by decide) (by decide)
      obtain ⟨rfl, Nq226, e226q⟩ := Q226
      have N226 := Fr.app N224 Nq226
      have e226 : T226.heap = h222 := e226q
      have k226 : Go p e below m W T226 71 #[.val (.ref a1), .val (.int (4 : Int32)), .val (.ref l1), .val (.ref oi_30), .val (.ref x1)] [(.int (0 : Int32)), (.ref a1)] := k226
      have k227 : Go p e below m W T226 79 #[.val (.ref a1), .val (.int (4 : Int32)), .val (.ref l1), .val (.ref oi_30), .val (.ref x1)] [(.int (1 : Int32)), (.ref a1)] := ((k226.ifNo X226 hx (hb hby d_rmfa0_71) (XT.i0_ne_f (by decide))).iconst X226 hx (hb hby d_rmfa0_74) (v := (1 : Int32)) rfl).goto X226 hx (hb hby d_rmfa0_75) (by decide) (by decide)
      have g_269 := (((((((F1.ext E23).other W24 (Or.inr (slot_ne (Or.inr (hv 89 rfl)) (Or.inr (hv 36 rfl)) (by decide) (by decide : parseFieldDescriptor "Z" = some .boolean) (by decide : parseFieldDescriptor "[I" = some (.array .int))))).keep Kq28 (by simp only [List.mem_cons, List.not_mem_nil, or_false, not_or]; exact g_4)).keep Kq30 (List.not_mem_nil)).keep Kq36 (by simp only [List.mem_cons, List.not_mem_nil, or_false, not_or]; exact g_19)).other W184 (Or.inl g_4)).keep Kq188 (by simp only [List.mem_cons, List.not_mem_nil, or_false, not_or]; exact g_19)).other W222 (Or.inl g_4)
      have g_270 := ((((g_18.keep Kq30).keep Kq36).wr W184).keep Kq188).wr W222
      obtain ⟨T228, h228, l228, X228, e228, W228, N228, k228⟩ := k227.putF X226 hx hZ hown (host := "") (Or.inl (hv 88 rfl)) Via.refl e226 g_269 g_270 (Or.inr ⟨(hv 89 rfl), rfl, hnm⟩) (hv 28 rfl) (ty := .boolean) (by decide) (own_nz (Or.inr rfl)).1 (own_nz (Or.inr rfl)).2.1 N226 G1 (hb hby d_rmfa0_79)
      have k228 : Go p e below m W T228 82 #[.val (.ref a1), .val (.int (4 : Int32)), .val (.ref l1), .val (.ref oi_30), .val (.ref x1)] [] := k228
      have Z228 : n0 ≤ h228.size := (Wr.size W228).symm ▸ Z222
      have K228 : Keep h0 h228 [a1] := K222.wr W228 (Or.inl (List.mem_of_getElem? (i := 0) rfl))
      have g_271 := g_270.wr W228
      have g_272 := (g_224.other W222 (Or.inl g_4)).other W228 (Or.inr (slot_ne (Or.inr (hv 36 rfl)) (Or.inr (hv 89 rfl)) (by decide) (by decide : parseFieldDescriptor "[I" = some (.array .int)) (by decide : parseFieldDescriptor "Z" = some .boolean)))
      have g_273 := V222.other W228 (Ne.symm g_4)
      exact k228.return_ X228 hx Bd.returns (hb hby d_rmfa0_82) (BodyLoose.notSynchronized Bd) (by rw [e228]; exact ⟨b23, c23, rfl, N228, K228, g_271, g_272, (own_cv4 g_273 (by first | rfl | (simp [own_e1, own_e2]; done)) (by first | rfl | (simp [own_e1, own_e2]; done)) (by first | rfl | (simp [own_e1, own_e2]; done)) (by first | rfl | (simp [own_e1, own_e2]; done))), G23, H23, g_4⟩) (by decide) (by decide)

theorem d_rmac_0 : decode prog_36_method_7_code 0 = .ok (.aload_n 0, 1) := by decide +kernel
theorem d_rmac_1 : decode prog_36_method_7_code 1 = .ok (.getfield 7, 3) := by decide +kernel
theorem d_rmac_4 : decode prog_36_method_7_code 4 = .ok (.iload_n 2, 1) := by decide +kernel
theorem d_rmac_5 : decode prog_36_method_7_code 5 = .ok (.iaload, 1) := by decide +kernel
theorem d_rmac_6 : decode prog_36_method_7_code 6 = .ok (.istore 4, 2) := by decide +kernel
theorem d_rmac_8 : decode prog_36_method_7_code 8 = .ok (.iload 4, 2) := by decide +kernel
theorem d_rmac_10 : decode prog_36_method_7_code 10 = .ok (.ifCond .lt 16, 3) := by decide +kernel
theorem d_rmac_13 : decode prog_36_method_7_code 13 = .ok (.aload_n 3, 1) := by decide +kernel
theorem d_rmac_14 : decode prog_36_method_7_code 14 = .ok (.iload 4, 2) := by decide +kernel
theorem d_rmac_16 : decode prog_36_method_7_code 16 = .ok (.iaload, 1) := by decide +kernel
theorem d_rmac_17 : decode prog_36_method_7_code 17 = .ok (.ldc 53, 2) := by decide +kernel
theorem d_rmac_19 : decode prog_36_method_7_code 19 = .ok (.if_icmp .eq 7, 3) := by decide +kernel
theorem d_rmac_22 : decode prog_36_method_7_code 22 = .ok (.iconst 1, 1) := by decide +kernel
theorem d_rmac_23 : decode prog_36_method_7_code 23 = .ok (.goto 4, 3) := by decide +kernel
theorem d_rmac_26 : decode prog_36_method_7_code 26 = .ok (.iconst 0, 1) := by decide +kernel
theorem d_rmac_27 : decode prog_36_method_7_code 27 = .ok (.istore 5, 2) := by decide +kernel
theorem d_rmac_29 : decode prog_36_method_7_code 29 = .ok (.iload 5, 2) := by decide +kernel
theorem d_rmac_31 : decode prog_36_method_7_code 31 = .ok (.ifCond .eq 9, 3) := by decide +kernel
theorem d_rmac_34 : decode prog_36_method_7_code 34 = .ok (.aload_n 3, 1) := by decide +kernel
theorem d_rmac_35 : decode prog_36_method_7_code 35 = .ok (.iload 4, 2) := by decide +kernel
theorem d_rmac_37 : decode prog_36_method_7_code 37 = .ok (.ldc 53, 2) := by decide +kernel
theorem d_rmac_39 : decode prog_36_method_7_code 39 = .ok (.iastore, 1) := by decide +kernel
theorem d_rmac_40 : decode prog_36_method_7_code 40 = .ok (.iload 5, 2) := by decide +kernel
theorem d_rmac_42 : decode prog_36_method_7_code 42 = .ok (.ireturn, 1) := by decide +kernel
theorem ef_rmac (m : MethodId) (a1 : Addr) (nd : Int32) (t : Int32) (c1 : Addr) : entryFrame m #[(.ref a1), (.int nd), (.int t), (.ref c1)] 6 = mkF m 0 #[.val (.ref a1), .val (.int nd), .val (.int t), .val (.ref c1), .unset, .unset] [] := by first | (simp [entryFrame, mkF, argsToLocals, Value.category]; done) | rfl
def Q_rmac (Z : State) (a1 : Addr) (nd : Int32) (t : Int32) (c1 : Addr) (f1 : Addr) (kf : ClassId) (kc : ClassId) (w0 : Int32) (w1 : Int32) (w2 : Int32) (w3 : Int32) (c0v : Int32) (c1v : Int32) (h0 : Heap) (n0 : Nat) (v : Option Value) (h : Heap) (L : List Loc) : Prop := ∃ (ro : Int32) (d0 : Int32) (d1 : Int32), v = some (.int ro) ∧ Fr n0 L ∧ Keep h0 h [c1] ∧ (own_acc (own_sel t w0 w1 w2 w3) c0v c1v ro d0 d1) ∧ Arv Z h c1 kc .int (2 : Int32) [(.int d0), (.int d1)] (.int (0 : Int32))
set_option maxRecDepth 65536 in
set_option maxHeartbeats 40000000 in
theorem rmac (l : Launch) (Z : State) (a0 : Array Value) (hw : ∀ d ∈ tables_1, d.before a0 Z = true) (ws : List Jvm.Cond) (a1 : Addr) (nd : Int32) (t : Int32) (c1 : Addr) (f1 : Addr) (kf : ClassId) (kc : ClassId) (w0 : Int32) (w1 : Int32) (w2 : Int32) (w3 : Int32) (c0v : Int32) (c1v : Int32) (h0 : Heap) (n0 : Nat) (Z0 : n0 ≤ h0.size) (F1 : Fld Z h0 a1 "com/example/enact/enact/FeederAcceleration" "fed" "[I" (.ref f1)) (V1 : Arv Z h0 f1 kf .int (4 : Int32) [(.int w0), (.int w1), (.int w2), (.int w3)] (.int (0 : Int32))) (V2 : Arv Z h0 c1 kc .int (2 : Int32) [(.int c0v), (.int c1v)] (.int (0 : Int32))) (G1 : n0 ≤ c1) (nfc : f1 ≠ c1) (nac : a1 ≠ c1) (Bt : t = (0 : Int32) ∨ t = (1 : Int32) ∨ t = (2 : Int32) ∨ t = (3 : Int32)) (H0 : w0 = (-1 : Int32) ∨ w0 = (0 : Int32) ∨ w0 = (1 : Int32)) (H1 : w1 = (-1 : Int32) ∨ w1 = (0 : Int32) ∨ w1 = (1 : Int32)) (H2 : w2 = (-1 : Int32) ∨ w2 = (0 : Int32) ∨ w2 = (1 : Int32)) (H3 : w3 = (-1 : Int32) ∨ w3 = (0 : Int32) ∨ w3 = (1 : Int32)) :
    MetFree l (⟨"com/example/enact/enact/FeederAcceleration", "accelerate", "(II[I)Z"⟩ : MethodName) (head1 (Jvm.Cond.code (⟨"com/example/enact/enact/FeederAcceleration", "accelerate", "(II[I)Z"⟩ : MethodName) prog_36_method_7_code 6 (some .boolean) :: ws) ({ frames := 0, cells := 0, slots := 0, locals := 0 } : Room)) (fun a U => a = #[(.ref a1), (.int nd), (.int t), (.ref c1)] ∧ Z.Warmed39 U.vm ∧ U.heap = h0) (fun _ _ _ _ _ => True) (fun _ U o U' => ∃ v L, o = .returned v ∧ Q_rmac Z a1 nd t c1 f1 kf kc w0 w1 w2 w3 c0v c1v h0 n0 v U'.heap L ∧ FrameEnd U o U' L ({ frames := 0, cells := 0, slots := 0, locals := 0 } : Room).cells ({ frames := 0, cells := 0, slots := 0, locals := 0 } : Room).slots) := by
  refine MetFree.of_bodySF (plainFor_of_name pn_rmfa0) hisR ?_
  intro p e s m args_ below meth c s₁ Bd hml0 hP hK
  obtain ⟨hargs, hZ, hh⟩ := hP
  have hx := Bd.exec
  have hby := Bd.bytes
  have hml : c.maxLocals = 6 := hml0
  have hown : s.vm.findClass "com/example/enact/enact/FeederAcceleration" = some m.cls := findClass_of_methodNamed Bd.named
  have hnm := (name_of_methodNamed Bd.named Bd.method).1
  have X0 : Stand p l e ({ frames := 0, cells := 0, slots := 0, locals := 0 } : Room) s m args_ below meth c s₁ [] 0 0 := Stand.of_body Bd
  have e0 : s₁.heap = h0 := by rw [← hh, Bd.state]; rfl
  have N0 := Fr.nil n0
  have hv : ∀ (i : Nat) {d : Jvm.Cond}, tables_1[i]? = some d → d.before a0 Z = true := fun i d q => hw d (List.mem_of_getElem? q)
  have K0 : Keep h0 h0 [c1] := Keep.refl _ _
  have k0 : Go p e below m (s₁.setTop (entryFrame m args_ 6)) s₁ 0 #[.val (.ref a1), .val (.int nd), .val (.int t), .val (.ref c1), .unset, .unset] [] := by rw [hargs]; exact fun t_ kt_ => castTop (ef_rmac m a1 nd t c1) kt_
  obtain ⟨W, hWW⟩ : ∃ W, W = s₁.setTop (entryFrame m args_ 6) := ⟨_, rfl⟩
  rw [← hWW] at k0 ⊢
  show Done p e below s W (Q_rmac Z a1 nd t c1 f1 kf kc w0 w1 w2 w3 c0v c1v h0 n0) ({ frames := 0, cells := 0, slots := 0, locals := 0 } : Room).cells ({ frames := 0, cells := 0, slots := 0, locals := 0 } : Room).slots
  have k20 : Go p e below m W s₁ 1 #[.val (.ref a1), .val (.int nd), .val (.int t), .val (.ref c1), .unset, .unset] [(.ref a1)] := k0.aloadN X0 hx (hb hby d_rmac_0) rfl rfl
  obtain ⟨T21, X21, e21, k21⟩ := k20.getF X0 hx hZ hown (host := "") (Or.inl (hv 35 rfl)) Via.refl e0 F1 (hb hby d_rmac_1)
  have k21 : Go p e below m W T21 4 #[.val (.ref a1), .val (.int nd), .val (.int t), .val (.ref c1), .unset, .unset] [(.ref f1)] := k21
  have k22 : Go p e below m W T21 5 #[.val (.ref a1), .val (.int nd), .val (.int t), .val (.ref c1), .unset, .unset] [(.int t), (.ref f1)] := k21.iloadN X21 hx (hb hby d_rmac_4) rfl
  rcases Bt with q23 | q24 | q25 | q26
  ·
    subst t
    have k27 : Go p e below m W T21 6 #[.val (.ref a1), .val (.int nd), .val (.int (0 : Int32)), .val (.ref c1), .unset, .unset] [(.int w0)] := k22.iaload (i := 0) (n := 4) X21 hx hZ e21 V1 rfl rfl (by decide) (by decide) rfl (hb hby d_rmac_5)
    rcases H0 with q28 | q29 | q30
    ·
      subst w0
      have k31 : Go p e below m W T21 8 #[.val (.ref a1), .val (.int nd), .val (.int (0 : Int32)), .val (.ref c1), .val (.int (-1 : Int32)), .unset] [] := k27.istore X21 hx (hb hby d_rmac_6) rfl
      have k32 : Go p e below m W T21 29 #[.val (.ref a1), .val (.int nd), .val (.int (0 : Int32)), .val (.ref c1), .val (.int (-1 : Int32)), .val (.int (0 : Int32))] [] := (((k31.iload X21 hx (hb hby d_rmac_8) rfl).ifYes X21 hx (hb hby d_rmac_10) (XT.i0_lt_t (by decide)) (by decide) (by decide)).iconst X21 hx (hb hby d_rmac_26) (v := (0 : Int32)) rfl).istore X21 hx (hb hby d_rmac_27) rfl
      have k33 : Go p e below m W T21 42 #[.val (.ref a1), .val (.int nd), .val (.int (0 : Int32)), .val (.ref c1), .val (.int (-1 : Int32)), .val (.int (0 : Int32))] [(.int (0 : Int32))] := ((k32.iload X21 hx (hb hby d_rmac_29) rfl).ifYes X21 hx (hb hby d_rmac_31) (XT.i0_eq_t (by decide)) (by decide) (by decide)).iload X21 hx (hb hby d_rmac_40) rfl
      exact k33.ireturnN X21 hx (t := .boolean) Bd.returns (by simp) rfl (hb hby d_rmac_42) (BodyLoose.notSynchronized Bd) (by rw [e21]; exact ⟨(0 : Int32), c0v, c1v, rfl, N0, K0, (Or.inl ⟨(by first | rfl | (simp [own_sel]; done)), rfl, rfl, rfl⟩), V2⟩) (by decide) (by decide)
    ·
      subst w0
      have k34 : Go p e below m W T21 8 #[.val (.ref a1), .val (.int nd), .val (.int (0 : Int32)), .val (.ref c1), .val (.int (0 : Int32)), .unset] [] := k27.istore X21 hx (hb hby d_rmac_6) rfl
      have k35 : Go p e below m W T21 16 #[.val (.ref a1), .val (.int nd), .val (.int (0 : Int32)), .val (.ref c1), .val (.int (0 : Int32)), .unset] [(.int (0 : Int32)), (.ref c1)] := (((k34.iload X21 hx (hb hby d_rmac_8) rfl).ifNo X21 hx (hb hby d_rmac_10) (XT.i0_lt_f (by decide))).aloadN X21 hx (hb hby d_rmac_13) rfl rfl).iload X21 hx (hb hby d_rmac_14) rfl
      have k36 : Go p e below m W T21 19 #[.val (.ref a1), .val (.int nd), .val (.int (0 : Int32)), .val (.ref c1), .val (.int (0 : Int32)), .unset] [(.int (2147483647 : Int32)), (.int c0v)] := (k35.iaload (i := 0) (n := 2) X21 hx hZ e21 V2 rfl rfl (by decide) (by decide) rfl (hb hby d_rmac_16)).ldcI X21 hx hZ hown (hv 170 rfl) (hb hby d_rmac_17)
      by_cases hc19_37 : c0v = (2147483647 : Int32)
      ·
        have k38 : Go p e below m W T21 29 #[.val (.ref a1), .val (.int nd), .val (.int (0 : Int32)), .val (.ref c1), .val (.int (0 : Int32)), .val (.int (0 : Int32))] [] := ((k36.icmpYes X21 hx (hb hby d_rmac_19) (XT.ii_eq_t hc19_37) (by decide) (by decide)).iconst X21 hx (hb hby d_rmac_26) (v := (0 : Int32)) rfl).istore X21 hx (hb hby d_rmac_27) rfl
        have k39 : Go p e below m W T21 42 #[.val (.ref a1), .val (.int nd), .val (.int (0 : Int32)), .val (.ref c1), .val (.int (0 : Int32)), .val (.int (0 : Int32))] [(.int (0 : Int32))] := ((k38.iload X21 hx (hb hby d_rmac_29) rfl).ifYes X21 hx (hb hby d_rmac_31) (XT.i0_eq_t (by decide)) (by decide) (by decide)).iload X21 hx (hb hby d_rmac_40) rfl
        exact k39.ireturnN X21 hx (t := .boolean) Bd.returns (by simp) rfl (hb hby d_rmac_42) (BodyLoose.notSynchronized Bd) (by rw [e21]; exact ⟨(0 : Int32), c0v, c1v, rfl, N0, K0, (Or.inr (Or.inl ⟨(by first | rfl | (simp [own_sel]; done)), hc19_37, rfl, rfl, rfl⟩)), V2⟩) (by decide) (by decide)
      ·
        have k40 : Go p e below m W T21 29 #[.val (.ref a1), .val (.int nd), .val (.int (0 : Int32)), .val (.ref c1), .val (.int (0 : Int32)), .val (.int (1 : Int32))] [] := (((k36.icmpNo X21 hx (hb hby d_rmac_19) (XT.ii_eq_f hc19_37)).iconst X21 hx (hb hby d_rmac_22) (v := (1 : Int32)) rfl).goto X21 hx (hb hby d_rmac_23) (by decide) (by decide)).istore X21 hx (hb hby d_rmac_27) rfl
        have k41 : Go p e below m W T21 39 #[.val (.ref a1), .val (.int nd), .val (.int (0 : Int32)), .val (.ref c1), .val (.int (0 : Int32)), .val (.int (1 : Int32))] [(.int (2147483647 : Int32)), (.int (0 : Int32)), (.ref c1)] := ((((k40.iload X21 hx (hb hby d_rmac_29) rfl).ifNo X21 hx (hb hby d_rmac_31) (XT.i0_eq_f (by decide))).aloadN X21 hx (hb hby d_rmac_34) rfl rfl).iload X21 hx (hb hby d_rmac_35) rfl).ldcI X21 hx hZ hown (hv 170 rfl) (hb hby d_rmac_37)
        obtain ⟨T42, h42, l42, X42, e42, W42, V42, N42, k42⟩ := k41.iastore (i := 0) X21 hx hZ e21 V2 rfl rfl (by decide) (Nat.le_of_ble_eq_true rfl) N0 G1 (hb hby d_rmac_39)
        have k42 : Go p e below m W T42 40 #[.val (.ref a1), .val (.int nd), .val (.int (0 : Int32)), .val (.ref c1), .val (.int (0 : Int32)), .val (.int (1 : Int32))] [] := k42
        have Z42 : n0 ≤ h42.size := (Wr.size W42).symm ▸ Z0
        have V42 : Arv Z h42 c1 kc .int (2 : Int32) [(.int (2147483647 : Int32)), (.int c1v)] (.int (0 : Int32)) := V42
        have K42 : Keep h0 h42 [c1] := K0.wr W42 (Or.inl (List.mem_of_getElem? (i := 0) rfl))
        have k43 : Go p e below m W T42 42 #[.val (.ref a1), .val (.int nd), .val (.int (0 : Int32)), .val (.ref c1), .val (.int (0 : Int32)), .val (.int (1 : Int32))] [(.int (1 : Int32))] := k42.iload X42 hx (hb hby d_rmac_40) rfl
        exact k43.ireturnN X42 hx (t := .boolean) Bd.returns (by simp) rfl (hb hby d_rmac_42) (BodyLoose.notSynchronized Bd) (by rw [e42]; exact ⟨(1 : Int32), (2147483647 : Int32), c1v, rfl, N42, K42, (Or.inr (Or.inr (Or.inl ⟨(by first | rfl | (simp [own_sel]; done)), hc19_37, rfl, rfl, rfl⟩))), V42⟩) (by decide) (by decide)
    ·
      subst w0
      have k44 : Go p e below m W T21 8 #[.val (.ref a1), .val (.int nd), .val (.int (0 : Int32)), .val (.ref c1), .val (.int (1 : Int32)), .unset] [] := k27.istore X21 hx (hb hby d_rmac_6) rfl
      have k45 : Go p e below m W T21 16 #[.val (.ref a1), .val (.int nd), .val (.int (0 : Int32)), .val (.ref c1), .val (.int (1 : Int32)), .unset] [(.int (1 : Int32)), (.ref c1)] := (((k44.iload X21 hx (hb hby d_rmac_8) rfl).ifNo X21 hx (hb hby d_rmac_10) (XT.i0_lt_f (by decide))).aloadN X21 hx (hb hby d_rmac_13) rfl rfl).iload X21 hx (hb hby d_rmac_14) rfl
      have k46 : Go p e below m W T21 19 #[.val (.ref a1), .val (.int nd), .val (.int (0 : Int32)), .val (.ref c1), .val (.int (1 : Int32)), .unset] [(.int (2147483647 : Int32)), (.int c1v)] := (k45.iaload (i := 1) (n := 2) X21 hx hZ e21 V2 rfl rfl (by decide) (by decide) rfl (hb hby d_rmac_16)).ldcI X21 hx hZ hown (hv 170 rfl) (hb hby d_rmac_17)
      by_cases hc19_47 : c1v = (2147483647 : Int32)
      ·
        have k48 : Go p e below m W T21 29 #[.val (.ref a1), .val (.int nd), .val (.int (0 : Int32)), .val (.ref c1), .val (.int (1 : Int32)), .val (.int (0 : Int32))] [] := ((k46.icmpYes X21 hx (hb hby d_rmac_19) (XT.ii_eq_t hc19_47) (by decide) (by decide)).iconst X21 hx (hb hby d_rmac_26) (v := (0 : Int32)) rfl).istore X21 hx (hb hby d_rmac_27) rfl
        have k49 : Go p e below m W T21 42 #[.val (.ref a1), .val (.int nd), .val (.int (0 : Int32)), .val (.ref c1), .val (.int (1 : Int32)), .val (.int (0 : Int32))] [(.int (0 : Int32))] := ((k48.iload X21 hx (hb hby d_rmac_29) rfl).ifYes X21 hx (hb hby d_rmac_31) (XT.i0_eq_t (by decide)) (by decide) (by decide)).iload X21 hx (hb hby d_rmac_40) rfl
        exact k49.ireturnN X21 hx (t := .boolean) Bd.returns (by simp) rfl (hb hby d_rmac_42) (BodyLoose.notSynchronized Bd) (by rw [e21]; exact ⟨(0 : Int32), c0v, c1v, rfl, N0, K0, (Or.inr (Or.inr (Or.inr (Or.inl ⟨(by first | rfl | (simp [own_sel]; done)), hc19_47, rfl, rfl, rfl⟩)))), V2⟩) (by decide) (by decide)
      ·
        have k50 : Go p e below m W T21 29 #[.val (.ref a1), .val (.int nd), .val (.int (0 : Int32)), .val (.ref c1), .val (.int (1 : Int32)), .val (.int (1 : Int32))] [] := (((k46.icmpNo X21 hx (hb hby d_rmac_19) (XT.ii_eq_f hc19_47)).iconst X21 hx (hb hby d_rmac_22) (v := (1 : Int32)) rfl).goto X21 hx (hb hby d_rmac_23) (by decide) (by decide)).istore X21 hx (hb hby d_rmac_27) rfl
        have k51 : Go p e below m W T21 39 #[.val (.ref a1), .val (.int nd), .val (.int (0 : Int32)), .val (.ref c1), .val (.int (1 : Int32)), .val (.int (1 : Int32))] [(.int (2147483647 : Int32)), (.int (1 : Int32)), (.ref c1)] := ((((k50.iload X21 hx (hb hby d_rmac_29) rfl).ifNo X21 hx (hb hby d_rmac_31) (XT.i0_eq_f (by decide))).aloadN X21 hx (hb hby d_rmac_34) rfl rfl).iload X21 hx (hb hby d_rmac_35) rfl).ldcI X21 hx hZ hown (hv 170 rfl) (hb hby d_rmac_37)
        obtain ⟨T52, h52, l52, X52, e52, W52, V52, N52, k52⟩ := k51.iastore (i := 1) X21 hx hZ e21 V2 rfl rfl (by decide) (Nat.le_of_ble_eq_true rfl) N0 G1 (hb hby d_rmac_39)
        have k52 : Go p e below m W T52 40 #[.val (.ref a1), .val (.int nd), .val (.int (0 : Int32)), .val (.ref c1), .val (.int (1 : Int32)), .val (.int (1 : Int32))] [] := k52
        have Z52 : n0 ≤ h52.size := (Wr.size W52).symm ▸ Z0
        have V52 : Arv Z h52 c1 kc .int (2 : Int32) [(.int c0v), (.int (2147483647 : Int32))] (.int (0 : Int32)) := V52
        have K52 : Keep h0 h52 [c1] := K0.wr W52 (Or.inl (List.mem_of_getElem? (i := 0) rfl))
        have k53 : Go p e below m W T52 42 #[.val (.ref a1), .val (.int nd), .val (.int (0 : Int32)), .val (.ref c1), .val (.int (1 : Int32)), .val (.int (1 : Int32))] [(.int (1 : Int32))] := k52.iload X52 hx (hb hby d_rmac_40) rfl
        exact k53.ireturnN X52 hx (t := .boolean) Bd.returns (by simp) rfl (hb hby d_rmac_42) (BodyLoose.notSynchronized Bd) (by rw [e52]; exact ⟨(1 : Int32), c0v, (2147483647 : Int32), rfl, N52, K52, (Or.inr (Or.inr (Or.inr (Or.inr ⟨(by first | rfl | (simp [own_sel]; done)), hc19_47, rfl, rfl, rfl⟩)))), V52⟩) (by decide) (by decide)
  ·
    subst t
    have k54 : Go p e below m W T21 6 #[.val (.ref a1), .val (.int nd), .val (.int (1 : Int32)), .val (.ref c1), .unset, .unset] [(.int w1)] := k22.iaload (i := 1) (n := 4) X21 hx hZ e21 V1 rfl rfl (by decide) (by decide) rfl (hb hby d_rmac_5)
    rcases H1 with q55 | q56 | q57
    ·
      subst w1
      have k58 : Go p e below m W T21 8 #[.val (.ref a1), .val (.int nd), .val (.int (1 : Int32)), .val (.ref c1), .val (.int (-1 : Int32)), .unset] [] := k54.istore X21 hx (hb hby d_rmac_6) rfl
      have k59 : Go p e below m W T21 29 #[.val (.ref a1), .val (.int nd), .val (.int (1 : Int32)), .val (.ref c1), .val (.int (-1 : Int32)), .val (.int (0 : Int32))] [] := (((k58.iload X21 hx (hb hby d_rmac_8) rfl).ifYes X21 hx (hb hby d_rmac_10) (XT.i0_lt_t (by decide)) (by decide) (by decide)).iconst X21 hx (hb hby d_rmac_26) (v := (0 : Int32)) rfl).istore X21 hx (hb hby d_rmac_27) rfl
      have k60 : Go p e below m W T21 42 #[.val (.ref a1), .val (.int nd), .val (.int (1 : Int32)), .val (.ref c1), .val (.int (-1 : Int32)), .val (.int (0 : Int32))] [(.int (0 : Int32))] := ((k59.iload X21 hx (hb hby d_rmac_29) rfl).ifYes X21 hx (hb hby d_rmac_31) (XT.i0_eq_t (by decide)) (by decide) (by decide)).iload X21 hx (hb hby d_rmac_40) rfl
      exact k60.ireturnN X21 hx (t := .boolean) Bd.returns (by simp) rfl (hb hby d_rmac_42) (BodyLoose.notSynchronized Bd) (by rw [e21]; exact ⟨(0 : Int32), c0v, c1v, rfl, N0, K0, (Or.inl ⟨(by first | rfl | (simp [own_sel]; done)), rfl, rfl, rfl⟩), V2⟩) (by decide) (by decide)
    ·
      subst w1
      have k61 : Go p e below m W T21 8 #[.val (.ref a1), .val (.int nd), .val (.int (1 : Int32)), .val (.ref c1), .val (.int (0 : Int32)), .unset] [] := k54.istore X21 hx (hb hby d_rmac_6) rfl
      have k62 : Go p e below m W T21 16 #[.val (.ref a1), .val (.int nd), .val (.int (1 : Int32)), .val (.ref c1), .val (.int (0 : Int32)), .unset] [(.int (0 : Int32)), (.ref c1)] := (((k61.iload X21 hx (hb hby d_rmac_8) rfl).ifNo X21 hx (hb hby d_rmac_10) (XT.i0_lt_f (by decide))).aloadN X21 hx (hb hby d_rmac_13) rfl rfl).iload X21 hx (hb hby d_rmac_14) rfl
      have k63 : Go p e below m W T21 19 #[.val (.ref a1), .val (.int nd), .val (.int (1 : Int32)), .val (.ref c1), .val (.int (0 : Int32)), .unset] [(.int (2147483647 : Int32)), (.int c0v)] := (k62.iaload (i := 0) (n := 2) X21 hx hZ e21 V2 rfl rfl (by decide) (by decide) rfl (hb hby d_rmac_16)).ldcI X21 hx hZ hown (hv 170 rfl) (hb hby d_rmac_17)
      by_cases hc19_64 : c0v = (2147483647 : Int32)
      ·
        have k65 : Go p e below m W T21 29 #[.val (.ref a1), .val (.int nd), .val (.int (1 : Int32)), .val (.ref c1), .val (.int (0 : Int32)), .val (.int (0 : Int32))] [] := ((k63.icmpYes X21 hx (hb hby d_rmac_19) (XT.ii_eq_t hc19_64) (by decide) (by decide)).iconst X21 hx (hb hby d_rmac_26) (v := (0 : Int32)) rfl).istore X21 hx (hb hby d_rmac_27) rfl
        have k66 : Go p e below m W T21 42 #[.val (.ref a1), .val (.int nd), .val (.int (1 : Int32)), .val (.ref c1), .val (.int (0 : Int32)), .val (.int (0 : Int32))] [(.int (0 : Int32))] := ((k65.iload X21 hx (hb hby d_rmac_29) rfl).ifYes X21 hx (hb hby d_rmac_31) (XT.i0_eq_t (by decide)) (by decide) (by decide)).iload X21 hx (hb hby d_rmac_40) rfl
        exact k66.ireturnN X21 hx (t := .boolean) Bd.returns (by simp) rfl (hb hby d_rmac_42) (BodyLoose.notSynchronized Bd) (by rw [e21]; exact ⟨(0 : Int32), c0v, c1v, rfl, N0, K0, (Or.inr (Or.inl ⟨(by first | rfl | (simp [own_sel]; done)), hc19_64, rfl, rfl, rfl⟩)), V2⟩) (by decide) (by decide)
      ·
        have k67 : Go p e below m W T21 29 #[.val (.ref a1), .val (.int nd), .val (.int (1 : Int32)), .val (.ref c1), .val (.int (0 : Int32)), .val (.int (1 : Int32))] [] := (((k63.icmpNo X21 hx (hb hby d_rmac_19) (XT.ii_eq_f hc19_64)).iconst X21 hx (hb hby d_rmac_22) (v := (1 : Int32)) rfl).goto X21 hx (hb hby d_rmac_23) (by decide) (by decide)).istore X21 hx (hb hby d_rmac_27) rfl
        have k68 : Go p e below m W T21 39 #[.val (.ref a1), .val (.int nd), .val (.int (1 : Int32)), .val (.ref c1), .val (.int (0 : Int32)), .val (.int (1 : Int32))] [(.int (2147483647 : Int32)), (.int (0 : Int32)), (.ref c1)] := ((((k67.iload X21 hx (hb hby d_rmac_29) rfl).ifNo X21 hx (hb hby d_rmac_31) (XT.i0_eq_f (by decide))).aloadN X21 hx (hb hby d_rmac_34) rfl rfl).iload X21 hx (hb hby d_rmac_35) rfl).ldcI X21 hx hZ hown (hv 170 rfl) (hb hby d_rmac_37)
        obtain ⟨T69, h69, l69, X69, e69, W69, V69, N69, k69⟩ := k68.iastore (i := 0) X21 hx hZ e21 V2 rfl rfl (by decide) (Nat.le_of_ble_eq_true rfl) N0 G1 (hb hby d_rmac_39)
        have k69 : Go p e below m W T69 40 #[.val (.ref a1), .val (.int nd), .val (.int (1 : Int32)), .val (.ref c1), .val (.int (0 : Int32)), .val (.int (1 : Int32))] [] := k69
        have Z69 : n0 ≤ h69.size := (Wr.size W69).symm ▸ Z0
        have V69 : Arv Z h69 c1 kc .int (2 : Int32) [(.int (2147483647 : Int32)), (.int c1v)] (.int (0 : Int32)) := V69
        have K69 : Keep h0 h69 [c1] := K0.wr W69 (Or.inl (List.mem_of_getElem? (i := 0) rfl))
        have k70 : Go p e below m W T69 42 #[.val (.ref a1), .val (.int nd), .val (.int (1 : Int32)), .val (.ref c1), .val (.int (0 : Int32)), .val (.int (1 : Int32))] [(.int (1 : Int32))] := k69.iload X69 hx (hb hby d_rmac_40) rfl
        exact k70.ireturnN X69 hx (t := .boolean) Bd.returns (by simp) rfl (hb hby d_rmac_42) (BodyLoose.notSynchronized Bd) (by rw [e69]; exact ⟨(1 : Int32), (2147483647 : Int32), c1v, rfl, N69, K69, (Or.inr (Or.inr (Or.inl ⟨(by first | rfl | (simp [own_sel]; done)), hc19_64, rfl, rfl, rfl⟩))), V69⟩) (by decide) (by decide)
    ·
      subst w1
      have k71 : Go p e below m W T21 8 #[.val (.ref a1), .val (.int nd), .val (.int (1 : Int32)), .val (.ref c1), .val (.int (1 : Int32)), .unset] [] := k54.istore X21 hx (hb hby d_rmac_6) rfl
      have k72 : Go p e below m W T21 16 #[.val (.ref a1), .val (.int nd), .val (.int (1 : Int32)), .val (.ref c1), .val (.int (1 : Int32)), .unset] [(.int (1 : Int32)), (.ref c1)] := (((k71.iload X21 hx (hb hby d_rmac_8) rfl).ifNo X21 hx (hb hby d_rmac_10) (XT.i0_lt_f (by decide))).aloadN X21 hx (hb hby d_rmac_13) rfl rfl).iload X21 hx (hb hby d_rmac_14) rfl
      have k73 : Go p e below m W T21 19 #[.val (.ref a1), .val (.int nd), .val (.int (1 : Int32)), .val (.ref c1), .val (.int (1 : Int32)), .unset] [(.int (2147483647 : Int32)), (.int c1v)] := (k72.iaload (i := 1) (n := 2) X21 hx hZ e21 V2 rfl rfl (by decide) (by decide) rfl (hb hby d_rmac_16)).ldcI X21 hx hZ hown (hv 170 rfl) (hb hby d_rmac_17)
      by_cases hc19_74 : c1v = (2147483647 : Int32)
      ·
        have k75 : Go p e below m W T21 29 #[.val (.ref a1), .val (.int nd), .val (.int (1 : Int32)), .val (.ref c1), .val (.int (1 : Int32)), .val (.int (0 : Int32))] [] := ((k73.icmpYes X21 hx (hb hby d_rmac_19) (XT.ii_eq_t hc19_74) (by decide) (by decide)).iconst X21 hx (hb hby d_rmac_26) (v := (0 : Int32)) rfl).istore X21 hx (hb hby d_rmac_27) rfl
        have k76 : Go p e below m W T21 42 #[.val (.ref a1), .val (.int nd), .val (.int (1 : Int32)), .val (.ref c1), .val (.int (1 : Int32)), .val (.int (0 : Int32))] [(.int (0 : Int32))] := ((k75.iload X21 hx (hb hby d_rmac_29) rfl).ifYes X21 hx (hb hby d_rmac_31) (XT.i0_eq_t (by decide)) (by decide) (by decide)).iload X21 hx (hb hby d_rmac_40) rfl
        exact k76.ireturnN X21 hx (t := .boolean) Bd.returns (by simp) rfl (hb hby d_rmac_42) (BodyLoose.notSynchronized Bd) (by rw [e21]; exact ⟨(0 : Int32), c0v, c1v, rfl, N0, K0, (Or.inr (Or.inr (Or.inr (Or.inl ⟨(by first | rfl | (simp [own_sel]; done)), hc19_74, rfl, rfl, rfl⟩)))), V2⟩) (by decide) (by decide)
      ·
        have k77 : Go p e below m W T21 29 #[.val (.ref a1), .val (.int nd), .val (.int (1 : Int32)), .val (.ref c1), .val (.int (1 : Int32)), .val (.int (1 : Int32))] [] := (((k73.icmpNo X21 hx (hb hby d_rmac_19) (XT.ii_eq_f hc19_74)).iconst X21 hx (hb hby d_rmac_22) (v := (1 : Int32)) rfl).goto X21 hx (hb hby d_rmac_23) (by decide) (by decide)).istore X21 hx (hb hby d_rmac_27) rfl
        have k78 : Go p e below m W T21 39 #[.val (.ref a1), .val (.int nd), .val (.int (1 : Int32)), .val (.ref c1), .val (.int (1 : Int32)), .val (.int (1 : Int32))] [(.int (2147483647 : Int32)), (.int (1 : Int32)), (.ref c1)] := ((((k77.iload X21 hx (hb hby d_rmac_29) rfl).ifNo X21 hx (hb hby d_rmac_31) (XT.i0_eq_f (by decide))).aloadN X21 hx (hb hby d_rmac_34) rfl rfl).iload X21 hx (hb hby d_rmac_35) rfl).ldcI X21 hx hZ hown (hv 170 rfl) (hb hby d_rmac_37)
        obtain ⟨T79, h79, l79, X79, e79, W79, V79, N79, k79⟩ := k78.iastore (i := 1) X21 hx hZ e21 V2 rfl rfl (by decide) (Nat.le_of_ble_eq_true rfl) N0 G1 (hb hby d_rmac_39)
        have k79 : Go p e below m W T79 40 #[.val (.ref a1), .val (.int nd), .val (.int (1 : Int32)), .val (.ref c1), .val (.int (1 : Int32)), .val (.int (1 : Int32))] [] := k79
        have Z79 : n0 ≤ h79.size := (Wr.size W79).symm ▸ Z0
        have V79 : Arv Z h79 c1 kc .int (2 : Int32) [(.int c0v), (.int (2147483647 : Int32))] (.int (0 : Int32)) := V79
        have K79 : Keep h0 h79 [c1] := K0.wr W79 (Or.inl (List.mem_of_getElem? (i := 0) rfl))
        have k80 : Go p e below m W T79 42 #[.val (.ref a1), .val (.int nd), .val (.int (1 : Int32)), .val (.ref c1), .val (.int (1 : Int32)), .val (.int (1 : Int32))] [(.int (1 : Int32))] := k79.iload X79 hx (hb hby d_rmac_40) rfl
        exact k80.ireturnN X79 hx (t := .boolean) Bd.returns (by simp) rfl (hb hby d_rmac_42) (BodyLoose.notSynchronized Bd) (by rw [e79]; exact ⟨(1 : Int32), c0v, (2147483647 : Int32), rfl, N79, K79, (Or.inr (Or.inr (Or.inr (Or.inr ⟨(by first | rfl | (simp [own_sel]; done)), hc19_74, rfl, rfl, rfl⟩)))), V79⟩) (by decide) (by decide)
  ·
    subst t
    have k81 : Go p e below m W T21 6 #[.val (.ref a1), .val (.int nd), .val (.int (2 : Int32)), .val (.ref c1), .unset, .unset] [(.int w2)] := k22.iaload (i := 2) (n := 4) X21 hx hZ e21 V1 rfl rfl (by decide) (by decide) rfl (hb hby d_rmac_5)
    rcases H2 with q82 | q83 | q84
    ·
      subst w2
      have k85 : Go p e below m W T21 8 #[.val (.ref a1), .val (.int nd), .val (.int (2 : Int32)), .val (.ref c1), .val (.int (-1 : Int32)), .unset] [] := k81.istore X21 hx (hb hby d_rmac_6) rfl
      have k86 : Go p e below m W T21 29 #[.val (.ref a1), .val (.int nd), .val (.int (2 : Int32)), .val (.ref c1), .val (.int (-1 : Int32)), .val (.int (0 : Int32))] [] := (((k85.iload X21 hx (hb hby d_rmac_8) rfl).ifYes X21 hx (hb hby d_rmac_10) (XT.i0_lt_t (by decide)) (by decide) (by decide)).iconst X21 hx (hb hby d_rmac_26) (v := (0 : Int32)) rfl).istore X21 hx (hb hby d_rmac_27) rfl
      have k87 : Go p e below m W T21 42 #[.val (.ref a1), .val (.int nd), .val (.int (2 : Int32)), .val (.ref c1), .val (.int (-1 : Int32)), .val (.int (0 : Int32))] [(.int (0 : Int32))] := ((k86.iload X21 hx (hb hby d_rmac_29) rfl).ifYes X21 hx (hb hby d_rmac_31) (XT.i0_eq_t (by decide)) (by decide) (by decide)).iload X21 hx (hb hby d_rmac_40) rfl
      exact k87.ireturnN X21 hx (t := .boolean) Bd.returns (by simp) rfl (hb hby d_rmac_42) (BodyLoose.notSynchronized Bd) (by rw [e21]; exact ⟨(0 : Int32), c0v, c1v, rfl, N0, K0, (Or.inl ⟨(by first | rfl | (simp [own_sel]; done)), rfl, rfl, rfl⟩), V2⟩) (by decide) (by decide)
    ·
      subst w2
      have k88 : Go p e below m W T21 8 #[.val (.ref a1), .val (.int nd), .val (.int (2 : Int32)), .val (.ref c1), .val (.int (0 : Int32)), .unset] [] := k81.istore X21 hx (hb hby d_rmac_6) rfl
      have k89 : Go p e below m W T21 16 #[.val (.ref a1), .val (.int nd), .val (.int (2 : Int32)), .val (.ref c1), .val (.int (0 : Int32)), .unset] [(.int (0 : Int32)), (.ref c1)] := (((k88.iload X21 hx (hb hby d_rmac_8) rfl).ifNo X21 hx (hb hby d_rmac_10) (XT.i0_lt_f (by decide))).aloadN X21 hx (hb hby d_rmac_13) rfl rfl).iload X21 hx (hb hby d_rmac_14) rfl
      have k90 : Go p e below m W T21 19 #[.val (.ref a1), .val (.int nd), .val (.int (2 : Int32)), .val (.ref c1), .val (.int (0 : Int32)), .unset] [(.int (2147483647 : Int32)), (.int c0v)] := (k89.iaload (i := 0) (n := 2) X21 hx hZ e21 V2 rfl rfl (by decide) (by decide) rfl (hb hby d_rmac_16)).ldcI X21 hx hZ hown (hv 170 rfl) (hb hby d_rmac_17)
      by_cases hc19_91 : c0v = (2147483647 : Int32)
      ·
        have k92 : Go p e below m W T21 29 #[.val (.ref a1), .val (.int nd), .val (.int (2 : Int32)), .val (.ref c1), .val (.int (0 : Int32)), .val (.int (0 : Int32))] [] := ((k90.icmpYes X21 hx (hb hby d_rmac_19) (XT.ii_eq_t hc19_91) (by decide) (by decide)).iconst X21 hx (hb hby d_rmac_26) (v := (0 : Int32)) rfl).istore X21 hx (hb hby d_rmac_27) rfl
        have k93 : Go p e below m W T21 42 #[.val (.ref a1), .val (.int nd), .val (.int (2 : Int32)), .val (.ref c1), .val (.int (0 : Int32)), .val (.int (0 : Int32))] [(.int (0 : Int32))] := ((k92.iload X21 hx (hb hby d_rmac_29) rfl).ifYes X21 hx (hb hby d_rmac_31) (XT.i0_eq_t (by decide)) (by decide) (by decide)).iload X21 hx (hb hby d_rmac_40) rfl
        exact k93.ireturnN X21 hx (t := .boolean) Bd.returns (by simp) rfl (hb hby d_rmac_42) (BodyLoose.notSynchronized Bd) (by rw [e21]; exact ⟨(0 : Int32), c0v, c1v, rfl, N0, K0, (Or.inr (Or.inl ⟨(by first | rfl | (simp [own_sel]; done)), hc19_91, rfl, rfl, rfl⟩)), V2⟩) (by decide) (by decide)
      ·
        have k94 : Go p e below m W T21 29 #[.val (.ref a1), .val (.int nd), .val (.int (2 : Int32)), .val (.ref c1), .val (.int (0 : Int32)), .val (.int (1 : Int32))] [] := (((k90.icmpNo X21 hx (hb hby d_rmac_19) (XT.ii_eq_f hc19_91)).iconst X21 hx (hb hby d_rmac_22) (v := (1 : Int32)) rfl).goto X21 hx (hb hby d_rmac_23) (by decide) (by decide)).istore X21 hx (hb hby d_rmac_27) rfl
        have k95 : Go p e below m W T21 39 #[.val (.ref a1), .val (.int nd), .val (.int (2 : Int32)), .val (.ref c1), .val (.int (0 : Int32)), .val (.int (1 : Int32))] [(.int (2147483647 : Int32)), (.int (0 : Int32)), (.ref c1)] := ((((k94.iload X21 hx (hb hby d_rmac_29) rfl).ifNo X21 hx (hb hby d_rmac_31) (XT.i0_eq_f (by decide))).aloadN X21 hx (hb hby d_rmac_34) rfl rfl).iload X21 hx (hb hby d_rmac_35) rfl).ldcI X21 hx hZ hown (hv 170 rfl) (hb hby d_rmac_37)
        obtain ⟨T96, h96, l96, X96, e96, W96, V96, N96, k96⟩ := k95.iastore (i := 0) X21 hx hZ e21 V2 rfl rfl (by decide) (Nat.le_of_ble_eq_true rfl) N0 G1 (hb hby d_rmac_39)
        have k96 : Go p e below m W T96 40 #[.val (.ref a1), .val (.int nd), .val (.int (2 : Int32)), .val (.ref c1), .val (.int (0 : Int32)), .val (.int (1 : Int32))] [] := k96
        have Z96 : n0 ≤ h96.size := (Wr.size W96).symm ▸ Z0
        have V96 : Arv Z h96 c1 kc .int (2 : Int32) [(.int (2147483647 : Int32)), (.int c1v)] (.int (0 : Int32)) := V96
        have K96 : Keep h0 h96 [c1] := K0.wr W96 (Or.inl (List.mem_of_getElem? (i := 0) rfl))
        have k97 : Go p e below m W T96 42 #[.val (.ref a1), .val (.int nd), .val (.int (2 : Int32)), .val (.ref c1), .val (.int (0 : Int32)), .val (.int (1 : Int32))] [(.int (1 : Int32))] := k96.iload X96 hx (hb hby d_rmac_40) rfl
        exact k97.ireturnN X96 hx (t := .boolean) Bd.returns (by simp) rfl (hb hby d_rmac_42) (BodyLoose.notSynchronized Bd) (by rw [e96]; exact ⟨(1 : Int32), (2147483647 : Int32), c1v, rfl, N96, K96, (Or.inr (Or.inr (Or.inl ⟨(by first | rfl | (simp [own_sel]; done)), hc19_91, rfl, rfl, rfl⟩))), V96⟩) (by decide) (by decide)
    ·
      subst w2
      have k98 : Go p e below m W T21 8 #[.val (.ref a1), .val (.int nd), .val (.int (2 : Int32)), .val (.ref c1), .val (.int (1 : Int32)), .unset] [] := k81.istore X21 hx (hb hby d_rmac_6) rfl
      have k99 : Go p e below m W T21 16 #[.val (.ref a1), .val (.int nd), .val (.int (2 : Int32)), .val (.ref c1), .val (.int (1 : Int32)), .unset] [(.int (1 : Int32)), (.ref c1)] := (((k98.iload X21 hx (hb hby d_rmac_8) rfl).ifNo X21 hx (hb hby d_rmac_10) (XT.i0_lt_f (by decide))).aloadN X21 hx (hb hby d_rmac_13) rfl rfl).iload X21 hx (hb hby d_rmac_14) rfl
      have k100 : Go p e below m W T21 19 #[.val (.ref a1), .val (.int nd), .val (.int (2 : Int32)), .val (.ref c1), .val (.int (1 : Int32)), .unset] [(.int (2147483647 : Int32)), (.int c1v)] := (k99.iaload (i := 1) (n := 2) X21 hx hZ e21 V2 rfl rfl (by decide) (by decide) rfl (hb hby d_rmac_16)).ldcI X21 hx hZ hown (hv 170 rfl) (hb hby d_rmac_17)
      by_cases hc19_101 : c1v = (2147483647 : Int32)
      ·
        have k102 : Go p e below m W T21 29 #[.val (.ref a1), .val (.int nd), .val (.int (2 : Int32)), .val (.ref c1), .val (.int (1 : Int32)), .val (.int (0 : Int32))] [] := ((k100.icmpYes X21 hx (hb hby d_rmac_19) (XT.ii_eq_t hc19_101) (by decide) (by decide)).iconst X21 hx (hb hby d_rmac_26) (v := (0 : Int32)) rfl).istore X21 hx (hb hby d_rmac_27) rfl
        have k103 : Go p e below m W T21 42 #[.val (.ref a1), .val (.int nd), .val (.int (2 : Int32)), .val (.ref c1), .val (.int (1 : Int32)), .val (.int (0 : Int32))] [(.int (0 : Int32))] := ((k102.iload X21 hx (hb hby d_rmac_29) rfl).ifYes X21 hx (hb hby d_rmac_31) (XT.i0_eq_t (by decide)) (by decide) (by decide)).iload X21 hx (hb hby d_rmac_40) rfl
        exact k103.ireturnN X21 hx (t := .boolean) Bd.returns (by simp) rfl (hb hby d_rmac_42) (BodyLoose.notSynchronized Bd) (by rw [e21]; exact ⟨(0 : Int32), c0v, c1v, rfl, N0, K0, (Or.inr (Or.inr (Or.inr (Or.inl ⟨(by first | rfl | (simp [own_sel]; done)), hc19_101, rfl, rfl, rfl⟩)))), V2⟩) (by decide) (by decide)
      ·
        have k104 : Go p e below m W T21 29 #[.val (.ref a1), .val (.int nd), .val (.int (2 : Int32)), .val (.ref c1), .val (.int (1 : Int32)), .val (.int (1 : Int32))] [] := (((k100.icmpNo X21 hx (hb hby d_rmac_19) (XT.ii_eq_f hc19_101)).iconst X21 hx (hb hby d_rmac_22) (v := (1 : Int32)) rfl).goto X21 hx (hb hby d_rmac_23) (by decide) (by decide)).istore X21 hx (hb hby d_rmac_27) rfl
        have k105 : Go p e below m W T21 39 #[.val (.ref a1), .val (.int nd), .val (.int (2 : Int32)), .val (.ref c1), .val (.int (1 : Int32)), .val (.int (1 : Int32))] [(.int (2147483647 : Int32)), (.int (1 : Int32)), (.ref c1)] := ((((k104.iload X21 hx (hb hby d_rmac_29) rfl).ifNo X21 hx (hb hby d_rmac_31) (XT.i0_eq_f (by decide))).aloadN X21 hx (hb hby d_rmac_34) rfl rfl).iload X21 hx (hb hby d_rmac_35) rfl).ldcI X21 hx hZ hown (hv 170 rfl) (hb hby d_rmac_37)
        obtain ⟨T106, h106, l106, X106, e106, W106, V106, N106, k106⟩ := k105.iastore (i := 1) X21 hx hZ e21 V2 rfl rfl (by decide) (Nat.le_of_ble_eq_true rfl) N0 G1 (hb hby d_rmac_39)
        have k106 : Go p e below m W T106 40 #[.val (.ref a1), .val (.int nd), .val (.int (2 : Int32)), .val (.ref c1), .val (.int (1 : Int32)), .val (.int (1 : Int32))] [] := k106
        have Z106 : n0 ≤ h106.size := (Wr.size W106).symm ▸ Z0
        have V106 : Arv Z h106 c1 kc .int (2 : Int32) [(.int c0v), (.int (2147483647 : Int32))] (.int (0 : Int32)) := V106
        have K106 : Keep h0 h106 [c1] := K0.wr W106 (Or.inl (List.mem_of_getElem? (i := 0) rfl))
        have k107 : Go p e below m W T106 42 #[.val (.ref a1), .val (.int nd), .val (.int (2 : Int32)), .val (.ref c1), .val (.int (1 : Int32)), .val (.int (1 : Int32))] [(.int (1 : Int32))] := k106.iload X106 hx (hb hby d_rmac_40) rfl
        exact k107.ireturnN X106 hx (t := .boolean) Bd.returns (by simp) rfl (hb hby d_rmac_42) (BodyLoose.notSynchronized Bd) (by rw [e106]; exact ⟨(1 : Int32), c0v, (2147483647 : Int32), rfl, N106, K106, (Or.inr (Or.inr (Or.inr (Or.inr ⟨(by first | rfl | (simp [own_sel]; done)), hc19_101, rfl, rfl, rfl⟩)))), V106⟩) (by decide) (by decide)
  ·
    subst t
    have k108 : Go p e below m W T21 6 #[.val (.ref a1), .val (.int nd), .val (.int (3 : Int32)), .val (.ref c1), .unset, .unset] [(.int w3)] := k22.iaload (i := 3) (n := 4) X21 hx hZ e21 V1 rfl rfl (by decide) (by decide) rfl (hb hby d_rmac_5)
    rcases H3 with q109 | q110 | q111
    ·
      subst w3
      have k112 : Go p e below m W T21 8 #[.val (.ref a1), .val (.int nd), .val (.int (3 : Int32)), .val (.ref c1), .val (.int (-1 : Int32)), .unset] [] := k108.istore X21 hx (hb hby d_rmac_6) rfl
      have k113 : Go p e below m W T21 29 #[.val (.ref a1), .val (.int nd), .val (.int (3 : Int32)), .val (.ref c1), .val (.int (-1 : Int32)), .val (.int (0 : Int32))] [] := (((k112.iload X21 hx (hb hby d_rmac_8) rfl).ifYes X21 hx (hb hby d_rmac_10) (XT.i0_lt_t (by decide)) (by decide) (by decide)).iconst X21 hx (hb hby d_rmac_26) (v := (0 : Int32)) rfl).istore X21 hx (hb hby d_rmac_27) rfl
      have k114 : Go p e below m W T21 42 #[.val (.ref a1), .val (.int nd), .val (.int (3 : Int32)), .val (.ref c1), .val (.int (-1 : Int32)), .val (.int (0 : Int32))] [(.int (0 : Int32))] := ((k113.iload X21 hx (hb hby d_rmac_29) rfl).ifYes X21 hx (hb hby d_rmac_31) (XT.i0_eq_t (by decide)) (by decide) (by decide)).iload X21 hx (hb hby d_rmac_40) rfl
      exact k114.ireturnN X21 hx (t := .boolean) Bd.returns (by simp) rfl (hb hby d_rmac_42) (BodyLoose.notSynchronized Bd) (by rw [e21]; exact ⟨(0 : Int32), c0v, c1v, rfl, N0, K0, (Or.inl ⟨(by first | rfl | (simp [own_sel]; done)), rfl, rfl, rfl⟩), V2⟩) (by decide) (by decide)
    ·
      subst w3
      have k115 : Go p e below m W T21 8 #[.val (.ref a1), .val (.int nd), .val (.int (3 : Int32)), .val (.ref c1), .val (.int (0 : Int32)), .unset] [] := k108.istore X21 hx (hb hby d_rmac_6) rfl
      have k116 : Go p e below m W T21 16 #[.val (.ref a1), .val (.int nd), .val (.int (3 : Int32)), .val (.ref c1), .val (.int (0 : Int32)), .unset] [(.int (0 : Int32)), (.ref c1)] := (((k115.iload X21 hx (hb hby d_rmac_8) rfl).ifNo X21 hx (hb hby d_rmac_10) (XT.i0_lt_f (by decide))).aloadN X21 hx (hb hby d_rmac_13) rfl rfl).iload X21 hx (hb hby d_rmac_14) rfl
      have k117 : Go p e below m W T21 19 #[.val (.ref a1), .val (.int nd), .val (.int (3 : Int32)), .val (.ref c1), .val (.int (0 : Int32)), .unset] [(.int (2147483647 : Int32)), (.int c0v)] := (k116.iaload (i := 0) (n := 2) X21 hx hZ e21 V2 rfl rfl (by decide) (by decide) rfl (hb hby d_rmac_16)).ldcI X21 hx hZ hown (hv 170 rfl) (hb hby d_rmac_17)
      by_cases hc19_118 : c0v = (2147483647 : Int32)
      ·
        have k119 : Go p e below m W T21 29 #[.val (.ref a1), .val (.int nd), .val (.int (3 : Int32)), .val (.ref c1), .val (.int (0 : Int32)), .val (.int (0 : Int32))] [] := ((k117.icmpYes X21 hx (hb hby d_rmac_19) (XT.ii_eq_t hc19_118) (by decide) (by decide)).iconst X21 hx (hb hby d_rmac_26) (v := (0 : Int32)) rfl).istore X21 hx (hb hby d_rmac_27) rfl
        have k120 : Go p e below m W T21 42 #[.val (.ref a1), .val (.int nd), .val (.int (3 : Int32)), .val (.ref c1), .val (.int (0 : Int32)), .val (.int (0 : Int32))] [(.int (0 : Int32))] := ((k119.iload X21 hx (hb hby d_rmac_29) rfl).ifYes X21 hx (hb hby d_rmac_31) (XT.i0_eq_t (by decide)) (by decide) (by decide)).iload X21 hx (hb hby d_rmac_40) rfl
        exact k120.ireturnN X21 hx (t := .boolean) Bd.returns (by simp) rfl (hb hby d_rmac_42) (BodyLoose.notSynchronized Bd) (by rw [e21]; exact ⟨(0 : Int32), c0v, c1v, rfl, N0, K0, (Or.inr (Or.inl ⟨(by first | rfl | (simp [own_sel]; done)), hc19_118, rfl, rfl, rfl⟩)), V2⟩) (by decide) (by decide)
      ·
        have k121 : Go p e below m W T21 29 #[.val (.ref a1), .val (.int nd), .val (.int (3 : Int32)), .val (.ref c1), .val (.int (0 : Int32)), .val (.int (1 : Int32))] [] := (((k117.icmpNo X21 hx (hb hby d_rmac_19) (XT.ii_eq_f hc19_118)).iconst X21 hx (hb hby d_rmac_22) (v := (1 : Int32)) rfl).goto X21 hx (hb hby d_rmac_23) (by decide) (by decide)).istore X21 hx (hb hby d_rmac_27) rfl
        have k122 : Go p e below m W T21 39 #[.val (.ref a1), .val (.int nd), .val (.int (3 : Int32)), .val (.ref c1), .val (.int (0 : Int32)), .val (.int (1 : Int32))] [(.int (2147483647 : Int32)), (.int (0 : Int32)), (.ref c1)] := ((((k121.iload X21 hx (hb hby d_rmac_29) rfl).ifNo X21 hx (hb hby d_rmac_31) (XT.i0_eq_f (by decide))).aloadN X21 hx (hb hby d_rmac_34) rfl rfl).iload X21 hx (hb hby d_rmac_35) rfl).ldcI X21 hx hZ hown (hv 170 rfl) (hb hby d_rmac_37)
        obtain ⟨T123, h123, l123, X123, e123, W123, V123, N123, k123⟩ := k122.iastore (i := 0) X21 hx hZ e21 V2 rfl rfl (by decide) (Nat.le_of_ble_eq_true rfl) N0 G1 (hb hby d_rmac_39)
        have k123 : Go p e below m W T123 40 #[.val (.ref a1), .val (.int nd), .val (.int (3 : Int32)), .val (.ref c1), .val (.int (0 : Int32)), .val (.int (1 : Int32))] [] := k123
        have Z123 : n0 ≤ h123.size := (Wr.size W123).symm ▸ Z0
        have V123 : Arv Z h123 c1 kc .int (2 : Int32) [(.int (2147483647 : Int32)), (.int c1v)] (.int (0 : Int32)) := V123
        have K123 : Keep h0 h123 [c1] := K0.wr W123 (Or.inl (List.mem_of_getElem? (i := 0) rfl))
        have k124 : Go p e below m W T123 42 #[.val (.ref a1), .val (.int nd), .val (.int (3 : Int32)), .val (.ref c1), .val (.int (0 : Int32)), .val (.int (1 : Int32))] [(.int (1 : Int32))] := k123.iload X123 hx (hb hby d_rmac_40) rfl
        exact k124.ireturnN X123 hx (t := .boolean) Bd.returns (by simp) rfl (hb hby d_rmac_42) (BodyLoose.notSynchronized Bd) (by rw [e123]; exact ⟨(1 : Int32), (2147483647 : Int32), c1v, rfl, N123, K123, (Or.inr (Or.inr (Or.inl ⟨(by first | rfl | (simp [own_sel]; done)), hc19_118, rfl, rfl, rfl⟩))), V123⟩) (by decide) (by decide)
    ·
      subst w3
      have k125 : Go p e below m W T21 8 #[.val (.ref a1), .val (.int nd), .val (.int (3 : Int32)), .val (.ref c1), .val (.int (1 : Int32)), .unset] [] := k108.istore X21 hx (hb hby d_rmac_6) rfl
      have k126 : Go p e below m W T21 16 #[.val (.ref a1), .val (.int nd), .val (.int (3 : Int32)), .val (.ref c1), .val (.int (1 : Int32)), .unset] [(.int (1 : Int32)), (.ref c1)] := (((k125.iload X21 hx (hb hby d_rmac_8) rfl).ifNo X21 hx (hb hby d_rmac_10) (XT.i0_lt_f (by decide))).aloadN X21 hx (hb hby d_rmac_13) rfl rfl).iload X21 hx (hb hby d_rmac_14) rfl
      have k127 : Go p e below m W T21 19 #[.val (.ref a1), .val (.int nd), .val (.int (3 : Int32)), .val (.ref c1), .val (.int (1 : Int32)), .unset] [(.int (2147483647 : Int32)), (.int c1v)] := (k126.iaload (i := 1) (n := 2) X21 hx hZ e21 V2 rfl rfl (by decide) (by decide) rfl (hb hby d_rmac_16)).ldcI X21 hx hZ hown (hv 170 rfl) (hb hby d_rmac_17)
      by_cases hc19_128 : c1v = (2147483647 : Int32)
      ·
        have k129 : Go p e below m W T21 29 #[.val (.ref a1), .val (.int nd), .val (.int (3 : Int32)), .val (.ref c1), .val (.int (1 : Int32)), .val (.int (0 : Int32))] [] := ((k127.icmpYes X21 hx (hb hby d_rmac_19) (XT.ii_eq_t hc19_128) (by decide) (by decide)).iconst X21 hx (hb hby d_rmac_26) (v := (0 : Int32)) rfl).istore X21 hx (hb hby d_rmac_27) rfl
        have k130 : Go p e below m W T21 42 #[.val (.ref a1), .val (.int nd), .val (.int (3 : Int32)), .val (.ref c1), .val (.int (1 : Int32)), .val (.int (0 : Int32))] [(.int (0 : Int32))] := ((k129.iload X21 hx (hb hby d_rmac_29) rfl).ifYes X21 hx (hb hby d_rmac_31) (XT.i0_eq_t (by decide)) (by decide) (by decide)).iload X21 hx (hb hby d_rmac_40) rfl
        exact k130.ireturnN X21 hx (t := .boolean) Bd.returns (by simp) rfl (hb hby d_rmac_42) (BodyLoose.notSynchronized Bd) (by rw [e21]; exact ⟨(0 : Int32), c0v, c1v, rfl, N0, K0, (Or.inr (Or.inr (Or.inr (Or.inl ⟨(by first | rfl | (simp [own_sel]; done)), hc19_128, rfl, rfl, rfl⟩)))), V2⟩) (by decide) (by decide)
      ·
        have k131 : Go p e below m W T21 29 #[.val (.ref a1), .val (.int nd), .val (.int (3 : Int32)), .val (.ref c1), .val (.int (1 : Int32)), .val (.int (1 : Int32))] [] := (((k127.icmpNo X21 hx (hb hby d_rmac_19) (XT.ii_eq_f hc19_128)).iconst X21 hx (hb hby d_rmac_22) (v := (1 : Int32)) rfl).goto X21 hx (hb hby d_rmac_23) (by decide) (by decide)).istore X21 hx (hb hby d_rmac_27) rfl
        have k132 : Go p e below m W T21 39 #[.val (.ref a1), .val (.int nd), .val (.int (3 : Int32)), .val (.ref c1), .val (.int (1 : Int32)), .val (.int (1 : Int32))] [(.int (2147483647 : Int32)), (.int (1 : Int32)), (.ref c1)] := ((((k131.iload X21 hx (hb hby d_rmac_29) rfl).ifNo X21 hx (hb hby d_rmac_31) (XT.i0_eq_f (by decide))).aloadN X21 hx (hb hby d_rmac_34) rfl rfl).iload X21 hx (hb hby d_rmac_35) rfl).ldcI X21 hx hZ hown (hv 170 rfl) (hb hby d_rmac_37)
        obtain ⟨T133, h133, l133, X133, e133, W133, V133, N133, k133⟩ := k132.iastore (i := 1) X21 hx hZ e21 V2 rfl rfl (by decide) (Nat.le_of_ble_eq_true rfl) N0 G1 (hb hby d_rmac_39)
        have k133 : Go p e below m W T133 40 #[.val (.ref a1), .val (.int nd), .val (.int (3 : Int32)), .val (.ref c1), .val (.int (1 : Int32)), .val (.int (1 : Int32))] [] := k133
        have Z133 : n0 ≤ h133.size := (Wr.size W133).symm ▸ Z0
        have V133 : Arv Z h133 c1 kc .int (2 : Int32) [(.int c0v), (.int (2147483647 : Int32))] (.int (0 : Int32)) := V133
        have K133 : Keep h0 h133 [c1] := K0.wr W133 (Or.inl (List.mem_of_getElem? (i := 0) rfl))
        have k134 : Go p e below m W T133 42 #[.val (.ref a1), .val (.int nd), .val (.int (3 : Int32)), .val (.ref c1), .val (.int (1 : Int32)), .val (.int (1 : Int32))] [(.int (1 : Int32))] := k133.iload X133 hx (hb hby d_rmac_40) rfl
        exact k134.ireturnN X133 hx (t := .boolean) Bd.returns (by simp) rfl (hb hby d_rmac_42) (BodyLoose.notSynchronized Bd) (by rw [e133]; exact ⟨(1 : Int32), c0v, (2147483647 : Int32), rfl, N133, K133, (Or.inr (Or.inr (Or.inr (Or.inr ⟨(by first | rfl | (simp [own_sel]; done)), hc19_128, rfl, rfl, rfl⟩)))), V133⟩) (by decide) (by decide)

theorem own_len {s : State} {args : Array Value} {t : Term} {ca : Addr} {cc : Cell} {ty : FieldType} {n : Int32} (ev : t.eval args s none [] s = some (.ref ca)) (A : Jvm.RoadKit.Arr s s.heap ca cc ty) (el : (Term.length t).eval args s none [] s = some (.int n)) : cc.slots.size < 2 ^ 31 ∧ cc.slots.size.toInt32 = n := by
  have ha : s.arrayAt? ca = some cc := A.fin (Vm.Alike.refl _)
  by_cases q : cc.slots.size < 2 ^ 31
  · refine ⟨q, ?_⟩
    have e := (len_f ev ha q).symm.trans el
    exact Value.int.inj (Option.some.inj e)
  · exfalso
    obtain ⟨a2, c2, e1, e2, e3⟩ := Term.length_spec el
    cases ev.symm.trans e1
    cases ha.symm.trans e2
    simp [Term.eval, ev, ha, q] at el

theorem pn_rm0 : plainName "com/example/enact/enact/FeederAccelerationAcceleratePinLaw" = true := by first | (simp [plainName, overriddenIn]; done) | decide +kernel
theorem pd_rm0_1 : parseMethodDescriptor "(ILjava/util/List;)V" = some ⟨[.int, (.object "java/util/List")], none⟩ := by decide +kernel
theorem pd_rm0_2 : parseMethodDescriptor "(II[I)Z" = some ⟨[.int, .int, (.array .int)], (some .boolean)⟩ := by decide +kernel
theorem pd_rm0_3 : parseMethodDescriptor "(III)V" = some ⟨[.int, .int, .int], none⟩ := by decide +kernel
theorem pd_rm0_4 : parseMethodDescriptor "(Ljava/lang/Object;)Z" = some ⟨[(.object "java/lang/Object")], (some .boolean)⟩ := by decide +kernel
theorem ef_rm0 (m : MethodId) (p1 : Int32) (p2 : Int32) (p3 : Int32) (p4 : Int32) (p5 : Int32) : entryFrame m #[(.int p1), (.int p2), (.int p3), (.int p4), (.int p5)] maxLocals = mkF m 0 #[.val (.int p1), .val (.int p2), .val (.int p3), .val (.int p4), .val (.int p5), .unset, .unset, .unset, .unset, .unset, .unset, .unset, .unset, .unset, .unset, .unset, .unset, .unset, .unset, .unset, .unset, .unset, .unset] [] := by first | (simp [entryFrame, mkF, argsToLocals, Value.category, maxLocals]; done) | rfl
def Q_rm0 (Z : State) (p1 : Int32) (p2 : Int32) (p3 : Int32) (p4 : Int32) (p5 : Int32) (de : Addr) (kd : ClassId) (h0 : Heap) (n0 : Nat) (v : Option Value) (h : Heap) (L : List Loc) : Prop := v = some (.int (1 : Int32)) ∧ Fr n0 L
set_option maxRecDepth 65536 in
set_option maxHeartbeats 40000000 in
theorem rm0 (l : Launch) (Z : State) (a0 : Array Value) (hw : ∀ d ∈ tables_1, d.before a0 Z = true) (ws : List Jvm.Cond) (p1 : Int32) (p2 : Int32) (p3 : Int32) (p4 : Int32) (p5 : Int32) (de : Addr) (kd : ClassId) (h0 : Heap) (n0 : Nat) (Z0 : n0 ≤ h0.size) (O0 : Old Z n0 h0) (SD : Sta Z Z.heap "java/util/ArrayList" "DEFAULTCAPACITY_EMPTY_ELEMENTDATA" "[Ljava/lang/Object;" (.ref de)) (VD : Arv Z Z.heap de kd (.object "java/lang/Object") (0 : Int32) [] .null) (ED : Exa Z Z.heap de "[Ljava/lang/Object;") :
    MetFree l x (head1 (Jvm.Cond.code x code maxLocals ret :: ws) room_1) (fun a U => a = #[(.int p1), (.int p2), (.int p3), (.int p4), (.int p5)] ∧ Z.Warmed39 U.vm ∧ U.heap = h0) (fun _ _ _ _ _ => True) (fun _ U o U' => ∃ v L, o = .returned v ∧ Q_rm0 Z p1 p2 p3 p4 p5 de kd h0 n0 v U'.heap L ∧ FrameEnd U o U' L room_1.cells room_1.slots) := by
  refine MetFree.of_bodySF (plainFor_of_name pn_rm0) hisR ?_
  intro p e s m args_ below meth c s₁ Bd hml0 hP hK
  obtain ⟨hargs, hZ, hh⟩ := hP
  have hx := Bd.exec
  have hby := Bd.bytes
  have hml : c.maxLocals = 23 := hml0
  have hown : s.vm.findClass "com/example/enact/enact/FeederAccelerationAcceleratePinLaw" = some m.cls := findClass_of_methodNamed Bd.named
  have hnm := (name_of_methodNamed Bd.named Bd.method).1
  have X0 : Stand p l e room_1 s m args_ below meth c s₁ [] 0 0 := Stand.of_body Bd
  have e0 : s₁.heap = h0 := by rw [← hh, Bd.state]; rfl
  have N0 := Fr.nil n0
  have hv : ∀ (i : Nat) {d : Jvm.Cond}, tables_1[i]? = some d → d.before a0 Z = true := fun i d q => hw d (List.mem_of_getElem? q)
  have k0 : Go p e below m (s₁.setTop (entryFrame m args_ maxLocals)) s₁ 0 #[.val (.int p1), .val (.int p2), .val (.int p3), .val (.int p4), .val (.int p5), .unset, .unset, .unset, .unset, .unset, .unset, .unset, .unset, .unset, .unset, .unset, .unset, .unset, .unset, .unset, .unset, .unset, .unset] [] := by rw [hargs]; exact fun t_ kt_ => castTop (ef_rm0 m p1 p2 p3 p4 p5) kt_
  obtain ⟨W, hWW⟩ : ∃ W, W = s₁.setTop (entryFrame m args_ maxLocals) := ⟨_, rfl⟩
  rw [← hWW] at k0 ⊢
  show Done p e below s W (Q_rm0 Z p1 p2 p3 p4 p5 de kd h0 n0) room_1.cells room_1.slots
  have k20 : Go p e below m W s₁ 3 #[.val (.int p1), .val (.int p2), .val (.int p3), .val (.int p4), .val (.int p5), .unset, .unset, .unset, .unset, .unset, .unset, .unset, .unset, .unset, .unset, .unset, .unset, .unset, .unset, .unset, .unset, .unset, .unset] [(.int (p1 &&& (1 : Int32)))] := ((k0.iloadN X0 hx (hb hby at_0) rfl).iconst X0 hx (hb hby at_1) (v := (1 : Int32)) rfl).iand X0 hx (hb hby at_2)
  by_cases hc3_21 : (p1 &&& (1 : Int32)) = (0 : Int32)
  ·
    have k22 : Go p e below m W s₁ 13 #[.val (.int p1), .val (.int p2), .val (.int p3), .val (.int p4), .val (.int p5), .val (.int (0 : Int32)), .unset, .unset, .unset, .unset, .unset, .unset, .unset, .unset, .unset, .unset, .unset, .unset, .unset, .unset, .unset, .unset, .unset] [] := ((k20.ifYes X0 hx (hb hby at_3) (XT.i0_eq_t hc3_21) (by decide) (by decide)).iconst X0 hx (hb hby at_10) (v := (0 : Int32)) rfl).istore X0 hx (hb hby at_11) rfl
    have k23 : Go p e below m W s₁ 16 #[.val (.int p1), .val (.int p2), .val (.int p3), .val (.int p4), .val (.int p5), .val (.int (0 : Int32)), .unset, .unset, .unset, .unset, .unset, .unset, .unset, .unset, .unset, .unset, .unset, .unset, .unset, .unset, .unset, .unset, .unset] [(.int (p1 &&& (2 : Int32)))] := ((k22.iloadN X0 hx (hb hby at_13) rfl).iconst X0 hx (hb hby at_14) (v := (2 : Int32)) rfl).iand X0 hx (hb hby at_15)
    by_cases hc16_24 : (p1 &&& (2 : Int32)) = (0 : Int32)
    ·
      have k25 : Go p e below m W s₁ 26 #[.val (.int p1), .val (.int p2), .val (.int p3), .val (.int p4), .val (.int p5), .val (.int (0 : Int32)), .val (.int (0 : Int32)), .unset, .unset, .unset, .unset, .unset, .unset, .unset, .unset, .unset, .unset, .unset, .unset, .unset, .unset, .unset, .unset] [] := ((k23.ifYes X0 hx (hb hby at_16) (XT.i0_eq_t hc16_24) (by decide) (by decide)).iconst X0 hx (hb hby at_23) (v := (0 : Int32)) rfl).istore X0 hx (hb hby at_24) rfl
      have k26 : Go p e below m W s₁ 35 #[.val (.int p1), .val (.int p2), .val (.int p3), .val (.int p4), .val (.int p5), .val (.int (0 : Int32)), .val (.int (0 : Int32)), .unset, .unset, .unset, .unset, .unset, .unset, .unset, .unset, .unset, .unset, .unset, .unset, .unset, .unset, .unset, .unset] [(.int (((XT.ushr p1 (2 : Int32)) &&& (255 : Int32)) % (4 : Int32)))] := ((((((k25.iloadN X0 hx (hb hby at_26) rfl).iconst X0 hx (hb hby at_27) (v := (2 : Int32)) rfl).iushr X0 hx (hb hby at_28)).sipush X0 hx (hb hby at_29) (v := (255 : Int32)) rfl).iand X0 hx (hb hby at_32)).iconst X0 hx (hb hby at_33) (v := (4 : Int32)) rfl).irem X0 hx (hb hby at_34) (by decide)
      obtain ⟨r27, hr27, hs27⟩ : ∃ r : Int32, r = (((XT.ushr p1 (2 : Int32)) &&& (255 : Int32)) % (4 : Int32)) ∧ (r = (0 : Int32) ∨ r = (1 : Int32) ∨ r = (2 : Int32) ∨ r = (3 : Int32)) := ⟨_, rfl, own_r4 (own_and (by decide))⟩
      have k28 : Go p e below m W s₁ 35 #[.val (.int p1), .val (.int p2), .val (.int p3), .val (.int p4), .val (.int p5), .val (.int (0 : Int32)), .val (.int (0 : Int32)), .unset, .unset, .unset, .unset, .unset, .unset, .unset, .unset, .unset, .unset, .unset, .unset, .unset, .unset, .unset, .unset] [(.int r27)] := hr27 ▸ k26
      clear hr27
      have k29 : Go p e below m W s₁ 37 #[.val (.int p1), .val (.int p2), .val (.int p3), .val (.int p4), .val (.int p5), .val (.int (0 : Int32)), .val (.int (0 : Int32)), .val (.int r27), .unset, .unset, .unset, .unset, .unset, .unset, .unset, .unset, .unset, .unset, .unset, .unset, .unset, .unset, .unset] [] := k28.istore X0 hx (hb hby at_35) rfl
      have k30 : Go p e below m W s₁ 49 #[.val (.int p1), .val (.int p2), .val (.int p3), .val (.int p4), .val (.int p5), .val (.int (0 : Int32)), .val (.int (0 : Int32)), .val (.int r27), .unset, .unset, .unset, .unset, .unset, .unset, .unset, .unset, .unset, .unset, .unset, .unset, .unset, .unset, .unset] [(.int (((XT.ushr p1 (10 : Int32)) &&& (3 : Int32)) % (3 : Int32))), (.int (r27 + (1 : Int32)))] := (((((((((k29.iload X0 hx (hb hby at_37) rfl).iconst X0 hx (hb hby at_39) (v := (1 : Int32)) rfl).iadd X0 hx (hb hby at_40)).iloadN X0 hx (hb hby at_41) rfl).bipush X0 hx (hb hby at_42) (v := (10 : Int32)) rfl).iushr X0 hx (hb hby at_44)).iconst X0 hx (hb hby at_45) (v := (3 : Int32)) rfl).iand X0 hx (hb hby at_46)).iconst X0 hx (hb hby at_47) (v := (3 : Int32)) rfl).irem X0 hx (hb hby at_48) (by decide)
      obtain ⟨r31, hr31, hs31⟩ : ∃ r : Int32, r = (((XT.ushr p1 (10 : Int32)) &&& (3 : Int32)) % (3 : Int32)) ∧ (r = (0 : Int32) ∨ r = (1 : Int32) ∨ r = (2 : Int32)) := ⟨_, rfl, own_r3 (own_and (by decide))⟩
      have k32 : Go p e below m W s₁ 49 #[.val (.int p1), .val (.int p2), .val (.int p3), .val (.int p4), .val (.int p5), .val (.int (0 : Int32)), .val (.int (0 : Int32)), .val (.int r27), .unset, .unset, .unset, .unset, .unset, .unset, .unset, .unset, .unset, .unset, .unset, .unset, .unset, .unset, .unset] [(.int r31), (.int (r27 + (1 : Int32)))] := hr31 ▸ k30
      clear hr31
      have k33 : Go p e below m W s₁ 52 #[.val (.int p1), .val (.int p2), .val (.int p3), .val (.int p4), .val (.int p5), .val (.int (0 : Int32)), .val (.int (0 : Int32)), .val (.int r27), .unset, .unset, .unset, .unset, .unset, .unset, .unset, .unset, .unset, .unset, .unset, .unset, .unset, .unset, .unset] [(.int (((r27 + (1 : Int32)) + r31) % (4 : Int32)))] := ((k32.iadd X0 hx (hb hby at_49)).iconst X0 hx (hb hby at_50) (v := (4 : Int32)) rfl).irem X0 hx (hb hby at_51) (by decide)
      obtain ⟨r34, hr34, hs34⟩ : ∃ r : Int32, r = (((r27 + (1 : Int32)) + r31) % (4 : Int32)) ∧ ((r = (0 : Int32) ∨ r = (1 : Int32) ∨ r = (2 : Int32) ∨ r = (3 : Int32)) ∧ ¬ (r = r27)) := ⟨_, rfl, own_f1 hs27 hs31⟩
      have k35 : Go p e below m W s₁ 52 #[.val (.int p1), .val (.int p2), .val (.int p3), .val (.int p4), .val (.int p5), .val (.int (0 : Int32)), .val (.int (0 : Int32)), .val (.int r27), .unset, .unset, .unset, .unset, .unset, .unset, .unset, .unset, .unset, .unset, .unset, .unset, .unset, .unset, .unset] [(.int r34)] := hr34 ▸ k33
      clear hr34
      have k36 : Go p e below m W s₁ 54 #[.val (.int p1), .val (.int p2), .val (.int p3), .val (.int p4), .val (.int p5), .val (.int (0 : Int32)), .val (.int (0 : Int32)), .val (.int r27), .val (.int r34), .unset, .unset, .unset, .unset, .unset, .unset, .unset, .unset, .unset, .unset, .unset, .unset, .unset, .unset] [] := k35.istore X0 hx (hb hby at_52) rfl
      have k37 : Go p e below m W s₁ 60 #[.val (.int p1), .val (.int p2), .val (.int p3), .val (.int p4), .val (.int p5), .val (.int (0 : Int32)), .val (.int (0 : Int32)), .val (.int r27), .val (.int r34), .unset, .unset, .unset, .unset, .unset, .unset, .unset, .unset, .unset, .unset, .unset, .unset, .unset, .unset] [(.int ((p2 &&& (2147483647 : Int32)) % (4 : Int32)))] := ((((k36.iloadN X0 hx (hb hby at_54) rfl).ldcI X0 hx hZ hown (hv 0 rfl) (hb hby at_55)).iand X0 hx (hb hby at_57)).iconst X0 hx (hb hby at_58) (v := (4 : Int32)) rfl).irem X0 hx (hb hby at_59) (by decide)
      obtain ⟨r38, hr38, hs38⟩ : ∃ r : Int32, r = ((p2 &&& (2147483647 : Int32)) % (4 : Int32)) ∧ (r = (0 : Int32) ∨ r = (1 : Int32) ∨ r = (2 : Int32) ∨ r = (3 : Int32)) := ⟨_, rfl, own_r4 (own_mask p2)⟩
      have k39 : Go p e below m W s₁ 60 #[.val (.int p1), .val (.int p2), .val (.int p3), .val (.int p4), .val (.int p5), .val (.int (0 : Int32)), .val (.int (0 : Int32)), .val (.int r27), .val (.int r34), .unset, .unset, .unset, .unset, .unset, .unset, .unset, .unset, .unset, .unset, .unset, .unset, .unset, .unset] [(.int r38)] := hr38 ▸ k37
      clear hr38
      have k40 : Go p e below m W s₁ 62 #[.val (.int p1), .val (.int p2), .val (.int p3), .val (.int p4), .val (.int p5), .val (.int (0 : Int32)), .val (.int (0 : Int32)), .val (.int r27), .val (.int r34), .val (.int r38), .unset, .unset, .unset, .unset, .unset, .unset, .unset, .unset, .unset, .unset, .unset, .unset, .unset] [] := k39.istore X0 hx (hb hby at_60) rfl
      have k41 : Go p e below m W s₁ 67 #[.val (.int p1), .val (.int p2), .val (.int p3), .val (.int p4), .val (.int p5), .val (.int (0 : Int32)), .val (.int (0 : Int32)), .val (.int r27), .val (.int r34), .val (.int r38), .unset, .unset, .unset, .unset, .unset, .unset, .unset, .unset, .unset, .unset, .unset, .unset, .unset] [(.int (p1 &&& (4096 : Int32)))] := ((k40.iloadN X0 hx (hb hby at_62) rfl).sipush X0 hx (hb hby at_63) (v := (4096 : Int32)) rfl).iand X0 hx (hb hby at_66)
      obtain ⟨u42_S0, hd42, k42⟩ : ∃ (u42_S0 : Int32), ((((p1 &&& (4096 : Int32)) = (0 : Int32)) ∧ u42_S0 = (p3 &&& (2147483647 : Int32))) ∨ ((¬ ((p1 &&& (4096 : Int32)) = (0 : Int32))) ∧ u42_S0 = (2147483647 : Int32))) ∧ Go p e below m W s₁ 79 #[.val (.int p1), .val (.int p2), .val (.int p3), .val (.int p4), .val (.int p5), .val (.int (0 : Int32)), .val (.int (0 : Int32)), .val (.int r27), .val (.int r34), .val (.int r38), .unset, .unset, .unset, .unset, .unset, .unset, .unset, .unset, .unset, .unset, .unset, .unset, .unset] [(.int u42_S0)] := by
        by_cases hc67_43 : (p1 &&& (4096 : Int32)) = (0 : Int32)
        ·
          have k44 : Go p e below m W s₁ 79 #[.val (.int p1), .val (.int p2), .val (.int p3), .val (.int p4), .val (.int p5), .val (.int (0 : Int32)), .val (.int (0 : Int32)), .val (.int r27), .val (.int r34), .val (.int r38), .unset, .unset, .unset, .unset, .unset, .unset, .unset, .unset, .unset, .unset, .unset, .unset, .unset] [(.int (p3 &&& (2147483647 : Int32)))] := (((k41.ifYes X0 hx (hb hby at_67) (XT.i0_eq_t hc67_43) (by decide) (by decide)).iloadN X0 hx (hb hby at_75) rfl).ldcI X0 hx hZ hown (hv 0 rfl) (hb hby at_76)).iand X0 hx (hb hby at_78)
          exact ⟨(p3 &&& (2147483647 : Int32)), (Or.inl ⟨hc67_43, rfl⟩), k44⟩
        ·
          have k45 : Go p e below m W s₁ 79 #[.val (.int p1), .val (.int p2), .val (.int p3), .val (.int p4), .val (.int p5), .val (.int (0 : Int32)), .val (.int (0 : Int32)), .val (.int r27), .val (.int r34), .val (.int r38), .unset, .unset, .unset, .unset, .unset, .unset, .unset, .unset, .unset, .unset, .unset, .unset, .unset] [(.int (2147483647 : Int32))] := ((k41.ifNo X0 hx (hb hby at_67) (XT.i0_eq_f hc67_43)).ldcI X0 hx hZ hown (hv 0 rfl) (hb hby at_70)).goto X0 hx (hb hby at_72) (by decide) (by decide)
          exact ⟨(2147483647 : Int32), (Or.inr ⟨hc67_43, rfl⟩), k45⟩
      have k46 : Go p e below m W s₁ 81 #[.val (.int p1), .val (.int p2), .val (.int p3), .val (.int p4), .val (.int p5), .val (.int (0 : Int32)), .val (.int (0 : Int32)), .val (.int r27), .val (.int r34), .val (.int r38), .val (.int u42_S0), .unset, .unset, .unset, .unset, .unset, .unset, .unset, .unset, .unset, .unset, .unset, .unset] [] := k42.istore X0 hx (hb hby at_79) rfl
      have k47 : Go p e below m W s₁ 86 #[.val (.int p1), .val (.int p2), .val (.int p3), .val (.int p4), .val (.int p5), .val (.int (0 : Int32)), .val (.int (0 : Int32)), .val (.int r27), .val (.int r34), .val (.int r38), .val (.int u42_S0), .unset, .unset, .unset, .unset, .unset, .unset, .unset, .unset, .unset, .unset, .unset, .unset] [(.int (p1 &&& (8192 : Int32)))] := ((k46.iloadN X0 hx (hb hby at_81) rfl).sipush X0 hx (hb hby at_82) (v := (8192 : Int32)) rfl).iand X0 hx (hb hby at_85)
      obtain ⟨u48_S0, hd48, k48⟩ : ∃ (u48_S0 : Int32), ((((p1 &&& (8192 : Int32)) = (0 : Int32)) ∧ u48_S0 = (p4 &&& (2147483647 : Int32))) ∨ ((¬ ((p1 &&& (8192 : Int32)) = (0 : Int32))) ∧ u48_S0 = (2147483647 : Int32))) ∧ Go p e below m W s₁ 98 #[.val (.int p1), .val (.int p2), .val (.int p3), .val (.int p4), .val (.int p5), .val (.int (0 : Int32)), .val (.int (0 : Int32)), .val (.int r27), .val (.int r34), .val (.int r38), .val (.int u42_S0), .unset, .unset, .unset, .unset, .unset, .unset, .unset, .unset, .unset, .unset, .unset, .unset] [(.int u48_S0)] := by
        by_cases hc86_49 : (p1 &&& (8192 : Int32)) = (0 : Int32)
        ·
          have k50 : Go p e below m W s₁ 98 #[.val (.int p1), .val (.int p2), .val (.int p3), .val (.int p4), .val (.int p5), .val (.int (0 : Int32)), .val (.int (0 : Int32)), .val (.int r27), .val (.int r34), .val (.int r38), .val (.int u42_S0), .unset, .unset, .unset, .unset, .unset, .unset, .unset, .unset, .unset, .unset, .unset, .unset] [(.int (p4 &&& (2147483647 : Int32)))] := (((k47.ifYes X0 hx (hb hby at_86) (XT.i0_eq_t hc86_49) (by decide) (by decide)).iloadN X0 hx (hb hby at_94) rfl).ldcI X0 hx hZ hown (hv 0 rfl) (hb hby at_95)).iand X0 hx (hb hby at_97)
          exact ⟨(p4 &&& (2147483647 : Int32)), (Or.inl ⟨hc86_49, rfl⟩), k50⟩
        ·
          have k51 : Go p e below m W s₁ 98 #[.val (.int p1), .val (.int p2), .val (.int p3), .val (.int p4), .val (.int p5), .val (.int (0 : Int32)), .val (.int (0 : Int32)), .val (.int r27), .val (.int r34), .val (.int r38), .val (.int u42_S0), .unset, .unset, .unset, .unset, .unset, .unset, .unset, .unset, .unset, .unset, .unset, .unset] [(.int (2147483647 : Int32))] := ((k47.ifNo X0 hx (hb hby at_86) (XT.i0_eq_f hc86_49)).ldcI X0 hx hZ hown (hv 0 rfl) (hb hby at_89)).goto X0 hx (hb hby at_91) (by decide) (by decide)
          exact ⟨(2147483647 : Int32), (Or.inr ⟨hc86_49, rfl⟩), k51⟩
      have k52 : Go p e below m W s₁ 100 #[.val (.int p1), .val (.int p2), .val (.int p3), .val (.int p4), .val (.int p5), .val (.int (0 : Int32)), .val (.int (0 : Int32)), .val (.int r27), .val (.int r34), .val (.int r38), .val (.int u42_S0), .val (.int u48_S0), .unset, .unset, .unset, .unset, .unset, .unset, .unset, .unset, .unset, .unset, .unset] [] := k48.istore X0 hx (hb hby at_98) rfl
      obtain ⟨T53, h53, b53, X53, e53, g53, E53, A53, D53, k53⟩ := k52.newO (cells' := 1) (slots' := 3) X0 hx hZ hown (hv 1 rfl) (hv 2 rfl) (hv 3 rfl) e0 (hb hby at_100) rfl rfl (by decide) (by decide)
      have k53 : Go p e below m W T53 103 #[.val (.int p1), .val (.int p2), .val (.int p3), .val (.int p4), .val (.int p5), .val (.int (0 : Int32)), .val (.int (0 : Int32)), .val (.int r27), .val (.int r34), .val (.int r38), .val (.int u42_S0), .val (.int u48_S0), .unset, .unset, .unset, .unset, .unset, .unset, .unset, .unset, .unset, .unset, .unset] [(.ref b53)] := k53
      have Z53 : n0 ≤ h53.size := Nat.le_trans Z0 E53.1
      have G53 : n0 ≤ b53 := g53 ▸ Z0
      have f54 : Fld Z h53 b53 "java/util/AbstractList" "modCount" "I" (.int (0 : Int32)) := D53 (Or.inl (hv 23 rfl)) (ty := .int) (by decide)
      have f55 : Fld Z h53 b53 "java/util/ArrayList" "elementData" "[Ljava/lang/Object;" .null := D53 (Or.inl (hv 26 rfl)) (ty := (.array (.object "java/lang/Object"))) (by decide)
      have f56 : Fld Z h53 b53 "java/util/ArrayList" "size" "I" (.int (0 : Int32)) := D53 (Or.inl (hv 78 rfl)) (ty := .int) (by decide)
      have k57 : Go p e below m W T53 104 #[.val (.int p1), .val (.int p2), .val (.int p3), .val (.int p4), .val (.int p5), .val (.int (0 : Int32)), .val (.int (0 : Int32)), .val (.int r27), .val (.int r34), .val (.int r38), .val (.int u42_S0), .val (.int u48_S0), .unset, .unset, .unset, .unset, .unset, .unset, .unset, .unset, .unset, .unset, .unset] [(.ref b53), (.ref b53)] := k53.dup X53 hx (hb hby at_103) rfl
      have g_1 := O0.ext E53
      obtain ⟨T58, v58, L58, X58, Q58, k58⟩ := k57.spec (y := (⟨"java/util/ArrayList", "<init>", "()V"⟩ : MethodName)) (b := b53) (Wd := 1) (cells' := 1) (slots' := 3) (argsL := []) (rest := [(.ref b53)]) X53 hx hZ hown (by rw [hml]; rfl) rfl (hv 4 rfl) (hv 5 rfl) (hv 6 rfl) (hv 3 rfl) (hb hby at_104) (by decide) (rmar l Z a0 hw [] b53 de (.int (0 : Int32)) .null h53 n0 Z53 g_1 SD A53 G53 f54 f55 f56) e53 rfl rfl pd_rmal_0 rfl (Nat.le_of_eq rfl) (by decide) (by decide) rfl rfl (by decide) (by decide)
      obtain ⟨rfl, Nq58, Kq58, q58_0, q58_1, q58_2, q58_3⟩ := Q58
      have N58 := Fr.app N0 Nq58
      obtain ⟨h58, e58⟩ : ∃ h, T58.heap = h := ⟨_, rfl⟩
      rw [e58] at Kq58 q58_0 q58_1 q58_2 q58_3
      have Z58 : n0 ≤ h58.size := Nat.le_trans Z53 Kq58.1
      have k58 : Go p e below m W T58 107 #[.val (.int p1), .val (.int p2), .val (.int p3), .val (.int p4), .val (.int p5), .val (.int (0 : Int32)), .val (.int (0 : Int32)), .val (.int r27), .val (.int r34), .val (.int r38), .val (.int u42_S0), .val (.int u48_S0), .unset, .unset, .unset, .unset, .unset, .unset, .unset, .unset, .unset, .unset, .unset] [(.ref b53)] := k58
      have k59 : Go p e below m W T58 109 #[.val (.int p1), .val (.int p2), .val (.int p3), .val (.int p4), .val (.int p5), .val (.int (0 : Int32)), .val (.int (0 : Int32)), .val (.int r27), .val (.int r34), .val (.int r38), .val (.int u42_S0), .val (.int u48_S0), .val (.ref b53), .unset, .unset, .unset, .unset, .unset, .unset, .unset, .unset, .unset, .unset] [] := k58.astore X58 hx (hb hby at_107) rfl rfl
      have k60 : Go p e below m W T58 167 #[.val (.int p1), .val (.int p2), .val (.int p3), .val (.int p4), .val (.int p5), .val (.int (0 : Int32)), .val (.int (0 : Int32)), .val (.int r27), .val (.int r34), .val (.int r38), .val (.int u42_S0), .val (.int u48_S0), .val (.ref b53), .unset, .unset, .unset, .unset, .unset, .unset, .unset, .unset, .unset, .unset] [] := (((k59.iload X58 hx (hb hby at_109) rfl).ifYes X58 hx (hb hby at_111) (XT.i0_eq_t (by decide)) (by decide) (by decide)).iload X58 hx (hb hby at_138) rfl).ifYes X58 hx (hb hby at_140) (XT.i0_eq_t (by decide)) (by decide) (by decide)
      obtain ⟨T61, h61, b61, X61, e61, g61, E61, A61, D61, k61⟩ := k60.newO (cells' := 2) (slots' := 5) X58 hx hZ hown (hv 27 rfl) (hv 28 rfl) (hv 29 rfl) e58 (hb hby at_167) rfl rfl (by decide) (by decide)
      have k61 : Go p e below m W T61 170 #[.val (.int p1), .val (.int p2), .val (.int p3), .val (.int p4), .val (.int p5), .val (.int (0 : Int32)), .val (.int (0 : Int32)), .val (.int r27), .val (.int r34), .val (.int r38), .val (.int u42_S0), .val (.int u48_S0), .val (.ref b53), .unset, .unset, .unset, .unset, .unset, .unset, .unset, .unset, .unset, .unset] [(.ref b61)] := k61
      have Z61 : n0 ≤ h61.size := Nat.le_trans Z58 E61.1
      have G61 : n0 ≤ b61 := g61 ▸ Z58
      have f62 : Fld Z h61 b61 "com/example/enact/enact/FeederAcceleration" "fed" "[I" .null := D61 (Or.inr (hv 36 rfl)) (ty := (.array .int)) (by decide)
      have f63 : Fld Z h61 b61 "com/example/enact/enact/FeederAcceleration" "accelerates" "Z" (.int (0 : Int32)) := D61 (Or.inr (hv 89 rfl)) (ty := .boolean) (by decide)
      have k64 : Go p e below m W T61 174 #[.val (.int p1), .val (.int p2), .val (.int p3), .val (.int p4), .val (.int p5), .val (.int (0 : Int32)), .val (.int (0 : Int32)), .val (.int r27), .val (.int r34), .val (.int r38), .val (.int u42_S0), .val (.int u48_S0), .val (.ref b53), .unset, .unset, .unset, .unset, .unset, .unset, .unset, .unset, .unset, .unset] [(.ref b53), (.int (4 : Int32)), (.ref b61), (.ref b61)] := ((k61.dup X61 hx (hb hby at_170) rfl).iconst X61 hx (hb hby at_171) (v := (4 : Int32)) rfl).aload X61 hx (hb hby at_172) rfl rfl
      have g_2 := (g_1.keep Kq58 (by intro x q; simp only [List.mem_cons, List.not_mem_nil, or_false] at q; rcases q with rfl; exact G53)).ext E61
      have g_3 := q58_0.ext E61
      have g_4 := q58_1.ext E61
      have g_5 := q58_3.ext E61
      obtain ⟨T65, v65, L65, X65, Q65, k65⟩ := k64.spec (y := (⟨"com/example/enact/enact/FeederAcceleration", "<init>", "(ILjava/util/List;)V"⟩ : MethodName)) (b := b61) (Wd := 1) (cells' := 4) (slots' := 13) (argsL := [(.int (4 : Int32)), (.ref b53)]) (rest := [(.ref b61)]) X61 hx hZ hown (by rw [hml]; rfl) rfl (hv 30 rfl) (hv 31 rfl) (hv 32 rfl) (hv 29 rfl) (hb hby at_174) (by decide) (rmfa0 l Z a0 hw [] b61 b53 .null (.int (0 : Int32)) h61 n0 Z61 g_2 A61 G61 f62 f63 g_3 g_4 g_5) e61 rfl rfl pd_rm0_1 rfl (Nat.le_of_eq rfl) (by decide) (by decide) rfl rfl (by decide) (by decide)
      obtain ⟨of_65, okf_65, rfl, Nq65, Kq65, q65_0, q65_1, q65_2, q65_3, q65_4, q65_5⟩ := Q65
      have N65 := Fr.app N58 Nq65
      obtain ⟨h65, e65⟩ : ∃ h, T65.heap = h := ⟨_, rfl⟩
      rw [e65] at Kq65 q65_0 q65_1 q65_2
      have Z65 : n0 ≤ h65.size := Nat.le_trans Z61 Kq65.1
      have k65 : Go p e below m W T65 177 #[.val (.int p1), .val (.int p2), .val (.int p3), .val (.int p4), .val (.int p5), .val (.int (0 : Int32)), .val (.int (0 : Int32)), .val (.int r27), .val (.int r34), .val (.int r38), .val (.int u42_S0), .val (.int u48_S0), .val (.ref b53), .unset, .unset, .unset, .unset, .unset, .unset, .unset, .unset, .unset, .unset] [(.ref b61)] := k65
      have k66 : Go p e below m W T65 179 #[.val (.int p1), .val (.int p2), .val (.int p3), .val (.int p4), .val (.int p5), .val (.int (0 : Int32)), .val (.int (0 : Int32)), .val (.int r27), .val (.int r34), .val (.int r38), .val (.int u42_S0), .val (.int u48_S0), .val (.ref b53), .val (.ref b61), .unset, .unset, .unset, .unset, .unset, .unset, .unset, .unset, .unset] [] := k65.astore X65 hx (hb hby at_177) rfl rfl
      have k67 : Go p e below m W T65 180 #[.val (.int p1), .val (.int p2), .val (.int p3), .val (.int p4), .val (.int p5), .val (.int (0 : Int32)), .val (.int (0 : Int32)), .val (.int r27), .val (.int r34), .val (.int r38), .val (.int u42_S0), .val (.int u48_S0), .val (.ref b53), .val (.ref b61), .unset, .unset, .unset, .unset, .unset, .unset, .unset, .unset, .unset] [(.int (2 : Int32))] := k66.iconst X65 hx (hb hby at_179) (v := (2 : Int32)) rfl
      obtain ⟨T68, h68, b68, c68, X68, e68, g68, E68, A68, k68⟩ := k67.newP (cap := 2) (cells' := 5) (slots' := 15) X65 hx hZ (hv 34 rfl) e65 (hb hby at_180) (by decide) (by decide) (by decide) rfl rfl (by decide) (by decide)
      have k68 : Go p e below m W T68 182 #[.val (.int p1), .val (.int p2), .val (.int p3), .val (.int p4), .val (.int p5), .val (.int (0 : Int32)), .val (.int (0 : Int32)), .val (.int r27), .val (.int r34), .val (.int r38), .val (.int u42_S0), .val (.int u48_S0), .val (.ref b53), .val (.ref b61), .unset, .unset, .unset, .unset, .unset, .unset, .unset, .unset, .unset] [(.ref b68)] := k68
      have Z68 : n0 ≤ h68.size := Nat.le_trans Z65 E68.1
      have G68 : n0 ≤ b68 := g68 ▸ Z65
      have V68 : Arv Z h68 b68 c68 .int (2 : Int32) [(.int (0 : Int32)), (.int (0 : Int32))] (.int (0 : Int32)) := A68 2
      have k69 : Go p e below m W T68 186 #[.val (.int p1), .val (.int p2), .val (.int p3), .val (.int p4), .val (.int p5), .val (.int (0 : Int32)), .val (.int (0 : Int32)), .val (.int r27), .val (.int r34), .val (.int r38), .val (.int u42_S0), .val (.int u48_S0), .val (.ref b53), .val (.ref b61), .unset, .unset, .unset, .unset, .unset, .unset, .unset, .unset, .unset] [(.int u42_S0), (.int (0 : Int32)), (.ref b68), (.ref b68)] := ((k68.dup X68 hx (hb hby at_182) rfl).iconst X68 hx (hb hby at_183) (v := (0 : Int32)) rfl).iload X68 hx (hb hby at_184) rfl
      obtain ⟨T70, h70, l70, X70, e70, W70, V70, N70, k70⟩ := k69.iastore (i := 0) X68 hx hZ e68 V68 rfl rfl (by decide) (Nat.le_of_ble_eq_true rfl) N65 G68 (hb hby at_186)
      have k70 : Go p e below m W T70 187 #[.val (.int p1), .val (.int p2), .val (.int p3), .val (.int p4), .val (.int p5), .val (.int (0 : Int32)), .val (.int (0 : Int32)), .val (.int r27), .val (.int r34), .val (.int r38), .val (.int u42_S0), .val (.int u48_S0), .val (.ref b53), .val (.ref b61), .unset, .unset, .unset, .unset, .unset, .unset, .unset, .unset, .unset] [(.ref b68)] := k70
      have Z70 : n0 ≤ h70.size := (Wr.size W70).symm ▸ Z68
      have V70 : Arv Z h70 b68 c68 .int (2 : Int32) [(.int u42_S0), (.int (0 : Int32))] (.int (0 : Int32)) := V70
      have k71 : Go p e below m W T70 191 #[.val (.int p1), .val (.int p2), .val (.int p3), .val (.int p4), .val (.int p5), .val (.int (0 : Int32)), .val (.int (0 : Int32)), .val (.int r27), .val (.int r34), .val (.int r38), .val (.int u42_S0), .val (.int u48_S0), .val (.ref b53), .val (.ref b61), .unset, .unset, .unset, .unset, .unset, .unset, .unset, .unset, .unset] [(.int u48_S0), (.int (1 : Int32)), (.ref b68), (.ref b68)] := ((k70.dup X70 hx (hb hby at_187) rfl).iconst X70 hx (hb hby at_188) (v := (1 : Int32)) rfl).iload X70 hx (hb hby at_189) rfl
      obtain ⟨T72, h72, l72, X72, e72, W72, V72, N72, k72⟩ := k71.iastore (i := 1) X70 hx hZ e70 V70 rfl rfl (by decide) (Nat.le_of_ble_eq_true rfl) N70 G68 (hb hby at_191)
      have k72 : Go p e below m W T72 192 #[.val (.int p1), .val (.int p2), .val (.int p3), .val (.int p4), .val (.int p5), .val (.int (0 : Int32)), .val (.int (0 : Int32)), .val (.int r27), .val (.int r34), .val (.int r38), .val (.int u42_S0), .val (.int u48_S0), .val (.ref b53), .val (.ref b61), .unset, .unset, .unset, .unset, .unset, .unset, .unset, .unset, .unset] [(.ref b68)] := k72
      have Z72 : n0 ≤ h72.size := (Wr.size W72).symm ▸ Z70
      have V72 : Arv Z h72 b68 c68 .int (2 : Int32) [(.int u42_S0), (.int u48_S0)] (.int (0 : Int32)) := V72
      have k73 : Go p e below m W T72 194 #[.val (.int p1), .val (.int p2), .val (.int p3), .val (.int p4), .val (.int p5), .val (.int (0 : Int32)), .val (.int (0 : Int32)), .val (.int r27), .val (.int r34), .val (.int r38), .val (.int u42_S0), .val (.int u48_S0), .val (.ref b53), .val (.ref b61), .val (.ref b68), .unset, .unset, .unset, .unset, .unset, .unset, .unset, .unset] [] := k72.astore X72 hx (hb hby at_192) rfl rfl
      have k74 : Go p e below m W T72 202 #[.val (.int p1), .val (.int p2), .val (.int p3), .val (.int p4), .val (.int p5), .val (.int (0 : Int32)), .val (.int (0 : Int32)), .val (.int r27), .val (.int r34), .val (.int r38), .val (.int u42_S0), .val (.int u48_S0), .val (.ref b53), .val (.ref b61), .val (.ref b68), .unset, .unset, .unset, .unset, .unset, .unset, .unset, .unset] [(.ref b68), (.int r38), (.int p5), (.ref b61)] := (((k73.aload X72 hx (hb hby at_194) rfl rfl).iload X72 hx (hb hby at_196) rfl).iload X72 hx (hb hby at_198) rfl).aload X72 hx (hb hby at_200) rfl rfl
      have g_6 := (show b61 ≠ b68 from Nat.ne_of_lt (g68 ▸ q65_0.lt))
      have g_7 := ((q65_1.ext E68).other W70 (Or.inl g_6)).other W72 (Or.inl g_6)
      have g_8 := (show of_65 ≠ b68 from Nat.ne_of_lt (g68 ▸ q65_2.lt))
      have g_9 := ((q65_2.ext E68).other W70 g_8).other W72 g_8
      have g_10 := ((q65_0.ext E68).wr W70).wr W72
      obtain ⟨T75, v75, L75, X75, Q75, k75⟩ := k74.virt (y := (⟨"com/example/enact/enact/FeederAcceleration", "accelerate", "(II[I)Z"⟩ : MethodName)) (z := (⟨"com/example/enact/enact/FeederAcceleration", "accelerate", "(II[I)Z"⟩ : MethodName)) (Wd := 0) (cells' := 5) (slots' := 15) (argsL := [(.int p5), (.int r38), (.ref b68)]) (rest := []) X72 hx hZ hown (by rw [hml]; rfl) (hv 90 rfl) (hv 91 rfl) (notFace_of_selects (args := #[]) (mvT hZ (hv 93 rfl))) (hv 93 rfl) (hv 92 rfl) (hv 94 rfl) (hv 29 rfl) (hb hby at_202) (by decide) (rmac l Z a0 hw [] b61 p5 r38 b68 of_65 okf_65 c68 (-1 : Int32) (-1 : Int32) (-1 : Int32) (-1 : Int32) u42_S0 u48_S0 h72 n0 Z72 g_7 g_9 V72 G68 g_8 g_6 hs38 (Or.inl rfl) (Or.inl rfl) (Or.inl rfl) (Or.inl rfl)) e72 g_10 rfl rfl pd_rm0_2 rfl (Nat.le_of_eq rfl) (by decide) (by decide) rfl rfl (by decide) (by decide)
      obtain ⟨ro_75, d0_75, d1_75, rfl, Nq75, Kq75, p75_0, q75_0⟩ := Q75
      have N75 := Fr.app N72 Nq75
      obtain ⟨h75, e75⟩ : ∃ h, T75.heap = h := ⟨_, rfl⟩
      rw [e75] at Kq75 q75_0
      have Z75 : n0 ≤ h75.size := Nat.le_trans Z72 Kq75.1
      have k75 : Go p e below m W T75 205 #[.val (.int p1), .val (.int p2), .val (.int p3), .val (.int p4), .val (.int p5), .val (.int (0 : Int32)), .val (.int (0 : Int32)), .val (.int r27), .val (.int r34), .val (.int r38), .val (.int u42_S0), .val (.int u48_S0), .val (.ref b53), .val (.ref b61), .val (.ref b68), .unset, .unset, .unset, .unset, .unset, .unset, .unset, .unset] [(.int ro_75)] := k75
      have k76 : Go p e below m W T75 207 #[.val (.int p1), .val (.int p2), .val (.int p3), .val (.int p4), .val (.int p5), .val (.int (0 : Int32)), .val (.int (0 : Int32)), .val (.int r27), .val (.int r34), .val (.int r38), .val (.int u42_S0), .val (.int u48_S0), .val (.ref b53), .val (.ref b61), .val (.ref b68), .val (.int ro_75), .unset, .unset, .unset, .unset, .unset, .unset, .unset] [] := k75.istore X75 hx (hb hby at_205) rfl
      have k77 : Go p e below m W T75 240 #[.val (.int p1), .val (.int p2), .val (.int p3), .val (.int p4), .val (.int p5), .val (.int (0 : Int32)), .val (.int (0 : Int32)), .val (.int r27), .val (.int r34), .val (.int r38), .val (.int u42_S0), .val (.int u48_S0), .val (.ref b53), .val (.ref b61), .val (.ref b68), .val (.int ro_75), .unset, .unset, .unset, .unset, .unset, .unset, .unset] [(.int (-1 : Int32))] := ((((k76.iload X75 hx (hb hby at_207) rfl).ifYes X75 hx (hb hby at_209) (XT.i0_eq_t (by decide)) (by decide) (by decide)).iload X75 hx (hb hby at_223) rfl).ifYes X75 hx (hb hby at_225) (XT.i0_eq_t (by decide)) (by decide) (by decide)).iconst X75 hx (hb hby at_239) (v := (-1 : Int32)) rfl
      obtain ⟨ha78, hb78, hc78⟩ := own_accN p75_0 own_sel0
      subst ro_75
      subst d0_75
      subst d1_75
      have k79 : Go p e below m W T75 242 #[.val (.int p1), .val (.int p2), .val (.int p3), .val (.int p4), .val (.int p5), .val (.int (0 : Int32)), .val (.int (0 : Int32)), .val (.int r27), .val (.int r34), .val (.int r38), .val (.int u42_S0), .val (.int u48_S0), .val (.ref b53), .val (.ref b61), .val (.ref b68), .val (.int (0 : Int32)), .val (.int (-1 : Int32)), .unset, .unset, .unset, .unset, .unset, .unset] [] := k77.istore X75 hx (hb hby at_240) rfl
      have k80 : Go p e below m W T75 266 #[.val (.int p1), .val (.int p2), .val (.int p3), .val (.int p4), .val (.int p5), .val (.int (0 : Int32)), .val (.int (0 : Int32)), .val (.int r27), .val (.int r34), .val (.int r38), .val (.int u42_S0), .val (.int u48_S0), .val (.ref b53), .val (.ref b61), .val (.ref b68), .val (.int (0 : Int32)), .val (.int (-1 : Int32)), .val (.int (0 : Int32)), .unset, .unset, .unset, .unset, .unset] [] := ((((((k79.iload X75 hx (hb hby at_242) rfl).ifYes X75 hx (hb hby at_244) (XT.i0_ne_t (by decide)) (by decide) (by decide)).iload X75 hx (hb hby at_252) rfl).iconst X75 hx (hb hby at_254) (v := (1 : Int32)) rfl).icmpYes X75 hx (hb hby at_255) (XT.ii_ne_t (by decide)) (by decide) (by decide)).iconst X75 hx (hb hby at_263) (v := (0 : Int32)) rfl).istore X75 hx (hb hby at_264) rfl
      have k81 : Go p e below m W T75 285 #[.val (.int p1), .val (.int p2), .val (.int p3), .val (.int p4), .val (.int p5), .val (.int (0 : Int32)), .val (.int (0 : Int32)), .val (.int r27), .val (.int r34), .val (.int r38), .val (.int u42_S0), .val (.int u48_S0), .val (.ref b53), .val (.ref b61), .val (.ref b68), .val (.int (0 : Int32)), .val (.int (-1 : Int32)), .val (.int (0 : Int32)), .val (.int (0 : Int32)), .unset, .unset, .unset, .unset] [] := (((k80.iload X75 hx (hb hby at_266) rfl).ifYes X75 hx (hb hby at_268) (XT.i0_lt_t (by decide)) (by decide) (by decide)).iconst X75 hx (hb hby at_282) (v := (0 : Int32)) rfl).istore X75 hx (hb hby at_283) rfl
      have k82 : Go p e below m W T75 304 #[.val (.int p1), .val (.int p2), .val (.int p3), .val (.int p4), .val (.int p5), .val (.int (0 : Int32)), .val (.int (0 : Int32)), .val (.int r27), .val (.int r34), .val (.int r38), .val (.int u42_S0), .val (.int u48_S0), .val (.ref b53), .val (.ref b61), .val (.ref b68), .val (.int (0 : Int32)), .val (.int (-1 : Int32)), .val (.int (0 : Int32)), .val (.int (0 : Int32)), .val (.int u42_S0), .unset, .unset, .unset] [] := (((k81.iload X75 hx (hb hby at_285) rfl).ifYes X75 hx (hb hby at_287) (XT.i0_eq_t (by decide)) (by decide) (by decide)).iload X75 hx (hb hby at_300) rfl).istore X75 hx (hb hby at_302) rfl
      have k83 : Go p e below m W T75 324 #[.val (.int p1), .val (.int p2), .val (.int p3), .val (.int p4), .val (.int p5), .val (.int (0 : Int32)), .val (.int (0 : Int32)), .val (.int r27), .val (.int r34), .val (.int r38), .val (.int u42_S0), .val (.int u48_S0), .val (.ref b53), .val (.ref b61), .val (.ref b68), .val (.int (0 : Int32)), .val (.int (-1 : Int32)), .val (.int (0 : Int32)), .val (.int (0 : Int32)), .val (.int u42_S0), .val (.int u48_S0), .unset, .unset] [] := (((k82.iload X75 hx (hb hby at_304) rfl).ifYes X75 hx (hb hby at_306) (XT.i0_eq_t (by decide)) (by decide) (by decide)).iload X75 hx (hb hby at_320) rfl).istore X75 hx (hb hby at_322) rfl
      have k84 : Go p e below m W T75 334 #[.val (.int p1), .val (.int p2), .val (.int p3), .val (.int p4), .val (.int p5), .val (.int (0 : Int32)), .val (.int (0 : Int32)), .val (.int r27), .val (.int r34), .val (.int r38), .val (.int u42_S0), .val (.int u48_S0), .val (.ref b53), .val (.ref b61), .val (.ref b68), .val (.int (0 : Int32)), .val (.int (-1 : Int32)), .val (.int (0 : Int32)), .val (.int (0 : Int32)), .val (.int u42_S0), .val (.int u48_S0), .unset, .unset] [(.int (0 : Int32)), (.ref b68)] := ((((k83.iload X75 hx (hb hby at_324) rfl).iload X75 hx (hb hby at_326) rfl).icmpNo X75 hx (hb hby at_328) (XT.ii_ne_f (by decide))).aload X75 hx (hb hby at_331) rfl rfl).iconst X75 hx (hb hby at_333) (v := (0 : Int32)) rfl
      have k85 : Go p e below m W T75 343 #[.val (.int p1), .val (.int p2), .val (.int p3), .val (.int p4), .val (.int p5), .val (.int (0 : Int32)), .val (.int (0 : Int32)), .val (.int r27), .val (.int r34), .val (.int r38), .val (.int u42_S0), .val (.int u48_S0), .val (.ref b53), .val (.ref b61), .val (.ref b68), .val (.int (0 : Int32)), .val (.int (-1 : Int32)), .val (.int (0 : Int32)), .val (.int (0 : Int32)), .val (.int u42_S0), .val (.int u48_S0), .unset, .unset] [(.int (1 : Int32)), (.ref b68)] := ((((k84.iaload (i := 0) (n := 2) X75 hx hZ e75 q75_0 rfl rfl (by decide) (by decide) rfl (hb hby at_334)).iload X75 hx (hb hby at_335) rfl).icmpNo X75 hx (hb hby at_337) (XT.ii_ne_f rfl)).aload X75 hx (hb hby at_340) rfl rfl).iconst X75 hx (hb hby at_342) (v := (1 : Int32)) rfl
      have k86 : Go p e below m W T75 356 #[.val (.int p1), .val (.int p2), .val (.int p3), .val (.int p4), .val (.int p5), .val (.int (0 : Int32)), .val (.int (0 : Int32)), .val (.int r27), .val (.int r34), .val (.int r38), .val (.int u42_S0), .val (.int u48_S0), .val (.ref b53), .val (.ref b61), .val (.ref b68), .val (.int (0 : Int32)), .val (.int (-1 : Int32)), .val (.int (0 : Int32)), .val (.int (0 : Int32)), .val (.int u42_S0), .val (.int u48_S0), .val (.int (1 : Int32)), .unset] [] := (((((k85.iaload (i := 1) (n := 2) X75 hx hZ e75 q75_0 rfl rfl (by decide) (by decide) rfl (hb hby at_343)).iload X75 hx (hb hby at_344) rfl).icmpNo X75 hx (hb hby at_346) (XT.ii_ne_f rfl)).iconst X75 hx (hb hby at_349) (v := (1 : Int32)) rfl).goto X75 hx (hb hby at_350) (by decide) (by decide)).istore X75 hx (hb hby at_354) rfl
      have k87 : Go p e below m W T75 364 #[.val (.int p1), .val (.int p2), .val (.int p3), .val (.int p4), .val (.int p5), .val (.int (0 : Int32)), .val (.int (0 : Int32)), .val (.int r27), .val (.int r34), .val (.int r38), .val (.int u42_S0), .val (.int u48_S0), .val (.ref b53), .val (.ref b61), .val (.ref b68), .val (.int (0 : Int32)), .val (.int (-1 : Int32)), .val (.int (0 : Int32)), .val (.int (0 : Int32)), .val (.int u42_S0), .val (.int u48_S0), .val (.int (1 : Int32)), .unset] [(.ref b68), (.int r38), (.int p5), (.ref b61)] := (((k86.aload X75 hx (hb hby at_356) rfl rfl).iload X75 hx (hb hby at_358) rfl).iload X75 hx (hb hby at_360) rfl).aload X75 hx (hb hby at_362) rfl rfl
      have g_11 := g_7.keep Kq75 (by simp only [List.mem_cons, List.not_mem_nil, or_false, not_or]; exact g_6)
      have g_12 := g_9.keep Kq75 (by simp only [List.mem_cons, List.not_mem_nil, or_false, not_or]; exact g_8)
      have g_13 := g_10.keep Kq75
      obtain ⟨T88, v88, L88, X88, Q88, k88⟩ := k87.virt (y := (⟨"com/example/enact/enact/FeederAcceleration", "accelerate", "(II[I)Z"⟩ : MethodName)) (z := (⟨"com/example/enact/enact/FeederAcceleration", "accelerate", "(II[I)Z"⟩ : MethodName)) (Wd := 0) (cells' := 5) (slots' := 15) (argsL := [(.int p5), (.int r38), (.ref b68)]) (rest := []) X75 hx hZ hown (by rw [hml]; rfl) (hv 90 rfl) (hv 91 rfl) (notFace_of_selects (args := #[]) (mvT hZ (hv 93 rfl))) (hv 93 rfl) (hv 92 rfl) (hv 94 rfl) (hv 29 rfl) (hb hby at_364) (by decide) (rmac l Z a0 hw [] b61 p5 r38 b68 of_65 okf_65 c68 (-1 : Int32) (-1 : Int32) (-1 : Int32) (-1 : Int32) u42_S0 u48_S0 h75 n0 Z75 g_11 g_12 q75_0 G68 g_8 g_6 hs38 (Or.inl rfl) (Or.inl rfl) (Or.inl rfl) (Or.inl rfl)) e75 g_13 rfl rfl pd_rm0_2 rfl (Nat.le_of_eq rfl) (by decide) (by decide) rfl rfl (by decide) (by decide)
      obtain ⟨ro_88, d0_88, d1_88, rfl, Nq88, Kq88, p88_0, q88_0⟩ := Q88
      have N88 := Fr.app N75 Nq88
      obtain ⟨h88, e88⟩ : ∃ h, T88.heap = h := ⟨_, rfl⟩
      rw [e88] at Kq88 q88_0
      have Z88 : n0 ≤ h88.size := Nat.le_trans Z75 Kq88.1
      have k88 : Go p e below m W T88 367 #[.val (.int p1), .val (.int p2), .val (.int p3), .val (.int p4), .val (.int p5), .val (.int (0 : Int32)), .val (.int (0 : Int32)), .val (.int r27), .val (.int r34), .val (.int r38), .val (.int u42_S0), .val (.int u48_S0), .val (.ref b53), .val (.ref b61), .val (.ref b68), .val (.int (0 : Int32)), .val (.int (-1 : Int32)), .val (.int (0 : Int32)), .val (.int (0 : Int32)), .val (.int u42_S0), .val (.int u48_S0), .val (.int (1 : Int32)), .unset] [(.int ro_88)] := k88
      obtain ⟨ha89, hb89, hc89⟩ := own_accN p88_0 own_sel0
      subst ro_88
      subst d0_88
      subst d1_88
      have k90 : Go p e below m W T88 369 #[.val (.int p1), .val (.int p2), .val (.int p3), .val (.int p4), .val (.int p5), .val (.int (0 : Int32)), .val (.int (0 : Int32)), .val (.int r27), .val (.int r34), .val (.int r38), .val (.int u42_S0), .val (.int u48_S0), .val (.ref b53), .val (.ref b61), .val (.ref b68), .val (.int (0 : Int32)), .val (.int (-1 : Int32)), .val (.int (0 : Int32)), .val (.int (0 : Int32)), .val (.int u42_S0), .val (.int u48_S0), .val (.int (1 : Int32)), .val (.int (0 : Int32))] [] := k88.istore X88 hx (hb hby at_367) rfl
      have k91 : Go p e below m W T88 382 #[.val (.int p1), .val (.int p2), .val (.int p3), .val (.int p4), .val (.int p5), .val (.int (0 : Int32)), .val (.int (0 : Int32)), .val (.int r27), .val (.int r34), .val (.int r38), .val (.int u42_S0), .val (.int u48_S0), .val (.ref b53), .val (.ref b61), .val (.ref b68), .val (.int (0 : Int32)), .val (.int (-1 : Int32)), .val (.int (0 : Int32)), .val (.int (0 : Int32)), .val (.int u42_S0), .val (.int u48_S0), .val (.int (1 : Int32)), .val (.int (0 : Int32))] [(.int (0 : Int32)), (.ref b68)] := (((((k90.iload X88 hx (hb hby at_369) rfl).ifNo X88 hx (hb hby at_371) (XT.i0_eq_f (by decide))).iload X88 hx (hb hby at_374) rfl).ifNo X88 hx (hb hby at_376) (XT.i0_ne_f (by decide))).aload X88 hx (hb hby at_379) rfl rfl).iconst X88 hx (hb hby at_381) (v := (0 : Int32)) rfl
      have k92 : Go p e below m W T88 391 #[.val (.int p1), .val (.int p2), .val (.int p3), .val (.int p4), .val (.int p5), .val (.int (0 : Int32)), .val (.int (0 : Int32)), .val (.int r27), .val (.int r34), .val (.int r38), .val (.int u42_S0), .val (.int u48_S0), .val (.ref b53), .val (.ref b61), .val (.ref b68), .val (.int (0 : Int32)), .val (.int (-1 : Int32)), .val (.int (0 : Int32)), .val (.int (0 : Int32)), .val (.int u42_S0), .val (.int u48_S0), .val (.int (1 : Int32)), .val (.int (0 : Int32))] [(.int (1 : Int32)), (.ref b68)] := ((((k91.iaload (i := 0) (n := 2) X88 hx hZ e88 q88_0 rfl rfl (by decide) (by decide) rfl (hb hby at_382)).iload X88 hx (hb hby at_383) rfl).icmpNo X88 hx (hb hby at_385) (XT.ii_ne_f rfl)).aload X88 hx (hb hby at_388) rfl rfl).iconst X88 hx (hb hby at_390) (v := (1 : Int32)) rfl
      have k93 : Go p e below m W T88 402 #[.val (.int p1), .val (.int p2), .val (.int p3), .val (.int p4), .val (.int p5), .val (.int (0 : Int32)), .val (.int (0 : Int32)), .val (.int r27), .val (.int r34), .val (.int r38), .val (.int u42_S0), .val (.int u48_S0), .val (.ref b53), .val (.ref b61), .val (.ref b68), .val (.int (0 : Int32)), .val (.int (-1 : Int32)), .val (.int (0 : Int32)), .val (.int (0 : Int32)), .val (.int u42_S0), .val (.int u48_S0), .val (.int (1 : Int32)), .val (.int (0 : Int32))] [(.int (1 : Int32))] := ((((k92.iaload (i := 1) (n := 2) X88 hx hZ e88 q88_0 rfl rfl (by decide) (by decide) rfl (hb hby at_391)).iload X88 hx (hb hby at_392) rfl).icmpNo X88 hx (hb hby at_394) (XT.ii_ne_f rfl)).iconst X88 hx (hb hby at_397) (v := (1 : Int32)) rfl).goto X88 hx (hb hby at_398) (by decide) (by decide)
      exact k93.ireturnN X88 hx (t := .boolean) Bd.returns (by simp) rfl (hb hby at_402) (BodyLoose.notSynchronized Bd) (by rw [e88]; exact ⟨rfl, N88⟩) (by decide) (by decide)
    ·
      have k94 : Go p e below m W s₁ 26 #[.val (.int p1), .val (.int p2), .val (.int p3), .val (.int p4), .val (.int p5), .val (.int (0 : Int32)), .val (.int (1 : Int32)), .unset, .unset, .unset, .unset, .unset, .unset, .unset, .unset, .unset, .unset, .unset, .unset, .unset, .unset, .unset, .unset] [] := (((k23.ifNo X0 hx (hb hby at_16) (XT.i0_eq_f hc16_24)).iconst X0 hx (hb hby at_19) (v := (1 : Int32)) rfl).goto X0 hx (hb hby at_20) (by decide) (by decide)).istore X0 hx (hb hby at_24) rfl
      have k95 : Go p e below m W s₁ 35 #[.val (.int p1), .val (.int p2), .val (.int p3), .val (.int p4), .val (.int p5), .val (.int (0 : Int32)), .val (.int (1 : Int32)), .unset, .unset, .unset, .unset, .unset, .unset, .unset, .unset, .unset, .unset, .unset, .unset, .unset, .unset, .unset, .unset] [(.int (((XT.ushr p1 (2 : Int32)) &&& (255 : Int32)) % (4 : Int32)))] := ((((((k94.iloadN X0 hx (hb hby at_26) rfl).iconst X0 hx (hb hby at_27) (v := (2 : Int32)) rfl).iushr X0 hx (hb hby at_28)).sipush X0 hx (hb hby at_29) (v := (255 : Int32)) rfl).iand X0 hx (hb hby at_32)).iconst X0 hx (hb hby at_33) (v := (4 : Int32)) rfl).irem X0 hx (hb hby at_34) (by decide)
      obtain ⟨r96, hr96, hs96⟩ : ∃ r : Int32, r = (((XT.ushr p1 (2 : Int32)) &&& (255 : Int32)) % (4 : Int32)) ∧ (r = (0 : Int32) ∨ r = (1 : Int32) ∨ r = (2 : Int32) ∨ r = (3 : Int32)) := ⟨_, rfl, own_r4 (own_and (by decide))⟩
      have k97 : Go p e below m W s₁ 35 #[.val (.int p1), .val (.int p2), .val (.int p3), .val (.int p4), .val (.int p5), .val (.int (0 : Int32)), .val (.int (1 : Int32)), .unset, .unset, .unset, .unset, .unset, .unset, .unset, .unset, .unset, .unset, .unset, .unset, .unset, .unset, .unset, .unset] [(.int r96)] := hr96 ▸ k95
      clear hr96
      have k98 : Go p e below m W s₁ 37 #[.val (.int p1), .val (.int p2), .val (.int p3), .val (.int p4), .val (.int p5), .val (.int (0 : Int32)), .val (.int (1 : Int32)), .val (.int r96), .unset, .unset, .unset, .unset, .unset, .unset, .unset, .unset, .unset, .unset, .unset, .unset, .unset, .unset, .unset] [] := k97.istore X0 hx (hb hby at_35) rfl
      have k99 : Go p e below m W s₁ 49 #[.val (.int p1), .val (.int p2), .val (.int p3), .val (.int p4), .val (.int p5), .val (.int (0 : Int32)), .val (.int (1 : Int32)), .val (.int r96), .unset, .unset, .unset, .unset, .unset, .unset, .unset, .unset, .unset, .unset, .unset, .unset, .unset, .unset, .unset] [(.int (((XT.ushr p1 (10 : Int32)) &&& (3 : Int32)) % (3 : Int32))), (.int (r96 + (1 : Int32)))] := (((((((((k98.iload X0 hx (hb hby at_37) rfl).iconst X0 hx (hb hby at_39) (v := (1 : Int32)) rfl).iadd X0 hx (hb hby at_40)).iloadN X0 hx (hb hby at_41) rfl).bipush X0 hx (hb hby at_42) (v := (10 : Int32)) rfl).iushr X0 hx (hb hby at_44)).iconst X0 hx (hb hby at_45) (v := (3 : Int32)) rfl).iand X0 hx (hb hby at_46)).iconst X0 hx (hb hby at_47) (v := (3 : Int32)) rfl).irem X0 hx (hb hby at_48) (by decide)
      obtain ⟨r100, hr100, hs100⟩ : ∃ r : Int32, r = (((XT.ushr p1 (10 : Int32)) &&& (3 : Int32)) % (3 : Int32)) ∧ (r = (0 : Int32) ∨ r = (1 : Int32) ∨ r = (2 : Int32)) := ⟨_, rfl, own_r3 (own_and (by decide))⟩
      have k101 : Go p e below m W s₁ 49 #[.val (.int p1), .val (.int p2), .val (.int p3), .val (.int p4), .val (.int p5), .val (.int (0 : Int32)), .val (.int (1 : Int32)), .val (.int r96), .unset, .unset, .unset, .unset, .unset, .unset, .unset, .unset, .unset, .unset, .unset, .unset, .unset, .unset, .unset] [(.int r100), (.int (r96 + (1 : Int32)))] := hr100 ▸ k99
      clear hr100
      have k102 : Go p e below m W s₁ 52 #[.val (.int p1), .val (.int p2), .val (.int p3), .val (.int p4), .val (.int p5), .val (.int (0 : Int32)), .val (.int (1 : Int32)), .val (.int r96), .unset, .unset, .unset, .unset, .unset, .unset, .unset, .unset, .unset, .unset, .unset, .unset, .unset, .unset, .unset] [(.int (((r96 + (1 : Int32)) + r100) % (4 : Int32)))] := ((k101.iadd X0 hx (hb hby at_49)).iconst X0 hx (hb hby at_50) (v := (4 : Int32)) rfl).irem X0 hx (hb hby at_51) (by decide)
      obtain ⟨r103, hr103, hs103⟩ : ∃ r : Int32, r = (((r96 + (1 : Int32)) + r100) % (4 : Int32)) ∧ ((r = (0 : Int32) ∨ r = (1 : Int32) ∨ r = (2 : Int32) ∨ r = (3 : Int32)) ∧ ¬ (r = r96)) := ⟨_, rfl, own_f1 hs96 hs100⟩
      have k104 : Go p e below m W s₁ 52 #[.val (.int p1), .val (.int p2), .val (.int p3), .val (.int p4), .val (.int p5), .val (.int (0 : Int32)), .val (.int (1 : Int32)), .val (.int r96), .unset, .unset, .unset, .unset, .unset, .unset, .unset, .unset, .unset, .unset, .unset, .unset, .unset, .unset, .unset] [(.int r103)] := hr103 ▸ k102
      clear hr103
      have k105 : Go p e below m W s₁ 54 #[.val (.int p1), .val (.int p2), .val (.int p3), .val (.int p4), .val (.int p5), .val (.int (0 : Int32)), .val (.int (1 : Int32)), .val (.int r96), .val (.int r103), .unset, .unset, .unset, .unset, .unset, .unset, .unset, .unset, .unset, .unset, .unset, .unset, .unset, .unset] [] := k104.istore X0 hx (hb hby at_52) rfl
      have k106 : Go p e below m W s₁ 60 #[.val (.int p1), .val (.int p2), .val (.int p3), .val (.int p4), .val (.int p5), .val (.int (0 : Int32)), .val (.int (1 : Int32)), .val (.int r96), .val (.int r103), .unset, .unset, .unset, .unset, .unset, .unset, .unset, .unset, .unset, .unset, .unset, .unset, .unset, .unset] [(.int ((p2 &&& (2147483647 : Int32)) % (4 : Int32)))] := ((((k105.iloadN X0 hx (hb hby at_54) rfl).ldcI X0 hx hZ hown (hv 0 rfl) (hb hby at_55)).iand X0 hx (hb hby at_57)).iconst X0 hx (hb hby at_58) (v := (4 : Int32)) rfl).irem X0 hx (hb hby at_59) (by decide)
      obtain ⟨r107, hr107, hs107⟩ : ∃ r : Int32, r = ((p2 &&& (2147483647 : Int32)) % (4 : Int32)) ∧ (r = (0 : Int32) ∨ r = (1 : Int32) ∨ r = (2 : Int32) ∨ r = (3 : Int32)) := ⟨_, rfl, own_r4 (own_mask p2)⟩
      have k108 : Go p e below m W s₁ 60 #[.val (.int p1), .val (.int p2), .val (.int p3), .val (.int p4), .val (.int p5), .val (.int (0 : Int32)), .val (.int (1 : Int32)), .val (.int r96), .val (.int r103), .unset, .unset, .unset, .unset, .unset, .unset, .unset, .unset, .unset, .unset, .unset, .unset, .unset, .unset] [(.int r107)] := hr107 ▸ k106
      clear hr107
      have k109 : Go p e below m W s₁ 62 #[.val (.int p1), .val (.int p2), .val (.int p3), .val (.int p4), .val (.int p5), .val (.int (0 : Int32)), .val (.int (1 : Int32)), .val (.int r96), .val (.int r103), .val (.int r107), .unset, .unset, .unset, .unset, .unset, .unset, .unset, .unset, .unset, .unset, .unset, .unset, .unset] [] := k108.istore X0 hx (hb hby at_60) rfl
      have k110 : Go p e below m W s₁ 67 #[.val (.int p1), .val (.int p2), .val (.int p3), .val (.int p4), .val (.int p5), .val (.int (0 : Int32)), .val (.int (1 : Int32)), .val (.int r96), .val (.int r103), .val (.int r107), .unset, .unset, .unset, .unset, .unset, .unset, .unset, .unset, .unset, .unset, .unset, .unset, .unset] [(.int (p1 &&& (4096 : Int32)))] := ((k109.iloadN X0 hx (hb hby at_62) rfl).sipush X0 hx (hb hby at_63) (v := (4096 : Int32)) rfl).iand X0 hx (hb hby at_66)
      obtain ⟨u111_S0, hd111, k111⟩ : ∃ (u111_S0 : Int32), ((((p1 &&& (4096 : Int32)) = (0 : Int32)) ∧ u111_S0 = (p3 &&& (2147483647 : Int32))) ∨ ((¬ ((p1 &&& (4096 : Int32)) = (0 : Int32))) ∧ u111_S0 = (2147483647 : Int32))) ∧ Go p e below m W s₁ 79 #[.val (.int p1), .val (.int p2), .val (.int p3), .val (.int p4), .val (.int p5), .val (.int (0 : Int32)), .val (.int (1 : Int32)), .val (.int r96), .val (.int r103), .val (.int r107), .unset, .unset, .unset, .unset, .unset, .unset, .unset, .unset, .unset, .unset, .unset, .unset, .unset] [(.int u111_S0)] := by
        by_cases hc67_112 : (p1 &&& (4096 : Int32)) = (0 : Int32)
        ·
          have k113 : Go p e below m W s₁ 79 #[.val (.int p1), .val (.int p2), .val (.int p3), .val (.int p4), .val (.int p5), .val (.int (0 : Int32)), .val (.int (1 : Int32)), .val (.int r96), .val (.int r103), .val (.int r107), .unset, .unset, .unset, .unset, .unset, .unset, .unset, .unset, .unset, .unset, .unset, .unset, .unset] [(.int (p3 &&& (2147483647 : Int32)))] := (((k110.ifYes X0 hx (hb hby at_67) (XT.i0_eq_t hc67_112) (by decide) (by decide)).iloadN X0 hx (hb hby at_75) rfl).ldcI X0 hx hZ hown (hv 0 rfl) (hb hby at_76)).iand X0 hx (hb hby at_78)
          exact ⟨(p3 &&& (2147483647 : Int32)), (Or.inl ⟨hc67_112, rfl⟩), k113⟩
        ·
          have k114 : Go p e below m W s₁ 79 #[.val (.int p1), .val (.int p2), .val (.int p3), .val (.int p4), .val (.int p5), .val (.int (0 : Int32)), .val (.int (1 : Int32)), .val (.int r96), .val (.int r103), .val (.int r107), .unset, .unset, .unset, .unset, .unset, .unset, .unset, .unset, .unset, .unset, .unset, .unset, .unset] [(.int (2147483647 : Int32))] := ((k110.ifNo X0 hx (hb hby at_67) (XT.i0_eq_f hc67_112)).ldcI X0 hx hZ hown (hv 0 rfl) (hb hby at_70)).goto X0 hx (hb hby at_72) (by decide) (by decide)
          exact ⟨(2147483647 : Int32), (Or.inr ⟨hc67_112, rfl⟩), k114⟩
      have k115 : Go p e below m W s₁ 81 #[.val (.int p1), .val (.int p2), .val (.int p3), .val (.int p4), .val (.int p5), .val (.int (0 : Int32)), .val (.int (1 : Int32)), .val (.int r96), .val (.int r103), .val (.int r107), .val (.int u111_S0), .unset, .unset, .unset, .unset, .unset, .unset, .unset, .unset, .unset, .unset, .unset, .unset] [] := k111.istore X0 hx (hb hby at_79) rfl
      have k116 : Go p e below m W s₁ 86 #[.val (.int p1), .val (.int p2), .val (.int p3), .val (.int p4), .val (.int p5), .val (.int (0 : Int32)), .val (.int (1 : Int32)), .val (.int r96), .val (.int r103), .val (.int r107), .val (.int u111_S0), .unset, .unset, .unset, .unset, .unset, .unset, .unset, .unset, .unset, .unset, .unset, .unset] [(.int (p1 &&& (8192 : Int32)))] := ((k115.iloadN X0 hx (hb hby at_81) rfl).sipush X0 hx (hb hby at_82) (v := (8192 : Int32)) rfl).iand X0 hx (hb hby at_85)
      obtain ⟨u117_S0, hd117, k117⟩ : ∃ (u117_S0 : Int32), ((((p1 &&& (8192 : Int32)) = (0 : Int32)) ∧ u117_S0 = (p4 &&& (2147483647 : Int32))) ∨ ((¬ ((p1 &&& (8192 : Int32)) = (0 : Int32))) ∧ u117_S0 = (2147483647 : Int32))) ∧ Go p e below m W s₁ 98 #[.val (.int p1), .val (.int p2), .val (.int p3), .val (.int p4), .val (.int p5), .val (.int (0 : Int32)), .val (.int (1 : Int32)), .val (.int r96), .val (.int r103), .val (.int r107), .val (.int u111_S0), .unset, .unset, .unset, .unset, .unset, .unset, .unset, .unset, .unset, .unset, .unset, .unset] [(.int u117_S0)] := by
        by_cases hc86_118 : (p1 &&& (8192 : Int32)) = (0 : Int32)
        ·
          have k119 : Go p e below m W s₁ 98 #[.val (.int p1), .val (.int p2), .val (.int p3), .val (.int p4), .val (.int p5), .val (.int (0 : Int32)), .val (.int (1 : Int32)), .val (.int r96), .val (.int r103), .val (.int r107), .val (.int u111_S0), .unset, .unset, .unset, .unset, .unset, .unset, .unset, .unset, .unset, .unset, .unset, .unset] [(.int (p4 &&& (2147483647 : Int32)))] := (((k116.ifYes X0 hx (hb hby at_86) (XT.i0_eq_t hc86_118) (by decide) (by decide)).iloadN X0 hx (hb hby at_94) rfl).ldcI X0 hx hZ hown (hv 0 rfl) (hb hby at_95)).iand X0 hx (hb hby at_97)
          exact ⟨(p4 &&& (2147483647 : Int32)), (Or.inl ⟨hc86_118, rfl⟩), k119⟩
        ·
          have k120 : Go p e below m W s₁ 98 #[.val (.int p1), .val (.int p2), .val (.int p3), .val (.int p4), .val (.int p5), .val (.int (0 : Int32)), .val (.int (1 : Int32)), .val (.int r96), .val (.int r103), .val (.int r107), .val (.int u111_S0), .unset, .unset, .unset, .unset, .unset, .unset, .unset, .unset, .unset, .unset, .unset, .unset] [(.int (2147483647 : Int32))] := ((k116.ifNo X0 hx (hb hby at_86) (XT.i0_eq_f hc86_118)).ldcI X0 hx hZ hown (hv 0 rfl) (hb hby at_89)).goto X0 hx (hb hby at_91) (by decide) (by decide)
          exact ⟨(2147483647 : Int32), (Or.inr ⟨hc86_118, rfl⟩), k120⟩
      have k121 : Go p e below m W s₁ 100 #[.val (.int p1), .val (.int p2), .val (.int p3), .val (.int p4), .val (.int p5), .val (.int (0 : Int32)), .val (.int (1 : Int32)), .val (.int r96), .val (.int r103), .val (.int r107), .val (.int u111_S0), .val (.int u117_S0), .unset, .unset, .unset, .unset, .unset, .unset, .unset, .unset, .unset, .unset, .unset] [] := k117.istore X0 hx (hb hby at_98) rfl
      obtain ⟨T122, h122, b122, X122, e122, g122, E122, A122, D122, k122⟩ := k121.newO (cells' := 1) (slots' := 3) X0 hx hZ hown (hv 1 rfl) (hv 2 rfl) (hv 3 rfl) e0 (hb hby at_100) rfl rfl (by decide) (by decide)
      have k122 : Go p e below m W T122 103 #[.val (.int p1), .val (.int p2), .val (.int p3), .val (.int p4), .val (.int p5), .val (.int (0 : Int32)), .val (.int (1 : Int32)), .val (.int r96), .val (.int r103), .val (.int r107), .val (.int u111_S0), .val (.int u117_S0), .unset, .unset, .unset, .unset, .unset, .unset, .unset, .unset, .unset, .unset, .unset] [(.ref b122)] := k122
      have Z122 : n0 ≤ h122.size := Nat.le_trans Z0 E122.1
      have G122 : n0 ≤ b122 := g122 ▸ Z0
      have f123 : Fld Z h122 b122 "java/util/AbstractList" "modCount" "I" (.int (0 : Int32)) := D122 (Or.inl (hv 23 rfl)) (ty := .int) (by decide)
      have f124 : Fld Z h122 b122 "java/util/ArrayList" "elementData" "[Ljava/lang/Object;" .null := D122 (Or.inl (hv 26 rfl)) (ty := (.array (.object "java/lang/Object"))) (by decide)
      have f125 : Fld Z h122 b122 "java/util/ArrayList" "size" "I" (.int (0 : Int32)) := D122 (Or.inl (hv 78 rfl)) (ty := .int) (by decide)
      have k126 : Go p e below m W T122 104 #[.val (.int p1), .val (.int p2), .val (.int p3), .val (.int p4), .val (.int p5), .val (.int (0 : Int32)), .val (.int (1 : Int32)), .val (.int r96), .val (.int r103), .val (.int r107), .val (.int u111_S0), .val (.int u117_S0), .unset, .unset, .unset, .unset, .unset, .unset, .unset, .unset, .unset, .unset, .unset] [(.ref b122), (.ref b122)] := k122.dup X122 hx (hb hby at_103) rfl
      have g_14 := O0.ext E122
      obtain ⟨T127, v127, L127, X127, Q127, k127⟩ := k126.spec (y := (⟨"java/util/ArrayList", "<init>", "()V"⟩ : MethodName)) (b := b122) (Wd := 1) (cells' := 1) (slots' := 3) (argsL := []) (rest := [(.ref b122)]) X122 hx hZ hown (by rw [hml]; rfl) rfl (hv 4 rfl) (hv 5 rfl) (hv 6 rfl) (hv 3 rfl) (hb hby at_104) (by decide) (rmar l Z a0 hw [] b122 de (.int (0 : Int32)) .null h122 n0 Z122 g_14 SD A122 G122 f123 f124 f125) e122 rfl rfl pd_rmal_0 rfl (Nat.le_of_eq rfl) (by decide) (by decide) rfl rfl (by decide) (by decide)
      obtain ⟨rfl, Nq127, Kq127, q127_0, q127_1, q127_2, q127_3⟩ := Q127
      have N127 := Fr.app N0 Nq127
      obtain ⟨h127, e127⟩ : ∃ h, T127.heap = h := ⟨_, rfl⟩
      rw [e127] at Kq127 q127_0 q127_1 q127_2 q127_3
      have Z127 : n0 ≤ h127.size := Nat.le_trans Z122 Kq127.1
      have k127 : Go p e below m W T127 107 #[.val (.int p1), .val (.int p2), .val (.int p3), .val (.int p4), .val (.int p5), .val (.int (0 : Int32)), .val (.int (1 : Int32)), .val (.int r96), .val (.int r103), .val (.int r107), .val (.int u111_S0), .val (.int u117_S0), .unset, .unset, .unset, .unset, .unset, .unset, .unset, .unset, .unset, .unset, .unset] [(.ref b122)] := k127
      have k128 : Go p e below m W T127 109 #[.val (.int p1), .val (.int p2), .val (.int p3), .val (.int p4), .val (.int p5), .val (.int (0 : Int32)), .val (.int (1 : Int32)), .val (.int r96), .val (.int r103), .val (.int r107), .val (.int u111_S0), .val (.int u117_S0), .val (.ref b122), .unset, .unset, .unset, .unset, .unset, .unset, .unset, .unset, .unset, .unset] [] := k127.astore X127 hx (hb hby at_107) rfl rfl
      have k129 : Go p e below m W T127 145 #[.val (.int p1), .val (.int p2), .val (.int p3), .val (.int p4), .val (.int p5), .val (.int (0 : Int32)), .val (.int (1 : Int32)), .val (.int r96), .val (.int r103), .val (.int r107), .val (.int u111_S0), .val (.int u117_S0), .val (.ref b122), .unset, .unset, .unset, .unset, .unset, .unset, .unset, .unset, .unset, .unset] [(.ref b122)] := ((((k128.iload X127 hx (hb hby at_109) rfl).ifYes X127 hx (hb hby at_111) (XT.i0_eq_t (by decide)) (by decide) (by decide)).iload X127 hx (hb hby at_138) rfl).ifNo X127 hx (hb hby at_140) (XT.i0_eq_f (by decide))).aload X127 hx (hb hby at_143) rfl rfl
      obtain ⟨T130, h130, b130, X130, e130, g130, E130, A130, D130, k130⟩ := k129.newO (cells' := 2) (slots' := 6) X127 hx hZ hown (hv 95 rfl) (hv 96 rfl) (hv 97 rfl) e127 (hb hby at_145) rfl rfl (by decide) (by decide)
      have k130 : Go p e below m W T130 148 #[.val (.int p1), .val (.int p2), .val (.int p3), .val (.int p4), .val (.int p5), .val (.int (0 : Int32)), .val (.int (1 : Int32)), .val (.int r96), .val (.int r103), .val (.int r107), .val (.int u111_S0), .val (.int u117_S0), .val (.ref b122), .unset, .unset, .unset, .unset, .unset, .unset, .unset, .unset, .unset, .unset] [(.ref b130), (.ref b122)] := k130
      have Z130 : n0 ≤ h130.size := Nat.le_trans Z127 E130.1
      have G130 : n0 ≤ b130 := g130 ▸ Z127
      have f131 : Fld Z h130 b130 "com/example/enact/enact/Classification$Flat" "place" "I" (.int (0 : Int32)) := D130 (Or.inr (hv 108 rfl)) (ty := .int) (by decide)
      have f132 : Fld Z h130 b130 "com/example/enact/enact/Classification$Flat" "feeder" "I" (.int (0 : Int32)) := D130 (Or.inr (hv 110 rfl)) (ty := .int) (by decide)
      have f133 : Fld Z h130 b130 "com/example/enact/enact/Classification$Flat" "drainer" "I" (.int (0 : Int32)) := D130 (Or.inr (hv 112 rfl)) (ty := .int) (by decide)
      have k134 : Go p e below m W T130 158 #[.val (.int p1), .val (.int p2), .val (.int p3), .val (.int p4), .val (.int p5), .val (.int (0 : Int32)), .val (.int (1 : Int32)), .val (.int r96), .val (.int r103), .val (.int r107), .val (.int u111_S0), .val (.int u117_S0), .val (.ref b122), .unset, .unset, .unset, .unset, .unset, .unset, .unset, .unset, .unset, .unset] [(.int ((r103 + (2 : Int32)) % (4 : Int32))), (.int r103), (.int (1 : Int32)), (.ref b130), (.ref b130), (.ref b122)] := (((((((k130.dup X130 hx (hb hby at_148) rfl).iconst X130 hx (hb hby at_149) (v := (1 : Int32)) rfl).iload X130 hx (hb hby at_150) rfl).iload X130 hx (hb hby at_152) rfl).iconst X130 hx (hb hby at_154) (v := (2 : Int32)) rfl).iadd X130 hx (hb hby at_155)).iconst X130 hx (hb hby at_156) (v := (4 : Int32)) rfl).irem X130 hx (hb hby at_157) (by decide)
      obtain ⟨T135, v135, L135, X135, Q135, k135⟩ := k134.spec (y := (⟨"com/example/enact/enact/Classification$Flat", "<init>", "(III)V"⟩ : MethodName)) (b := b130) (Wd := 2) (cells' := 2) (slots' := 6) (argsL := [(.int (1 : Int32)), (.int r103), (.int ((r103 + (2 : Int32)) % (4 : Int32)))]) (rest := [(.ref b130), (.ref b122)]) X130 hx hZ hown (by rw [hml]; rfl) rfl (hv 98 rfl) (hv 99 rfl) (hv 100 rfl) (hv 97 rfl) (hb hby at_158) (by decide) (rmfl l Z a0 hw [] b130 (1 : Int32) r103 ((r103 + (2 : Int32)) % (4 : Int32)) (.int (0 : Int32)) (.int (0 : Int32)) (.int (0 : Int32)) h130 n0 Z130 A130 G130 f131 f132 f133) e130 rfl rfl pd_rm0_3 rfl (Nat.le_of_eq rfl) (by decide) (by decide) rfl rfl (by decide) (by decide)
      obtain ⟨rfl, Nq135, Kq135, q135_0, q135_1, q135_2⟩ := Q135
      have N135 := Fr.app N127 Nq135
      obtain ⟨h135, e135⟩ : ∃ h, T135.heap = h := ⟨_, rfl⟩
      rw [e135] at Kq135 q135_0 q135_1 q135_2
      have Z135 : n0 ≤ h135.size := Nat.le_trans Z130 Kq135.1
      have k135 : Go p e below m W T135 161 #[.val (.int p1), .val (.int p2), .val (.int p3), .val (.int p4), .val (.int p5), .val (.int (0 : Int32)), .val (.int (1 : Int32)), .val (.int r96), .val (.int r103), .val (.int r107), .val (.int u111_S0), .val (.int u117_S0), .val (.ref b122), .unset, .unset, .unset, .unset, .unset, .unset, .unset, .unset, .unset, .unset] [(.ref b130), (.ref b122)] := k135
      have g_15 := ((g_14.keep Kq127 (by intro x q; simp only [List.mem_cons, List.not_mem_nil, or_false] at q; rcases q with rfl; exact G122)).ext E130).keep Kq135 (by intro x q; simp only [List.mem_cons, List.not_mem_nil, or_false] at q; rcases q with rfl; exact G130)
      have g_16 := (q127_0.ext E130).keep Kq135
      have g_17 := (show b122 ≠ b130 from Nat.ne_of_lt (g130 ▸ q127_0.lt))
      have g_18 := (q127_1.ext E130).keep Kq135 (by simp only [List.mem_cons, List.not_mem_nil, or_false, not_or]; exact g_17)
      have g_19 := (q127_2.ext E130).keep Kq135 (by simp only [List.mem_cons, List.not_mem_nil, or_false, not_or]; exact g_17)
      have g_20 := (q127_3.ext E130).keep Kq135 (by simp only [List.mem_cons, List.not_mem_nil, or_false, not_or]; exact g_17)
      obtain ⟨T136, v136, L136, X136, Q136, k136⟩ := k135.iface (y := (⟨"java/util/List", "add", "(Ljava/lang/Object;)Z"⟩ : MethodName)) (z := (⟨"java/util/ArrayList", "add", "(Ljava/lang/Object;)Z"⟩ : MethodName)) (Wd := 0) (cells' := 3) (slots' := 16) (argsL := [(.ref b130)]) (rest := []) X135 hx hZ hown (by rw [hml]; rfl) (hv 113 rfl) (hv 114 rfl) (mvT hZ (hv 115 rfl)) (hv 116 rfl) (hv 117 rfl) (hv 118 rfl) (hv 119 rfl) (hv 48 rfl) (hv 120 rfl) (hv 3 rfl) (hb hby at_161) (by decide) (rma0 l Z a0 hw [] b122 de kd b130 h135 n0 Z135 g_15 SD VD q135_0 g_16 G122 g_18 g_19 g_20) e135 g_16 rfl rfl pd_rm0_4 rfl (Nat.le_of_eq rfl) (by decide) (by decide) rfl rfl (by decide) (by decide)
      obtain ⟨ob_136, ok_136, rfl, Nq136, Kq136, q136_0, q136_1, q136_2, q136_3, q136_4, q136_5, q136_6, q136_7, q136_8⟩ := Q136
      have N136 := Fr.app N135 Nq136
      obtain ⟨h136, e136⟩ : ∃ h, T136.heap = h := ⟨_, rfl⟩
      rw [e136] at Kq136 q136_0 q136_1 q136_2 q136_3 q136_4
      have Z136 : n0 ≤ h136.size := Nat.le_trans Z135 Kq136.1
      have k136 : Go p e below m W T136 166 #[.val (.int p1), .val (.int p2), .val (.int p3), .val (.int p4), .val (.int p5), .val (.int (0 : Int32)), .val (.int (1 : Int32)), .val (.int r96), .val (.int r103), .val (.int r107), .val (.int u111_S0), .val (.int u117_S0), .val (.ref b122), .unset, .unset, .unset, .unset, .unset, .unset, .unset, .unset, .unset, .unset] [(.int (1 : Int32))] := k136
      have k137 : Go p e below m W T136 167 #[.val (.int p1), .val (.int p2), .val (.int p3), .val (.int p4), .val (.int p5), .val (.int (0 : Int32)), .val (.int (1 : Int32)), .val (.int r96), .val (.int r103), .val (.int r107), .val (.int u111_S0), .val (.int u117_S0), .val (.ref b122), .unset, .unset, .unset, .unset, .unset, .unset, .unset, .unset, .unset, .unset] [] := k136.pop X136 hx (hb hby at_166) rfl
      obtain ⟨T138, h138, b138, X138, e138, g138, E138, A138, D138, k138⟩ := k137.newO (cells' := 4) (slots' := 18) X136 hx hZ hown (hv 27 rfl) (hv 28 rfl) (hv 29 rfl) e136 (hb hby at_167) rfl rfl (by decide) (by decide)
      have k138 : Go p e below m W T138 170 #[.val (.int p1), .val (.int p2), .val (.int p3), .val (.int p4), .val (.int p5), .val (.int (0 : Int32)), .val (.int (1 : Int32)), .val (.int r96), .val (.int r103), .val (.int r107), .val (.int u111_S0), .val (.int u117_S0), .val (.ref b122), .unset, .unset, .unset, .unset, .unset, .unset, .unset, .unset, .unset, .unset] [(.ref b138)] := k138
      have Z138 : n0 ≤ h138.size := Nat.le_trans Z136 E138.1
      have G138 : n0 ≤ b138 := g138 ▸ Z136
      have f139 : Fld Z h138 b138 "com/example/enact/enact/FeederAcceleration" "fed" "[I" .null := D138 (Or.inr (hv 36 rfl)) (ty := (.array .int)) (by decide)
      have f140 : Fld Z h138 b138 "com/example/enact/enact/FeederAcceleration" "accelerates" "Z" (.int (0 : Int32)) := D138 (Or.inr (hv 89 rfl)) (ty := .boolean) (by decide)
      have k141 : Go p e below m W T138 174 #[.val (.int p1), .val (.int p2), .val (.int p3), .val (.int p4), .val (.int p5), .val (.int (0 : Int32)), .val (.int (1 : Int32)), .val (.int r96), .val (.int r103), .val (.int r107), .val (.int u111_S0), .val (.int u117_S0), .val (.ref b122), .unset, .unset, .unset, .unset, .unset, .unset, .unset, .unset, .unset, .unset] [(.ref b122), (.int (4 : Int32)), (.ref b138), (.ref b138)] := ((k138.dup X138 hx (hb hby at_170) rfl).iconst X138 hx (hb hby at_171) (v := (4 : Int32)) rfl).aload X138 hx (hb hby at_172) rfl rfl
      have g_21 := q136_0.ext E138
      have g_22 := q136_1.ext E138
      have g_23 := q136_3.ext E138
      have g_24 := q136_2.ext E138
      have g_25 := q136_4.ext E138
      have g_26 := (show ob_136 ≠ b138 from Nat.ne_of_lt (g138 ▸ q136_4.lt))
      have g_27 := (show b122 ≠ b138 from Nat.ne_of_lt (g138 ▸ q136_0.lt))
      have g_28 := (q135_0.keep Kq136).ext E138
      have g_29 := (q135_1.keep Kq136 (by simp only [List.mem_cons, List.not_mem_nil, or_false, not_or]; exact (Ne.symm g_17))).ext E138
      have g_30 := (q135_2.keep Kq136 (by simp only [List.mem_cons, List.not_mem_nil, or_false, not_or]; exact (Ne.symm g_17))).ext E138
      have g_31 := q135_0.keep Kq136
      have g_32 := (show b130 ≠ b138 from Nat.ne_of_lt (g138 ▸ g_31.lt))
      obtain ⟨T142, v142, L142, X142, Q142, k142⟩ := k141.spec (y := (⟨"com/example/enact/enact/FeederAcceleration", "<init>", "(ILjava/util/List;)V"⟩ : MethodName)) (b := b138) (Wd := 1) (cells' := 6) (slots' := 26) (argsL := [(.int (4 : Int32)), (.ref b122)]) (rest := [(.ref b138)]) X138 hx hZ hown (by rw [hml]; rfl) rfl (hv 30 rfl) (hv 31 rfl) (hv 32 rfl) (hv 29 rfl) (hb hby at_174) (by decide) (rmfa1 l Z a0 hw [] b138 b122 .null (.int (0 : Int32)) ob_136 ok_136 b130 r103 (1 : Int32) h138 n0 Z138 A138 G138 f139 f140 g_21 g_22 g_23 g_24 g_25 g_26 g_27 g_28 g_29 g_30 hs103.1 g_32) e138 rfl rfl pd_rm0_1 rfl (Nat.le_of_eq rfl) (by decide) (by decide) rfl rfl (by decide) (by decide)
      obtain ⟨of_142, okf_142, rfl, Nq142, Kq142, q142_0, q142_1, q142_2, q142_3, q142_4, q142_5⟩ := Q142
      have N142 := Fr.app N136 Nq142
      obtain ⟨h142, e142⟩ : ∃ h, T142.heap = h := ⟨_, rfl⟩
      rw [e142] at Kq142 q142_0 q142_1 q142_2
      have Z142 : n0 ≤ h142.size := Nat.le_trans Z138 Kq142.1
      have k142 : Go p e below m W T142 177 #[.val (.int p1), .val (.int p2), .val (.int p3), .val (.int p4), .val (.int p5), .val (.int (0 : Int32)), .val (.int (1 : Int32)), .val (.int r96), .val (.int r103), .val (.int r107), .val (.int u111_S0), .val (.int u117_S0), .val (.ref b122), .unset, .unset, .unset, .unset, .unset, .unset, .unset, .unset, .unset, .unset] [(.ref b138)] := k142
      have k143 : Go p e below m W T142 179 #[.val (.int p1), .val (.int p2), .val (.int p3), .val (.int p4), .val (.int p5), .val (.int (0 : Int32)), .val (.int (1 : Int32)), .val (.int r96), .val (.int r103), .val (.int r107), .val (.int u111_S0), .val (.int u117_S0), .val (.ref b122), .val (.ref b138), .unset, .unset, .unset, .unset, .unset, .unset, .unset, .unset, .unset] [] := k142.astore X142 hx (hb hby at_177) rfl rfl
      have k144 : Go p e below m W T142 180 #[.val (.int p1), .val (.int p2), .val (.int p3), .val (.int p4), .val (.int p5), .val (.int (0 : Int32)), .val (.int (1 : Int32)), .val (.int r96), .val (.int r103), .val (.int r107), .val (.int u111_S0), .val (.int u117_S0), .val (.ref b122), .val (.ref b138), .unset, .unset, .unset, .unset, .unset, .unset, .unset, .unset, .unset] [(.int (2 : Int32))] := k143.iconst X142 hx (hb hby at_179) (v := (2 : Int32)) rfl
      obtain ⟨T145, h145, b145, c145, X145, e145, g145, E145, A145, k145⟩ := k144.newP (cap := 2) (cells' := 7) (slots' := 28) X142 hx hZ (hv 34 rfl) e142 (hb hby at_180) (by decide) (by decide) (by decide) rfl rfl (by decide) (by decide)
      have k145 : Go p e below m W T145 182 #[.val (.int p1), .val (.int p2), .val (.int p3), .val (.int p4), .val (.int p5), .val (.int (0 : Int32)), .val (.int (1 : Int32)), .val (.int r96), .val (.int r103), .val (.int r107), .val (.int u111_S0), .val (.int u117_S0), .val (.ref b122), .val (.ref b138), .unset, .unset, .unset, .unset, .unset, .unset, .unset, .unset, .unset] [(.ref b145)] := k145
      have Z145 : n0 ≤ h145.size := Nat.le_trans Z142 E145.1
      have G145 : n0 ≤ b145 := g145 ▸ Z142
      have V145 : Arv Z h145 b145 c145 .int (2 : Int32) [(.int (0 : Int32)), (.int (0 : Int32))] (.int (0 : Int32)) := A145 2
      have k146 : Go p e below m W T145 186 #[.val (.int p1), .val (.int p2), .val (.int p3), .val (.int p4), .val (.int p5), .val (.int (0 : Int32)), .val (.int (1 : Int32)), .val (.int r96), .val (.int r103), .val (.int r107), .val (.int u111_S0), .val (.int u117_S0), .val (.ref b122), .val (.ref b138), .unset, .unset, .unset, .unset, .unset, .unset, .unset, .unset, .unset] [(.int u111_S0), (.int (0 : Int32)), (.ref b145), (.ref b145)] := ((k145.dup X145 hx (hb hby at_182) rfl).iconst X145 hx (hb hby at_183) (v := (0 : Int32)) rfl).iload X145 hx (hb hby at_184) rfl
      obtain ⟨T147, h147, l147, X147, e147, W147, V147, N147, k147⟩ := k146.iastore (i := 0) X145 hx hZ e145 V145 rfl rfl (by decide) (Nat.le_of_ble_eq_true rfl) N142 G145 (hb hby at_186)
      have k147 : Go p e below m W T147 187 #[.val (.int p1), .val (.int p2), .val (.int p3), .val (.int p4), .val (.int p5), .val (.int (0 : Int32)), .val (.int (1 : Int32)), .val (.int r96), .val (.int r103), .val (.int r107), .val (.int u111_S0), .val (.int u117_S0), .val (.ref b122), .val (.ref b138), .unset, .unset, .unset, .unset, .unset, .unset, .unset, .unset, .unset] [(.ref b145)] := k147
      have Z147 : n0 ≤ h147.size := (Wr.size W147).symm ▸ Z145
      have V147 : Arv Z h147 b145 c145 .int (2 : Int32) [(.int u111_S0), (.int (0 : Int32))] (.int (0 : Int32)) := V147
      have k148 : Go p e below m W T147 191 #[.val (.int p1), .val (.int p2), .val (.int p3), .val (.int p4), .val (.int p5), .val (.int (0 : Int32)), .val (.int (1 : Int32)), .val (.int r96), .val (.int r103), .val (.int r107), .val (.int u111_S0), .val (.int u117_S0), .val (.ref b122), .val (.ref b138), .unset, .unset, .unset, .unset, .unset, .unset, .unset, .unset, .unset] [(.int u117_S0), (.int (1 : Int32)), (.ref b145), (.ref b145)] := ((k147.dup X147 hx (hb hby at_187) rfl).iconst X147 hx (hb hby at_188) (v := (1 : Int32)) rfl).iload X147 hx (hb hby at_189) rfl
      obtain ⟨T149, h149, l149, X149, e149, W149, V149, N149, k149⟩ := k148.iastore (i := 1) X147 hx hZ e147 V147 rfl rfl (by decide) (Nat.le_of_ble_eq_true rfl) N147 G145 (hb hby at_191)
      have k149 : Go p e below m W T149 192 #[.val (.int p1), .val (.int p2), .val (.int p3), .val (.int p4), .val (.int p5), .val (.int (0 : Int32)), .val (.int (1 : Int32)), .val (.int r96), .val (.int r103), .val (.int r107), .val (.int u111_S0), .val (.int u117_S0), .val (.ref b122), .val (.ref b138), .unset, .unset, .unset, .unset, .unset, .unset, .unset, .unset, .unset] [(.ref b145)] := k149
      have Z149 : n0 ≤ h149.size := (Wr.size W149).symm ▸ Z147
      have V149 : Arv Z h149 b145 c145 .int (2 : Int32) [(.int u111_S0), (.int u117_S0)] (.int (0 : Int32)) := V149
      have k150 : Go p e below m W T149 194 #[.val (.int p1), .val (.int p2), .val (.int p3), .val (.int p4), .val (.int p5), .val (.int (0 : Int32)), .val (.int (1 : Int32)), .val (.int r96), .val (.int r103), .val (.int r107), .val (.int u111_S0), .val (.int u117_S0), .val (.ref b122), .val (.ref b138), .val (.ref b145), .unset, .unset, .unset, .unset, .unset, .unset, .unset, .unset] [] := k149.astore X149 hx (hb hby at_192) rfl rfl
      have k151 : Go p e below m W T149 202 #[.val (.int p1), .val (.int p2), .val (.int p3), .val (.int p4), .val (.int p5), .val (.int (0 : Int32)), .val (.int (1 : Int32)), .val (.int r96), .val (.int r103), .val (.int r107), .val (.int u111_S0), .val (.int u117_S0), .val (.ref b122), .val (.ref b138), .val (.ref b145), .unset, .unset, .unset, .unset, .unset, .unset, .unset, .unset] [(.ref b145), (.int r107), (.int p5), (.ref b138)] := (((k150.aload X149 hx (hb hby at_194) rfl rfl).iload X149 hx (hb hby at_196) rfl).iload X149 hx (hb hby at_198) rfl).aload X149 hx (hb hby at_200) rfl rfl
      have g_33 := (show b138 ≠ b145 from Nat.ne_of_lt (g145 ▸ q142_0.lt))
      have g_34 := ((q142_1.ext E145).other W147 (Or.inl g_33)).other W149 (Or.inl g_33)
      have g_35 := (show of_142 ≠ b145 from Nat.ne_of_lt (g145 ▸ q142_2.lt))
      have g_36 := ((q142_2.ext E145).other W147 g_35).other W149 g_35
      have g_37 := ((q142_0.ext E145).wr W147).wr W149
      obtain ⟨T152, v152, L152, X152, Q152, k152⟩ := k151.virt (y := (⟨"com/example/enact/enact/FeederAcceleration", "accelerate", "(II[I)Z"⟩ : MethodName)) (z := (⟨"com/example/enact/enact/FeederAcceleration", "accelerate", "(II[I)Z"⟩ : MethodName)) (Wd := 0) (cells' := 7) (slots' := 28) (argsL := [(.int p5), (.int r107), (.ref b145)]) (rest := []) X149 hx hZ hown (by rw [hml]; rfl) (hv 90 rfl) (hv 91 rfl) (notFace_of_selects (args := #[]) (mvT hZ (hv 93 rfl))) (hv 93 rfl) (hv 92 rfl) (hv 94 rfl) (hv 29 rfl) (hb hby at_202) (by decide) (rmac l Z a0 hw [] b138 p5 r107 b145 of_142 okf_142 c145 (own_e1 r103 (1 : Int32) (0 : Int32)) (own_e1 r103 (1 : Int32) (1 : Int32)) (own_e1 r103 (1 : Int32) (2 : Int32)) (own_e1 r103 (1 : Int32) (3 : Int32)) u111_S0 u117_S0 h149 n0 Z149 g_34 g_36 V149 G145 g_35 g_33 hs107 (own_3e1 (Or.inr rfl)) (own_3e1 (Or.inr rfl)) (own_3e1 (Or.inr rfl)) (own_3e1 (Or.inr rfl))) e149 g_37 rfl rfl pd_rm0_2 rfl (Nat.le_of_eq rfl) (by decide) (by decide) rfl rfl (by decide) (by decide)
      obtain ⟨ro_152, d0_152, d1_152, rfl, Nq152, Kq152, p152_0, q152_0⟩ := Q152
      have N152 := Fr.app N149 Nq152
      obtain ⟨h152, e152⟩ : ∃ h, T152.heap = h := ⟨_, rfl⟩
      rw [e152] at Kq152 q152_0
      have Z152 : n0 ≤ h152.size := Nat.le_trans Z149 Kq152.1
      have k152 : Go p e below m W T152 205 #[.val (.int p1), .val (.int p2), .val (.int p3), .val (.int p4), .val (.int p5), .val (.int (0 : Int32)), .val (.int (1 : Int32)), .val (.int r96), .val (.int r103), .val (.int r107), .val (.int u111_S0), .val (.int u117_S0), .val (.ref b122), .val (.ref b138), .val (.ref b145), .unset, .unset, .unset, .unset, .unset, .unset, .unset, .unset] [(.int ro_152)] := k152
      have k153 : Go p e below m W T152 207 #[.val (.int p1), .val (.int p2), .val (.int p3), .val (.int p4), .val (.int p5), .val (.int (0 : Int32)), .val (.int (1 : Int32)), .val (.int r96), .val (.int r103), .val (.int r107), .val (.int u111_S0), .val (.int u117_S0), .val (.ref b122), .val (.ref b138), .val (.ref b145), .val (.int ro_152), .unset, .unset, .unset, .unset, .unset, .unset, .unset] [] := k152.istore X152 hx (hb hby at_205) rfl
      have k154 : Go p e below m W T152 232 #[.val (.int p1), .val (.int p2), .val (.int p3), .val (.int p4), .val (.int p5), .val (.int (0 : Int32)), .val (.int (1 : Int32)), .val (.int r96), .val (.int r103), .val (.int r107), .val (.int u111_S0), .val (.int u117_S0), .val (.ref b122), .val (.ref b138), .val (.ref b145), .val (.int ro_152), .unset, .unset, .unset, .unset, .unset, .unset, .unset] [(.int r107), (.int r103)] := (((((k153.iload X152 hx (hb hby at_207) rfl).ifYes X152 hx (hb hby at_209) (XT.i0_eq_t (by decide)) (by decide) (by decide)).iload X152 hx (hb hby at_223) rfl).ifNo X152 hx (hb hby at_225) (XT.i0_eq_f (by decide))).iload X152 hx (hb hby at_228) rfl).iload X152 hx (hb hby at_230) rfl
      by_cases hc232_155 : r103 = r107
      ·
        have k156 : Go p e below m W T152 240 #[.val (.int p1), .val (.int p2), .val (.int p3), .val (.int p4), .val (.int p5), .val (.int (0 : Int32)), .val (.int (1 : Int32)), .val (.int r96), .val (.int r103), .val (.int r107), .val (.int u111_S0), .val (.int u117_S0), .val (.ref b122), .val (.ref b138), .val (.ref b145), .val (.int ro_152), .unset, .unset, .unset, .unset, .unset, .unset, .unset] [(.int (1 : Int32))] := ((k154.icmpNo X152 hx (hb hby at_232) (XT.ii_ne_f hc232_155)).iconst X152 hx (hb hby at_235) (v := (1 : Int32)) rfl).goto X152 hx (hb hby at_236) (by decide) (by decide)
        have hz157 := own_acc1 p152_0 ((own_sel1 hs107).trans (own_p1a hc232_155))
        rcases hz157 with ⟨hs158, q159, q160, q161⟩ | ⟨hs162, q163, q164, q165⟩
        ·
          subst ro_152
          subst d0_152
          subst d1_152
          have k166 : Go p e below m W T152 242 #[.val (.int p1), .val (.int p2), .val (.int p3), .val (.int p4), .val (.int p5), .val (.int (0 : Int32)), .val (.int (1 : Int32)), .val (.int r96), .val (.int r103), .val (.int r107), .val (.int u111_S0), .val (.int u117_S0), .val (.ref b122), .val (.ref b138), .val (.ref b145), .val (.int (0 : Int32)), .val (.int (1 : Int32)), .unset, .unset, .unset, .unset, .unset, .unset] [] := k156.istore X152 hx (hb hby at_240) rfl
          have k167 : Go p e below m W T152 266 #[.val (.int p1), .val (.int p2), .val (.int p3), .val (.int p4), .val (.int p5), .val (.int (0 : Int32)), .val (.int (1 : Int32)), .val (.int r96), .val (.int r103), .val (.int r107), .val (.int u111_S0), .val (.int u117_S0), .val (.ref b122), .val (.ref b138), .val (.ref b145), .val (.int (0 : Int32)), .val (.int (1 : Int32)), .val (.int u117_S0), .unset, .unset, .unset, .unset, .unset] [] := (((((((k166.iload X152 hx (hb hby at_242) rfl).ifYes X152 hx (hb hby at_244) (XT.i0_ne_t (by decide)) (by decide) (by decide)).iload X152 hx (hb hby at_252) rfl).iconst X152 hx (hb hby at_254) (v := (1 : Int32)) rfl).icmpNo X152 hx (hb hby at_255) (XT.ii_ne_f (by decide))).iload X152 hx (hb hby at_258) rfl).goto X152 hx (hb hby at_260) (by decide) (by decide)).istore X152 hx (hb hby at_264) rfl
          have k168 : Go p e below m W T152 285 #[.val (.int p1), .val (.int p2), .val (.int p3), .val (.int p4), .val (.int p5), .val (.int (0 : Int32)), .val (.int (1 : Int32)), .val (.int r96), .val (.int r103), .val (.int r107), .val (.int u111_S0), .val (.int u117_S0), .val (.ref b122), .val (.ref b138), .val (.ref b145), .val (.int (0 : Int32)), .val (.int (1 : Int32)), .val (.int u117_S0), .val (.int (0 : Int32)), .unset, .unset, .unset, .unset] [] := ((((((k167.iload X152 hx (hb hby at_266) rfl).ifNo X152 hx (hb hby at_268) (XT.i0_lt_f (by decide))).iload X152 hx (hb hby at_271) rfl).ldcI X152 hx hZ hown (hv 0 rfl) (hb hby at_273)).icmpYes X152 hx (hb hby at_275) (XT.ii_eq_t hs158) (by decide) (by decide)).iconst X152 hx (hb hby at_282) (v := (0 : Int32)) rfl).istore X152 hx (hb hby at_283) rfl
          have k169 : Go p e below m W T152 304 #[.val (.int p1), .val (.int p2), .val (.int p3), .val (.int p4), .val (.int p5), .val (.int (0 : Int32)), .val (.int (1 : Int32)), .val (.int r96), .val (.int r103), .val (.int r107), .val (.int u111_S0), .val (.int u117_S0), .val (.ref b122), .val (.ref b138), .val (.ref b145), .val (.int (0 : Int32)), .val (.int (1 : Int32)), .val (.int u117_S0), .val (.int (0 : Int32)), .val (.int u111_S0), .unset, .unset, .unset] [] := (((k168.iload X152 hx (hb hby at_285) rfl).ifYes X152 hx (hb hby at_287) (XT.i0_eq_t (by decide)) (by decide) (by decide)).iload X152 hx (hb hby at_300) rfl).istore X152 hx (hb hby at_302) rfl
          have k170 : Go p e below m W T152 324 #[.val (.int p1), .val (.int p2), .val (.int p3), .val (.int p4), .val (.int p5), .val (.int (0 : Int32)), .val (.int (1 : Int32)), .val (.int r96), .val (.int r103), .val (.int r107), .val (.int u111_S0), .val (.int u117_S0), .val (.ref b122), .val (.ref b138), .val (.ref b145), .val (.int (0 : Int32)), .val (.int (1 : Int32)), .val (.int u117_S0), .val (.int (0 : Int32)), .val (.int u111_S0), .val (.int u117_S0), .unset, .unset] [] := (((k169.iload X152 hx (hb hby at_304) rfl).ifYes X152 hx (hb hby at_306) (XT.i0_eq_t (by decide)) (by decide) (by decide)).iload X152 hx (hb hby at_320) rfl).istore X152 hx (hb hby at_322) rfl
          have k171 : Go p e below m W T152 334 #[.val (.int p1), .val (.int p2), .val (.int p3), .val (.int p4), .val (.int p5), .val (.int (0 : Int32)), .val (.int (1 : Int32)), .val (.int r96), .val (.int r103), .val (.int r107), .val (.int u111_S0), .val (.int u117_S0), .val (.ref b122), .val (.ref b138), .val (.ref b145), .val (.int (0 : Int32)), .val (.int (1 : Int32)), .val (.int u117_S0), .val (.int (0 : Int32)), .val (.int u111_S0), .val (.int u117_S0), .unset, .unset] [(.int (0 : Int32)), (.ref b145)] := ((((k170.iload X152 hx (hb hby at_324) rfl).iload X152 hx (hb hby at_326) rfl).icmpNo X152 hx (hb hby at_328) (XT.ii_ne_f (by decide))).aload X152 hx (hb hby at_331) rfl rfl).iconst X152 hx (hb hby at_333) (v := (0 : Int32)) rfl
          have k172 : Go p e below m W T152 343 #[.val (.int p1), .val (.int p2), .val (.int p3), .val (.int p4), .val (.int p5), .val (.int (0 : Int32)), .val (.int (1 : Int32)), .val (.int r96), .val (.int r103), .val (.int r107), .val (.int u111_S0), .val (.int u117_S0), .val (.ref b122), .val (.ref b138), .val (.ref b145), .val (.int (0 : Int32)), .val (.int (1 : Int32)), .val (.int u117_S0), .val (.int (0 : Int32)), .val (.int u111_S0), .val (.int u117_S0), .unset, .unset] [(.int (1 : Int32)), (.ref b145)] := ((((k171.iaload (i := 0) (n := 2) X152 hx hZ e152 q152_0 rfl rfl (by decide) (by decide) rfl (hb hby at_334)).iload X152 hx (hb hby at_335) rfl).icmpNo X152 hx (hb hby at_337) (XT.ii_ne_f rfl)).aload X152 hx (hb hby at_340) rfl rfl).iconst X152 hx (hb hby at_342) (v := (1 : Int32)) rfl
          have k173 : Go p e below m W T152 356 #[.val (.int p1), .val (.int p2), .val (.int p3), .val (.int p4), .val (.int p5), .val (.int (0 : Int32)), .val (.int (1 : Int32)), .val (.int r96), .val (.int r103), .val (.int r107), .val (.int u111_S0), .val (.int u117_S0), .val (.ref b122), .val (.ref b138), .val (.ref b145), .val (.int (0 : Int32)), .val (.int (1 : Int32)), .val (.int u117_S0), .val (.int (0 : Int32)), .val (.int u111_S0), .val (.int u117_S0), .val (.int (1 : Int32)), .unset] [] := (((((k172.iaload (i := 1) (n := 2) X152 hx hZ e152 q152_0 rfl rfl (by decide) (by decide) rfl (hb hby at_343)).iload X152 hx (hb hby at_344) rfl).icmpNo X152 hx (hb hby at_346) (XT.ii_ne_f rfl)).iconst X152 hx (hb hby at_349) (v := (1 : Int32)) rfl).goto X152 hx (hb hby at_350) (by decide) (by decide)).istore X152 hx (hb hby at_354) rfl
          have k174 : Go p e below m W T152 364 #[.val (.int p1), .val (.int p2), .val (.int p3), .val (.int p4), .val (.int p5), .val (.int (0 : Int32)), .val (.int (1 : Int32)), .val (.int r96), .val (.int r103), .val (.int r107), .val (.int u111_S0), .val (.int u117_S0), .val (.ref b122), .val (.ref b138), .val (.ref b145), .val (.int (0 : Int32)), .val (.int (1 : Int32)), .val (.int u117_S0), .val (.int (0 : Int32)), .val (.int u111_S0), .val (.int u117_S0), .val (.int (1 : Int32)), .unset] [(.ref b145), (.int r107), (.int p5), (.ref b138)] := (((k173.aload X152 hx (hb hby at_356) rfl rfl).iload X152 hx (hb hby at_358) rfl).iload X152 hx (hb hby at_360) rfl).aload X152 hx (hb hby at_362) rfl rfl
          have g_38 := g_34.keep Kq152 (by simp only [List.mem_cons, List.not_mem_nil, or_false, not_or]; exact g_33)
          have g_39 := g_36.keep Kq152 (by simp only [List.mem_cons, List.not_mem_nil, or_false, not_or]; exact g_35)
          have g_40 := g_37.keep Kq152
          obtain ⟨T175, v175, L175, X175, Q175, k175⟩ := k174.virt (y := (⟨"com/example/enact/enact/FeederAcceleration", "accelerate", "(II[I)Z"⟩ : MethodName)) (z := (⟨"com/example/enact/enact/FeederAcceleration", "accelerate", "(II[I)Z"⟩ : MethodName)) (Wd := 0) (cells' := 7) (slots' := 28) (argsL := [(.int p5), (.int r107), (.ref b145)]) (rest := []) X152 hx hZ hown (by rw [hml]; rfl) (hv 90 rfl) (hv 91 rfl) (notFace_of_selects (args := #[]) (mvT hZ (hv 93 rfl))) (hv 93 rfl) (hv 92 rfl) (hv 94 rfl) (hv 29 rfl) (hb hby at_364) (by decide) (rmac l Z a0 hw [] b138 p5 r107 b145 of_142 okf_142 c145 (own_e1 r103 (1 : Int32) (0 : Int32)) (own_e1 r103 (1 : Int32) (1 : Int32)) (own_e1 r103 (1 : Int32) (2 : Int32)) (own_e1 r103 (1 : Int32) (3 : Int32)) u111_S0 u117_S0 h152 n0 Z152 g_38 g_39 q152_0 G145 g_35 g_33 hs107 (own_3e1 (Or.inr rfl)) (own_3e1 (Or.inr rfl)) (own_3e1 (Or.inr rfl)) (own_3e1 (Or.inr rfl))) e152 g_40 rfl rfl pd_rm0_2 rfl (Nat.le_of_eq rfl) (by decide) (by decide) rfl rfl (by decide) (by decide)
          obtain ⟨ro_175, d0_175, d1_175, rfl, Nq175, Kq175, p175_0, q175_0⟩ := Q175
          have N175 := Fr.app N152 Nq175
          obtain ⟨h175, e175⟩ : ∃ h, T175.heap = h := ⟨_, rfl⟩
          rw [e175] at Kq175 q175_0
          have Z175 : n0 ≤ h175.size := Nat.le_trans Z152 Kq175.1
          have k175 : Go p e below m W T175 367 #[.val (.int p1), .val (.int p2), .val (.int p3), .val (.int p4), .val (.int p5), .val (.int (0 : Int32)), .val (.int (1 : Int32)), .val (.int r96), .val (.int r103), .val (.int r107), .val (.int u111_S0), .val (.int u117_S0), .val (.ref b122), .val (.ref b138), .val (.ref b145), .val (.int (0 : Int32)), .val (.int (1 : Int32)), .val (.int u117_S0), .val (.int (0 : Int32)), .val (.int u111_S0), .val (.int u117_S0), .val (.int (1 : Int32)), .unset] [(.int ro_175)] := k175
          obtain ⟨ha176, hb176, hc176⟩ := own_acc1' p175_0 ((own_sel1 hs107).trans (own_p1a hc232_155)) hs158
          subst ro_175
          subst d0_175
          subst d1_175
          have k177 : Go p e below m W T175 369 #[.val (.int p1), .val (.int p2), .val (.int p3), .val (.int p4), .val (.int p5), .val (.int (0 : Int32)), .val (.int (1 : Int32)), .val (.int r96), .val (.int r103), .val (.int r107), .val (.int u111_S0), .val (.int u117_S0), .val (.ref b122), .val (.ref b138), .val (.ref b145), .val (.int (0 : Int32)), .val (.int (1 : Int32)), .val (.int u117_S0), .val (.int (0 : Int32)), .val (.int u111_S0), .val (.int u117_S0), .val (.int (1 : Int32)), .val (.int (0 : Int32))] [] := k175.istore X175 hx (hb hby at_367) rfl
          have k178 : Go p e below m W T175 382 #[.val (.int p1), .val (.int p2), .val (.int p3), .val (.int p4), .val (.int p5), .val (.int (0 : Int32)), .val (.int (1 : Int32)), .val (.int r96), .val (.int r103), .val (.int r107), .val (.int u111_S0), .val (.int u117_S0), .val (.ref b122), .val (.ref b138), .val (.ref b145), .val (.int (0 : Int32)), .val (.int (1 : Int32)), .val (.int u117_S0), .val (.int (0 : Int32)), .val (.int u111_S0), .val (.int u117_S0), .val (.int (1 : Int32)), .val (.int (0 : Int32))] [(.int (0 : Int32)), (.ref b145)] := (((((k177.iload X175 hx (hb hby at_369) rfl).ifNo X175 hx (hb hby at_371) (XT.i0_eq_f (by decide))).iload X175 hx (hb hby at_374) rfl).ifNo X175 hx (hb hby at_376) (XT.i0_ne_f (by decide))).aload X175 hx (hb hby at_379) rfl rfl).iconst X175 hx (hb hby at_381) (v := (0 : Int32)) rfl
          have k179 : Go p e below m W T175 391 #[.val (.int p1), .val (.int p2), .val (.int p3), .val (.int p4), .val (.int p5), .val (.int (0 : Int32)), .val (.int (1 : Int32)), .val (.int r96), .val (.int r103), .val (.int r107), .val (.int u111_S0), .val (.int u117_S0), .val (.ref b122), .val (.ref b138), .val (.ref b145), .val (.int (0 : Int32)), .val (.int (1 : Int32)), .val (.int u117_S0), .val (.int (0 : Int32)), .val (.int u111_S0), .val (.int u117_S0), .val (.int (1 : Int32)), .val (.int (0 : Int32))] [(.int (1 : Int32)), (.ref b145)] := ((((k178.iaload (i := 0) (n := 2) X175 hx hZ e175 q175_0 rfl rfl (by decide) (by decide) rfl (hb hby at_382)).iload X175 hx (hb hby at_383) rfl).icmpNo X175 hx (hb hby at_385) (XT.ii_ne_f rfl)).aload X175 hx (hb hby at_388) rfl rfl).iconst X175 hx (hb hby at_390) (v := (1 : Int32)) rfl
          have k180 : Go p e below m W T175 402 #[.val (.int p1), .val (.int p2), .val (.int p3), .val (.int p4), .val (.int p5), .val (.int (0 : Int32)), .val (.int (1 : Int32)), .val (.int r96), .val (.int r103), .val (.int r107), .val (.int u111_S0), .val (.int u117_S0), .val (.ref b122), .val (.ref b138), .val (.ref b145), .val (.int (0 : Int32)), .val (.int (1 : Int32)), .val (.int u117_S0), .val (.int (0 : Int32)), .val (.int u111_S0), .val (.int u117_S0), .val (.int (1 : Int32)), .val (.int (0 : Int32))] [(.int (1 : Int32))] := ((((k179.iaload (i := 1) (n := 2) X175 hx hZ e175 q175_0 rfl rfl (by decide) (by decide) rfl (hb hby at_391)).iload X175 hx (hb hby at_392) rfl).icmpNo X175 hx (hb hby at_394) (XT.ii_ne_f rfl)).iconst X175 hx (hb hby at_397) (v := (1 : Int32)) rfl).goto X175 hx (hb hby at_398) (by decide) (by decide)
          exact k180.ireturnN X175 hx (t := .boolean) Bd.returns (by simp) rfl (hb hby at_402) (BodyLoose.notSynchronized Bd) (by rw [e175]; exact ⟨rfl, N175⟩) (by decide) (by decide)
        ·
          subst ro_152
          subst d0_152
          subst d1_152
          have k181 : Go p e below m W T152 242 #[.val (.int p1), .val (.int p2), .val (.int p3), .val (.int p4), .val (.int p5), .val (.int (0 : Int32)), .val (.int (1 : Int32)), .val (.int r96), .val (.int r103), .val (.int r107), .val (.int u111_S0), .val (.int u117_S0), .val (.ref b122), .val (.ref b138), .val (.ref b145), .val (.int (1 : Int32)), .val (.int (1 : Int32)), .unset, .unset, .unset, .unset, .unset, .unset] [] := k156.istore X152 hx (hb hby at_240) rfl
          have k182 : Go p e below m W T152 266 #[.val (.int p1), .val (.int p2), .val (.int p3), .val (.int p4), .val (.int p5), .val (.int (0 : Int32)), .val (.int (1 : Int32)), .val (.int r96), .val (.int r103), .val (.int r107), .val (.int u111_S0), .val (.int u117_S0), .val (.ref b122), .val (.ref b138), .val (.ref b145), .val (.int (1 : Int32)), .val (.int (1 : Int32)), .val (.int u117_S0), .unset, .unset, .unset, .unset, .unset] [] := (((((((k181.iload X152 hx (hb hby at_242) rfl).ifYes X152 hx (hb hby at_244) (XT.i0_ne_t (by decide)) (by decide) (by decide)).iload X152 hx (hb hby at_252) rfl).iconst X152 hx (hb hby at_254) (v := (1 : Int32)) rfl).icmpNo X152 hx (hb hby at_255) (XT.ii_ne_f (by decide))).iload X152 hx (hb hby at_258) rfl).goto X152 hx (hb hby at_260) (by decide) (by decide)).istore X152 hx (hb hby at_264) rfl
          have k183 : Go p e below m W T152 285 #[.val (.int p1), .val (.int p2), .val (.int p3), .val (.int p4), .val (.int p5), .val (.int (0 : Int32)), .val (.int (1 : Int32)), .val (.int r96), .val (.int r103), .val (.int r107), .val (.int u111_S0), .val (.int u117_S0), .val (.ref b122), .val (.ref b138), .val (.ref b145), .val (.int (1 : Int32)), .val (.int (1 : Int32)), .val (.int u117_S0), .val (.int (1 : Int32)), .unset, .unset, .unset, .unset] [] := (((((((k182.iload X152 hx (hb hby at_266) rfl).ifNo X152 hx (hb hby at_268) (XT.i0_lt_f (by decide))).iload X152 hx (hb hby at_271) rfl).ldcI X152 hx hZ hown (hv 0 rfl) (hb hby at_273)).icmpNo X152 hx (hb hby at_275) (XT.ii_eq_f hs162)).iconst X152 hx (hb hby at_278) (v := (1 : Int32)) rfl).goto X152 hx (hb hby at_279) (by decide) (by decide)).istore X152 hx (hb hby at_283) rfl
          have k184 : Go p e below m W T152 304 #[.val (.int p1), .val (.int p2), .val (.int p3), .val (.int p4), .val (.int p5), .val (.int (0 : Int32)), .val (.int (1 : Int32)), .val (.int r96), .val (.int r103), .val (.int r107), .val (.int u111_S0), .val (.int u117_S0), .val (.ref b122), .val (.ref b138), .val (.ref b145), .val (.int (1 : Int32)), .val (.int (1 : Int32)), .val (.int u117_S0), .val (.int (1 : Int32)), .val (.int u111_S0), .unset, .unset, .unset] [] := (((((k183.iload X152 hx (hb hby at_285) rfl).ifNo X152 hx (hb hby at_287) (XT.i0_eq_f (by decide))).iload X152 hx (hb hby at_290) rfl).ifYes X152 hx (hb hby at_292) (XT.i0_ne_t (by decide)) (by decide) (by decide)).iload X152 hx (hb hby at_300) rfl).istore X152 hx (hb hby at_302) rfl
          have k185 : Go p e below m W T152 324 #[.val (.int p1), .val (.int p2), .val (.int p3), .val (.int p4), .val (.int p5), .val (.int (0 : Int32)), .val (.int (1 : Int32)), .val (.int r96), .val (.int r103), .val (.int r107), .val (.int u111_S0), .val (.int u117_S0), .val (.ref b122), .val (.ref b138), .val (.ref b145), .val (.int (1 : Int32)), .val (.int (1 : Int32)), .val (.int u117_S0), .val (.int (1 : Int32)), .val (.int u111_S0), .val (.int (2147483647 : Int32)), .unset, .unset] [] := (((((((k184.iload X152 hx (hb hby at_304) rfl).ifNo X152 hx (hb hby at_306) (XT.i0_eq_f (by decide))).iload X152 hx (hb hby at_309) rfl).iconst X152 hx (hb hby at_311) (v := (1 : Int32)) rfl).icmpNo X152 hx (hb hby at_312) (XT.ii_ne_f (by decide))).ldcI X152 hx hZ hown (hv 0 rfl) (hb hby at_315)).goto X152 hx (hb hby at_317) (by decide) (by decide)).istore X152 hx (hb hby at_322) rfl
          have k186 : Go p e below m W T152 334 #[.val (.int p1), .val (.int p2), .val (.int p3), .val (.int p4), .val (.int p5), .val (.int (0 : Int32)), .val (.int (1 : Int32)), .val (.int r96), .val (.int r103), .val (.int r107), .val (.int u111_S0), .val (.int u117_S0), .val (.ref b122), .val (.ref b138), .val (.ref b145), .val (.int (1 : Int32)), .val (.int (1 : Int32)), .val (.int u117_S0), .val (.int (1 : Int32)), .val (.int u111_S0), .val (.int (2147483647 : Int32)), .unset, .unset] [(.int (0 : Int32)), (.ref b145)] := ((((k185.iload X152 hx (hb hby at_324) rfl).iload X152 hx (hb hby at_326) rfl).icmpNo X152 hx (hb hby at_328) (XT.ii_ne_f (by decide))).aload X152 hx (hb hby at_331) rfl rfl).iconst X152 hx (hb hby at_333) (v := (0 : Int32)) rfl
          have k187 : Go p e below m W T152 343 #[.val (.int p1), .val (.int p2), .val (.int p3), .val (.int p4), .val (.int p5), .val (.int (0 : Int32)), .val (.int (1 : Int32)), .val (.int r96), .val (.int r103), .val (.int r107), .val (.int u111_S0), .val (.int u117_S0), .val (.ref b122), .val (.ref b138), .val (.ref b145), .val (.int (1 : Int32)), .val (.int (1 : Int32)), .val (.int u117_S0), .val (.int (1 : Int32)), .val (.int u111_S0), .val (.int (2147483647 : Int32)), .unset, .unset] [(.int (1 : Int32)), (.ref b145)] := ((((k186.iaload (i := 0) (n := 2) X152 hx hZ e152 q152_0 rfl rfl (by decide) (by decide) rfl (hb hby at_334)).iload X152 hx (hb hby at_335) rfl).icmpNo X152 hx (hb hby at_337) (XT.ii_ne_f rfl)).aload X152 hx (hb hby at_340) rfl rfl).iconst X152 hx (hb hby at_342) (v := (1 : Int32)) rfl
          have k188 : Go p e below m W T152 356 #[.val (.int p1), .val (.int p2), .val (.int p3), .val (.int p4), .val (.int p5), .val (.int (0 : Int32)), .val (.int (1 : Int32)), .val (.int r96), .val (.int r103), .val (.int r107), .val (.int u111_S0), .val (.int u117_S0), .val (.ref b122), .val (.ref b138), .val (.ref b145), .val (.int (1 : Int32)), .val (.int (1 : Int32)), .val (.int u117_S0), .val (.int (1 : Int32)), .val (.int u111_S0), .val (.int (2147483647 : Int32)), .val (.int (1 : Int32)), .unset] [] := (((((k187.iaload (i := 1) (n := 2) X152 hx hZ e152 q152_0 rfl rfl (by decide) (by decide) rfl (hb hby at_343)).iload X152 hx (hb hby at_344) rfl).icmpNo X152 hx (hb hby at_346) (XT.ii_ne_f (by decide))).iconst X152 hx (hb hby at_349) (v := (1 : Int32)) rfl).goto X152 hx (hb hby at_350) (by decide) (by decide)).istore X152 hx (hb hby at_354) rfl
          have k189 : Go p e below m W T152 364 #[.val (.int p1), .val (.int p2), .val (.int p3), .val (.int p4), .val (.int p5), .val (.int (0 : Int32)), .val (.int (1 : Int32)), .val (.int r96), .val (.int r103), .val (.int r107), .val (.int u111_S0), .val (.int u117_S0), .val (.ref b122), .val (.ref b138), .val (.ref b145), .val (.int (1 : Int32)), .val (.int (1 : Int32)), .val (.int u117_S0), .val (.int (1 : Int32)), .val (.int u111_S0), .val (.int (2147483647 : Int32)), .val (.int (1 : Int32)), .unset] [(.ref b145), (.int r107), (.int p5), (.ref b138)] := (((k188.aload X152 hx (hb hby at_356) rfl rfl).iload X152 hx (hb hby at_358) rfl).iload X152 hx (hb hby at_360) rfl).aload X152 hx (hb hby at_362) rfl rfl
          have g_41 := g_34.keep Kq152 (by simp only [List.mem_cons, List.not_mem_nil, or_false, not_or]; exact g_33)
          have g_42 := g_36.keep Kq152 (by simp only [List.mem_cons, List.not_mem_nil, or_false, not_or]; exact g_35)
          have g_43 := g_37.keep Kq152
          obtain ⟨T190, v190, L190, X190, Q190, k190⟩ := k189.virt (y := (⟨"com/example/enact/enact/FeederAcceleration", "accelerate", "(II[I)Z"⟩ : MethodName)) (z := (⟨"com/example/enact/enact/FeederAcceleration", "accelerate", "(II[I)Z"⟩ : MethodName)) (Wd := 0) (cells' := 7) (slots' := 28) (argsL := [(.int p5), (.int r107), (.ref b145)]) (rest := []) X152 hx hZ hown (by rw [hml]; rfl) (hv 90 rfl) (hv 91 rfl) (notFace_of_selects (args := #[]) (mvT hZ (hv 93 rfl))) (hv 93 rfl) (hv 92 rfl) (hv 94 rfl) (hv 29 rfl) (hb hby at_364) (by decide) (rmac l Z a0 hw [] b138 p5 r107 b145 of_142 okf_142 c145 (own_e1 r103 (1 : Int32) (0 : Int32)) (own_e1 r103 (1 : Int32) (1 : Int32)) (own_e1 r103 (1 : Int32) (2 : Int32)) (own_e1 r103 (1 : Int32) (3 : Int32)) u111_S0 (2147483647 : Int32) h152 n0 Z152 g_41 g_42 q152_0 G145 g_35 g_33 hs107 (own_3e1 (Or.inr rfl)) (own_3e1 (Or.inr rfl)) (own_3e1 (Or.inr rfl)) (own_3e1 (Or.inr rfl))) e152 g_43 rfl rfl pd_rm0_2 rfl (Nat.le_of_eq rfl) (by decide) (by decide) rfl rfl (by decide) (by decide)
          obtain ⟨ro_190, d0_190, d1_190, rfl, Nq190, Kq190, p190_0, q190_0⟩ := Q190
          have N190 := Fr.app N152 Nq190
          obtain ⟨h190, e190⟩ : ∃ h, T190.heap = h := ⟨_, rfl⟩
          rw [e190] at Kq190 q190_0
          have Z190 : n0 ≤ h190.size := Nat.le_trans Z152 Kq190.1
          have k190 : Go p e below m W T190 367 #[.val (.int p1), .val (.int p2), .val (.int p3), .val (.int p4), .val (.int p5), .val (.int (0 : Int32)), .val (.int (1 : Int32)), .val (.int r96), .val (.int r103), .val (.int r107), .val (.int u111_S0), .val (.int u117_S0), .val (.ref b122), .val (.ref b138), .val (.ref b145), .val (.int (1 : Int32)), .val (.int (1 : Int32)), .val (.int u117_S0), .val (.int (1 : Int32)), .val (.int u111_S0), .val (.int (2147483647 : Int32)), .val (.int (1 : Int32)), .unset] [(.int ro_190)] := k190
          obtain ⟨ha191, hb191, hc191⟩ := own_acc1' p190_0 ((own_sel1 hs107).trans (own_p1a hc232_155)) rfl
          subst ro_190
          subst d0_190
          subst d1_190
          have k192 : Go p e below m W T190 369 #[.val (.int p1), .val (.int p2), .val (.int p3), .val (.int p4), .val (.int p5), .val (.int (0 : Int32)), .val (.int (1 : Int32)), .val (.int r96), .val (.int r103), .val (.int r107), .val (.int u111_S0), .val (.int u117_S0), .val (.ref b122), .val (.ref b138), .val (.ref b145), .val (.int (1 : Int32)), .val (.int (1 : Int32)), .val (.int u117_S0), .val (.int (1 : Int32)), .val (.int u111_S0), .val (.int (2147483647 : Int32)), .val (.int (1 : Int32)), .val (.int (0 : Int32))] [] := k190.istore X190 hx (hb hby at_367) rfl
          have k193 : Go p e below m W T190 382 #[.val (.int p1), .val (.int p2), .val (.int p3), .val (.int p4), .val (.int p5), .val (.int (0 : Int32)), .val (.int (1 : Int32)), .val (.int r96), .val (.int r103), .val (.int r107), .val (.int u111_S0), .val (.int u117_S0), .val (.ref b122), .val (.ref b138), .val (.ref b145), .val (.int (1 : Int32)), .val (.int (1 : Int32)), .val (.int u117_S0), .val (.int (1 : Int32)), .val (.int u111_S0), .val (.int (2147483647 : Int32)), .val (.int (1 : Int32)), .val (.int (0 : Int32))] [(.int (0 : Int32)), (.ref b145)] := (((((k192.iload X190 hx (hb hby at_369) rfl).ifNo X190 hx (hb hby at_371) (XT.i0_eq_f (by decide))).iload X190 hx (hb hby at_374) rfl).ifNo X190 hx (hb hby at_376) (XT.i0_ne_f (by decide))).aload X190 hx (hb hby at_379) rfl rfl).iconst X190 hx (hb hby at_381) (v := (0 : Int32)) rfl
          have k194 : Go p e below m W T190 391 #[.val (.int p1), .val (.int p2), .val (.int p3), .val (.int p4), .val (.int p5), .val (.int (0 : Int32)), .val (.int (1 : Int32)), .val (.int r96), .val (.int r103), .val (.int r107), .val (.int u111_S0), .val (.int u117_S0), .val (.ref b122), .val (.ref b138), .val (.ref b145), .val (.int (1 : Int32)), .val (.int (1 : Int32)), .val (.int u117_S0), .val (.int (1 : Int32)), .val (.int u111_S0), .val (.int (2147483647 : Int32)), .val (.int (1 : Int32)), .val (.int (0 : Int32))] [(.int (1 : Int32)), (.ref b145)] := ((((k193.iaload (i := 0) (n := 2) X190 hx hZ e190 q190_0 rfl rfl (by decide) (by decide) rfl (hb hby at_382)).iload X190 hx (hb hby at_383) rfl).icmpNo X190 hx (hb hby at_385) (XT.ii_ne_f rfl)).aload X190 hx (hb hby at_388) rfl rfl).iconst X190 hx (hb hby at_390) (v := (1 : Int32)) rfl
          have k195 : Go p e below m W T190 402 #[.val (.int p1), .val (.int p2), .val (.int p3), .val (.int p4), .val (.int p5), .val (.int (0 : Int32)), .val (.int (1 : Int32)), .val (.int r96), .val (.int r103), .val (.int r107), .val (.int u111_S0), .val (.int u117_S0), .val (.ref b122), .val (.ref b138), .val (.ref b145), .val (.int (1 : Int32)), .val (.int (1 : Int32)), .val (.int u117_S0), .val (.int (1 : Int32)), .val (.int u111_S0), .val (.int (2147483647 : Int32)), .val (.int (1 : Int32)), .val (.int (0 : Int32))] [(.int (1 : Int32))] := ((((k194.iaload (i := 1) (n := 2) X190 hx hZ e190 q190_0 rfl rfl (by decide) (by decide) rfl (hb hby at_391)).iload X190 hx (hb hby at_392) rfl).icmpNo X190 hx (hb hby at_394) (XT.ii_ne_f (by decide))).iconst X190 hx (hb hby at_397) (v := (1 : Int32)) rfl).goto X190 hx (hb hby at_398) (by decide) (by decide)
          exact k195.ireturnN X190 hx (t := .boolean) Bd.returns (by simp) rfl (hb hby at_402) (BodyLoose.notSynchronized Bd) (by rw [e190]; exact ⟨rfl, N190⟩) (by decide) (by decide)
      ·
        have k196 : Go p e below m W T152 240 #[.val (.int p1), .val (.int p2), .val (.int p3), .val (.int p4), .val (.int p5), .val (.int (0 : Int32)), .val (.int (1 : Int32)), .val (.int r96), .val (.int r103), .val (.int r107), .val (.int u111_S0), .val (.int u117_S0), .val (.ref b122), .val (.ref b138), .val (.ref b145), .val (.int ro_152), .unset, .unset, .unset, .unset, .unset, .unset, .unset] [(.int (-1 : Int32))] := (k154.icmpYes X152 hx (hb hby at_232) (XT.ii_ne_t hc232_155) (by decide) (by decide)).iconst X152 hx (hb hby at_239) (v := (-1 : Int32)) rfl
        obtain ⟨ha197, hb197, hc197⟩ := own_accN p152_0 ((own_sel1 hs107).trans (own_p1b hc232_155))
        subst ro_152
        subst d0_152
        subst d1_152
        have k198 : Go p e below m W T152 242 #[.val (.int p1), .val (.int p2), .val (.int p3), .val (.int p4), .val (.int p5), .val (.int (0 : Int32)), .val (.int (1 : Int32)), .val (.int r96), .val (.int r103), .val (.int r107), .val (.int u111_S0), .val (.int u117_S0), .val (.ref b122), .val (.ref b138), .val (.ref b145), .val (.int (0 : Int32)), .val (.int (-1 : Int32)), .unset, .unset, .unset, .unset, .unset, .unset] [] := k196.istore X152 hx (hb hby at_240) rfl
        have k199 : Go p e below m W T152 266 #[.val (.int p1), .val (.int p2), .val (.int p3), .val (.int p4), .val (.int p5), .val (.int (0 : Int32)), .val (.int (1 : Int32)), .val (.int r96), .val (.int r103), .val (.int r107), .val (.int u111_S0), .val (.int u117_S0), .val (.ref b122), .val (.ref b138), .val (.ref b145), .val (.int (0 : Int32)), .val (.int (-1 : Int32)), .val (.int (0 : Int32)), .unset, .unset, .unset, .unset, .unset] [] := ((((((k198.iload X152 hx (hb hby at_242) rfl).ifYes X152 hx (hb hby at_244) (XT.i0_ne_t (by decide)) (by decide) (by decide)).iload X152 hx (hb hby at_252) rfl).iconst X152 hx (hb hby at_254) (v := (1 : Int32)) rfl).icmpYes X152 hx (hb hby at_255) (XT.ii_ne_t (by decide)) (by decide) (by decide)).iconst X152 hx (hb hby at_263) (v := (0 : Int32)) rfl).istore X152 hx (hb hby at_264) rfl
        have k200 : Go p e below m W T152 285 #[.val (.int p1), .val (.int p2), .val (.int p3), .val (.int p4), .val (.int p5), .val (.int (0 : Int32)), .val (.int (1 : Int32)), .val (.int r96), .val (.int r103), .val (.int r107), .val (.int u111_S0), .val (.int u117_S0), .val (.ref b122), .val (.ref b138), .val (.ref b145), .val (.int (0 : Int32)), .val (.int (-1 : Int32)), .val (.int (0 : Int32)), .val (.int (0 : Int32)), .unset, .unset, .unset, .unset] [] := (((k199.iload X152 hx (hb hby at_266) rfl).ifYes X152 hx (hb hby at_268) (XT.i0_lt_t (by decide)) (by decide) (by decide)).iconst X152 hx (hb hby at_282) (v := (0 : Int32)) rfl).istore X152 hx (hb hby at_283) rfl
        have k201 : Go p e below m W T152 304 #[.val (.int p1), .val (.int p2), .val (.int p3), .val (.int p4), .val (.int p5), .val (.int (0 : Int32)), .val (.int (1 : Int32)), .val (.int r96), .val (.int r103), .val (.int r107), .val (.int u111_S0), .val (.int u117_S0), .val (.ref b122), .val (.ref b138), .val (.ref b145), .val (.int (0 : Int32)), .val (.int (-1 : Int32)), .val (.int (0 : Int32)), .val (.int (0 : Int32)), .val (.int u111_S0), .unset, .unset, .unset] [] := (((k200.iload X152 hx (hb hby at_285) rfl).ifYes X152 hx (hb hby at_287) (XT.i0_eq_t (by decide)) (by decide) (by decide)).iload X152 hx (hb hby at_300) rfl).istore X152 hx (hb hby at_302) rfl
        have k202 : Go p e below m W T152 324 #[.val (.int p1), .val (.int p2), .val (.int p3), .val (.int p4), .val (.int p5), .val (.int (0 : Int32)), .val (.int (1 : Int32)), .val (.int r96), .val (.int r103), .val (.int r107), .val (.int u111_S0), .val (.int u117_S0), .val (.ref b122), .val (.ref b138), .val (.ref b145), .val (.int (0 : Int32)), .val (.int (-1 : Int32)), .val (.int (0 : Int32)), .val (.int (0 : Int32)), .val (.int u111_S0), .val (.int u117_S0), .unset, .unset] [] := (((k201.iload X152 hx (hb hby at_304) rfl).ifYes X152 hx (hb hby at_306) (XT.i0_eq_t (by decide)) (by decide) (by decide)).iload X152 hx (hb hby at_320) rfl).istore X152 hx (hb hby at_322) rfl
        have k203 : Go p e below m W T152 334 #[.val (.int p1), .val (.int p2), .val (.int p3), .val (.int p4), .val (.int p5), .val (.int (0 : Int32)), .val (.int (1 : Int32)), .val (.int r96), .val (.int r103), .val (.int r107), .val (.int u111_S0), .val (.int u117_S0), .val (.ref b122), .val (.ref b138), .val (.ref b145), .val (.int (0 : Int32)), .val (.int (-1 : Int32)), .val (.int (0 : Int32)), .val (.int (0 : Int32)), .val (.int u111_S0), .val (.int u117_S0), .unset, .unset] [(.int (0 : Int32)), (.ref b145)] := ((((k202.iload X152 hx (hb hby at_324) rfl).iload X152 hx (hb hby at_326) rfl).icmpNo X152 hx (hb hby at_328) (XT.ii_ne_f (by decide))).aload X152 hx (hb hby at_331) rfl rfl).iconst X152 hx (hb hby at_333) (v := (0 : Int32)) rfl
        have k204 : Go p e below m W T152 343 #[.val (.int p1), .val (.int p2), .val (.int p3), .val (.int p4), .val (.int p5), .val (.int (0 : Int32)), .val (.int (1 : Int32)), .val (.int r96), .val (.int r103), .val (.int r107), .val (.int u111_S0), .val (.int u117_S0), .val (.ref b122), .val (.ref b138), .val (.ref b145), .val (.int (0 : Int32)), .val (.int (-1 : Int32)), .val (.int (0 : Int32)), .val (.int (0 : Int32)), .val (.int u111_S0), .val (.int u117_S0), .unset, .unset] [(.int (1 : Int32)), (.ref b145)] := ((((k203.iaload (i := 0) (n := 2) X152 hx hZ e152 q152_0 rfl rfl (by decide) (by decide) rfl (hb hby at_334)).iload X152 hx (hb hby at_335) rfl).icmpNo X152 hx (hb hby at_337) (XT.ii_ne_f rfl)).aload X152 hx (hb hby at_340) rfl rfl).iconst X152 hx (hb hby at_342) (v := (1 : Int32)) rfl
        have k205 : Go p e below m W T152 356 #[.val (.int p1), .val (.int p2), .val (.int p3), .val (.int p4), .val (.int p5), .val (.int (0 : Int32)), .val (.int (1 : Int32)), .val (.int r96), .val (.int r103), .val (.int r107), .val (.int u111_S0), .val (.int u117_S0), .val (.ref b122), .val (.ref b138), .val (.ref b145), .val (.int (0 : Int32)), .val (.int (-1 : Int32)), .val (.int (0 : Int32)), .val (.int (0 : Int32)), .val (.int u111_S0), .val (.int u117_S0), .val (.int (1 : Int32)), .unset] [] := (((((k204.iaload (i := 1) (n := 2) X152 hx hZ e152 q152_0 rfl rfl (by decide) (by decide) rfl (hb hby at_343)).iload X152 hx (hb hby at_344) rfl).icmpNo X152 hx (hb hby at_346) (XT.ii_ne_f rfl)).iconst X152 hx (hb hby at_349) (v := (1 : Int32)) rfl).goto X152 hx (hb hby at_350) (by decide) (by decide)).istore X152 hx (hb hby at_354) rfl
        have k206 : Go p e below m W T152 364 #[.val (.int p1), .val (.int p2), .val (.int p3), .val (.int p4), .val (.int p5), .val (.int (0 : Int32)), .val (.int (1 : Int32)), .val (.int r96), .val (.int r103), .val (.int r107), .val (.int u111_S0), .val (.int u117_S0), .val (.ref b122), .val (.ref b138), .val (.ref b145), .val (.int (0 : Int32)), .val (.int (-1 : Int32)), .val (.int (0 : Int32)), .val (.int (0 : Int32)), .val (.int u111_S0), .val (.int u117_S0), .val (.int (1 : Int32)), .unset] [(.ref b145), (.int r107), (.int p5), (.ref b138)] := (((k205.aload X152 hx (hb hby at_356) rfl rfl).iload X152 hx (hb hby at_358) rfl).iload X152 hx (hb hby at_360) rfl).aload X152 hx (hb hby at_362) rfl rfl
        have g_44 := g_34.keep Kq152 (by simp only [List.mem_cons, List.not_mem_nil, or_false, not_or]; exact g_33)
        have g_45 := g_36.keep Kq152 (by simp only [List.mem_cons, List.not_mem_nil, or_false, not_or]; exact g_35)
        have g_46 := g_37.keep Kq152
        obtain ⟨T207, v207, L207, X207, Q207, k207⟩ := k206.virt (y := (⟨"com/example/enact/enact/FeederAcceleration", "accelerate", "(II[I)Z"⟩ : MethodName)) (z := (⟨"com/example/enact/enact/FeederAcceleration", "accelerate", "(II[I)Z"⟩ : MethodName)) (Wd := 0) (cells' := 7) (slots' := 28) (argsL := [(.int p5), (.int r107), (.ref b145)]) (rest := []) X152 hx hZ hown (by rw [hml]; rfl) (hv 90 rfl) (hv 91 rfl) (notFace_of_selects (args := #[]) (mvT hZ (hv 93 rfl))) (hv 93 rfl) (hv 92 rfl) (hv 94 rfl) (hv 29 rfl) (hb hby at_364) (by decide) (rmac l Z a0 hw [] b138 p5 r107 b145 of_142 okf_142 c145 (own_e1 r103 (1 : Int32) (0 : Int32)) (own_e1 r103 (1 : Int32) (1 : Int32)) (own_e1 r103 (1 : Int32) (2 : Int32)) (own_e1 r103 (1 : Int32) (3 : Int32)) u111_S0 u117_S0 h152 n0 Z152 g_44 g_45 q152_0 G145 g_35 g_33 hs107 (own_3e1 (Or.inr rfl)) (own_3e1 (Or.inr rfl)) (own_3e1 (Or.inr rfl)) (own_3e1 (Or.inr rfl))) e152 g_46 rfl rfl pd_rm0_2 rfl (Nat.le_of_eq rfl) (by decide) (by decide) rfl rfl (by decide) (by decide)
        obtain ⟨ro_207, d0_207, d1_207, rfl, Nq207, Kq207, p207_0, q207_0⟩ := Q207
        have N207 := Fr.app N152 Nq207
        obtain ⟨h207, e207⟩ : ∃ h, T207.heap = h := ⟨_, rfl⟩
        rw [e207] at Kq207 q207_0
        have Z207 : n0 ≤ h207.size := Nat.le_trans Z152 Kq207.1
        have k207 : Go p e below m W T207 367 #[.val (.int p1), .val (.int p2), .val (.int p3), .val (.int p4), .val (.int p5), .val (.int (0 : Int32)), .val (.int (1 : Int32)), .val (.int r96), .val (.int r103), .val (.int r107), .val (.int u111_S0), .val (.int u117_S0), .val (.ref b122), .val (.ref b138), .val (.ref b145), .val (.int (0 : Int32)), .val (.int (-1 : Int32)), .val (.int (0 : Int32)), .val (.int (0 : Int32)), .val (.int u111_S0), .val (.int u117_S0), .val (.int (1 : Int32)), .unset] [(.int ro_207)] := k207
        obtain ⟨ha208, hb208, hc208⟩ := own_accN p207_0 ((own_sel1 hs107).trans (own_p1b hc232_155))
        subst ro_207
        subst d0_207
        subst d1_207
        have k209 : Go p e below m W T207 369 #[.val (.int p1), .val (.int p2), .val (.int p3), .val (.int p4), .val (.int p5), .val (.int (0 : Int32)), .val (.int (1 : Int32)), .val (.int r96), .val (.int r103), .val (.int r107), .val (.int u111_S0), .val (.int u117_S0), .val (.ref b122), .val (.ref b138), .val (.ref b145), .val (.int (0 : Int32)), .val (.int (-1 : Int32)), .val (.int (0 : Int32)), .val (.int (0 : Int32)), .val (.int u111_S0), .val (.int u117_S0), .val (.int (1 : Int32)), .val (.int (0 : Int32))] [] := k207.istore X207 hx (hb hby at_367) rfl
        have k210 : Go p e below m W T207 382 #[.val (.int p1), .val (.int p2), .val (.int p3), .val (.int p4), .val (.int p5), .val (.int (0 : Int32)), .val (.int (1 : Int32)), .val (.int r96), .val (.int r103), .val (.int r107), .val (.int u111_S0), .val (.int u117_S0), .val (.ref b122), .val (.ref b138), .val (.ref b145), .val (.int (0 : Int32)), .val (.int (-1 : Int32)), .val (.int (0 : Int32)), .val (.int (0 : Int32)), .val (.int u111_S0), .val (.int u117_S0), .val (.int (1 : Int32)), .val (.int (0 : Int32))] [(.int (0 : Int32)), (.ref b145)] := (((((k209.iload X207 hx (hb hby at_369) rfl).ifNo X207 hx (hb hby at_371) (XT.i0_eq_f (by decide))).iload X207 hx (hb hby at_374) rfl).ifNo X207 hx (hb hby at_376) (XT.i0_ne_f (by decide))).aload X207 hx (hb hby at_379) rfl rfl).iconst X207 hx (hb hby at_381) (v := (0 : Int32)) rfl
        have k211 : Go p e below m W T207 391 #[.val (.int p1), .val (.int p2), .val (.int p3), .val (.int p4), .val (.int p5), .val (.int (0 : Int32)), .val (.int (1 : Int32)), .val (.int r96), .val (.int r103), .val (.int r107), .val (.int u111_S0), .val (.int u117_S0), .val (.ref b122), .val (.ref b138), .val (.ref b145), .val (.int (0 : Int32)), .val (.int (-1 : Int32)), .val (.int (0 : Int32)), .val (.int (0 : Int32)), .val (.int u111_S0), .val (.int u117_S0), .val (.int (1 : Int32)), .val (.int (0 : Int32))] [(.int (1 : Int32)), (.ref b145)] := ((((k210.iaload (i := 0) (n := 2) X207 hx hZ e207 q207_0 rfl rfl (by decide) (by decide) rfl (hb hby at_382)).iload X207 hx (hb hby at_383) rfl).icmpNo X207 hx (hb hby at_385) (XT.ii_ne_f rfl)).aload X207 hx (hb hby at_388) rfl rfl).iconst X207 hx (hb hby at_390) (v := (1 : Int32)) rfl
        have k212 : Go p e below m W T207 402 #[.val (.int p1), .val (.int p2), .val (.int p3), .val (.int p4), .val (.int p5), .val (.int (0 : Int32)), .val (.int (1 : Int32)), .val (.int r96), .val (.int r103), .val (.int r107), .val (.int u111_S0), .val (.int u117_S0), .val (.ref b122), .val (.ref b138), .val (.ref b145), .val (.int (0 : Int32)), .val (.int (-1 : Int32)), .val (.int (0 : Int32)), .val (.int (0 : Int32)), .val (.int u111_S0), .val (.int u117_S0), .val (.int (1 : Int32)), .val (.int (0 : Int32))] [(.int (1 : Int32))] := ((((k211.iaload (i := 1) (n := 2) X207 hx hZ e207 q207_0 rfl rfl (by decide) (by decide) rfl (hb hby at_391)).iload X207 hx (hb hby at_392) rfl).icmpNo X207 hx (hb hby at_394) (XT.ii_ne_f rfl)).iconst X207 hx (hb hby at_397) (v := (1 : Int32)) rfl).goto X207 hx (hb hby at_398) (by decide) (by decide)
        exact k212.ireturnN X207 hx (t := .boolean) Bd.returns (by simp) rfl (hb hby at_402) (BodyLoose.notSynchronized Bd) (by rw [e207]; exact ⟨rfl, N207⟩) (by decide) (by decide)
  ·
    have k213 : Go p e below m W s₁ 13 #[.val (.int p1), .val (.int p2), .val (.int p3), .val (.int p4), .val (.int p5), .val (.int (1 : Int32)), .unset, .unset, .unset, .unset, .unset, .unset, .unset, .unset, .unset, .unset, .unset, .unset, .unset, .unset, .unset, .unset, .unset] [] := (((k20.ifNo X0 hx (hb hby at_3) (XT.i0_eq_f hc3_21)).iconst X0 hx (hb hby at_6) (v := (1 : Int32)) rfl).goto X0 hx (hb hby at_7) (by decide) (by decide)).istore X0 hx (hb hby at_11) rfl
    have k214 : Go p e below m W s₁ 16 #[.val (.int p1), .val (.int p2), .val (.int p3), .val (.int p4), .val (.int p5), .val (.int (1 : Int32)), .unset, .unset, .unset, .unset, .unset, .unset, .unset, .unset, .unset, .unset, .unset, .unset, .unset, .unset, .unset, .unset, .unset] [(.int (p1 &&& (2 : Int32)))] := ((k213.iloadN X0 hx (hb hby at_13) rfl).iconst X0 hx (hb hby at_14) (v := (2 : Int32)) rfl).iand X0 hx (hb hby at_15)
    by_cases hc16_215 : (p1 &&& (2 : Int32)) = (0 : Int32)
    ·
      have k216 : Go p e below m W s₁ 26 #[.val (.int p1), .val (.int p2), .val (.int p3), .val (.int p4), .val (.int p5), .val (.int (1 : Int32)), .val (.int (0 : Int32)), .unset, .unset, .unset, .unset, .unset, .unset, .unset, .unset, .unset, .unset, .unset, .unset, .unset, .unset, .unset, .unset] [] := ((k214.ifYes X0 hx (hb hby at_16) (XT.i0_eq_t hc16_215) (by decide) (by decide)).iconst X0 hx (hb hby at_23) (v := (0 : Int32)) rfl).istore X0 hx (hb hby at_24) rfl
      have k217 : Go p e below m W s₁ 35 #[.val (.int p1), .val (.int p2), .val (.int p3), .val (.int p4), .val (.int p5), .val (.int (1 : Int32)), .val (.int (0 : Int32)), .unset, .unset, .unset, .unset, .unset, .unset, .unset, .unset, .unset, .unset, .unset, .unset, .unset, .unset, .unset, .unset] [(.int (((XT.ushr p1 (2 : Int32)) &&& (255 : Int32)) % (4 : Int32)))] := ((((((k216.iloadN X0 hx (hb hby at_26) rfl).iconst X0 hx (hb hby at_27) (v := (2 : Int32)) rfl).iushr X0 hx (hb hby at_28)).sipush X0 hx (hb hby at_29) (v := (255 : Int32)) rfl).iand X0 hx (hb hby at_32)).iconst X0 hx (hb hby at_33) (v := (4 : Int32)) rfl).irem X0 hx (hb hby at_34) (by decide)
      obtain ⟨r218, hr218, hs218⟩ : ∃ r : Int32, r = (((XT.ushr p1 (2 : Int32)) &&& (255 : Int32)) % (4 : Int32)) ∧ (r = (0 : Int32) ∨ r = (1 : Int32) ∨ r = (2 : Int32) ∨ r = (3 : Int32)) := ⟨_, rfl, own_r4 (own_and (by decide))⟩
      have k219 : Go p e below m W s₁ 35 #[.val (.int p1), .val (.int p2), .val (.int p3), .val (.int p4), .val (.int p5), .val (.int (1 : Int32)), .val (.int (0 : Int32)), .unset, .unset, .unset, .unset, .unset, .unset, .unset, .unset, .unset, .unset, .unset, .unset, .unset, .unset, .unset, .unset] [(.int r218)] := hr218 ▸ k217
      clear hr218
      have k220 : Go p e below m W s₁ 37 #[.val (.int p1), .val (.int p2), .val (.int p3), .val (.int p4), .val (.int p5), .val (.int (1 : Int32)), .val (.int (0 : Int32)), .val (.int r218), .unset, .unset, .unset, .unset, .unset, .unset, .unset, .unset, .unset, .unset, .unset, .unset, .unset, .unset, .unset] [] := k219.istore X0 hx (hb hby at_35) rfl
      have k221 : Go p e below m W s₁ 49 #[.val (.int p1), .val (.int p2), .val (.int p3), .val (.int p4), .val (.int p5), .val (.int (1 : Int32)), .val (.int (0 : Int32)), .val (.int r218), .unset, .unset, .unset, .unset, .unset, .unset, .unset, .unset, .unset, .unset, .unset, .unset, .unset, .unset, .unset] [(.int (((XT.ushr p1 (10 : Int32)) &&& (3 : Int32)) % (3 : Int32))), (.int (r218 + (1 : Int32)))] := (((((((((k220.iload X0 hx (hb hby at_37) rfl).iconst X0 hx (hb hby at_39) (v := (1 : Int32)) rfl).iadd X0 hx (hb hby at_40)).iloadN X0 hx (hb hby at_41) rfl).bipush X0 hx (hb hby at_42) (v := (10 : Int32)) rfl).iushr X0 hx (hb hby at_44)).iconst X0 hx (hb hby at_45) (v := (3 : Int32)) rfl).iand X0 hx (hb hby at_46)).iconst X0 hx (hb hby at_47) (v := (3 : Int32)) rfl).irem X0 hx (hb hby at_48) (by decide)
      obtain ⟨r222, hr222, hs222⟩ : ∃ r : Int32, r = (((XT.ushr p1 (10 : Int32)) &&& (3 : Int32)) % (3 : Int32)) ∧ (r = (0 : Int32) ∨ r = (1 : Int32) ∨ r = (2 : Int32)) := ⟨_, rfl, own_r3 (own_and (by decide))⟩
      have k223 : Go p e below m W s₁ 49 #[.val (.int p1), .val (.int p2), .val (.int p3), .val (.int p4), .val (.int p5), .val (.int (1 : Int32)), .val (.int (0 : Int32)), .val (.int r218), .unset, .unset, .unset, .unset, .unset, .unset, .unset, .unset, .unset, .unset, .unset, .unset, .unset, .unset, .unset] [(.int r222), (.int (r218 + (1 : Int32)))] := hr222 ▸ k221
      clear hr222
      have k224 : Go p e below m W s₁ 52 #[.val (.int p1), .val (.int p2), .val (.int p3), .val (.int p4), .val (.int p5), .val (.int (1 : Int32)), .val (.int (0 : Int32)), .val (.int r218), .unset, .unset, .unset, .unset, .unset, .unset, .unset, .unset, .unset, .unset, .unset, .unset, .unset, .unset, .unset] [(.int (((r218 + (1 : Int32)) + r222) % (4 : Int32)))] := ((k223.iadd X0 hx (hb hby at_49)).iconst X0 hx (hb hby at_50) (v := (4 : Int32)) rfl).irem X0 hx (hb hby at_51) (by decide)
      obtain ⟨r225, hr225, hs225⟩ : ∃ r : Int32, r = (((r218 + (1 : Int32)) + r222) % (4 : Int32)) ∧ ((r = (0 : Int32) ∨ r = (1 : Int32) ∨ r = (2 : Int32) ∨ r = (3 : Int32)) ∧ ¬ (r = r218)) := ⟨_, rfl, own_f1 hs218 hs222⟩
      have k226 : Go p e below m W s₁ 52 #[.val (.int p1), .val (.int p2), .val (.int p3), .val (.int p4), .val (.int p5), .val (.int (1 : Int32)), .val (.int (0 : Int32)), .val (.int r218), .unset, .unset, .unset, .unset, .unset, .unset, .unset, .unset, .unset, .unset, .unset, .unset, .unset, .unset, .unset] [(.int r225)] := hr225 ▸ k224
      clear hr225
      have k227 : Go p e below m W s₁ 54 #[.val (.int p1), .val (.int p2), .val (.int p3), .val (.int p4), .val (.int p5), .val (.int (1 : Int32)), .val (.int (0 : Int32)), .val (.int r218), .val (.int r225), .unset, .unset, .unset, .unset, .unset, .unset, .unset, .unset, .unset, .unset, .unset, .unset, .unset, .unset] [] := k226.istore X0 hx (hb hby at_52) rfl
      have k228 : Go p e below m W s₁ 60 #[.val (.int p1), .val (.int p2), .val (.int p3), .val (.int p4), .val (.int p5), .val (.int (1 : Int32)), .val (.int (0 : Int32)), .val (.int r218), .val (.int r225), .unset, .unset, .unset, .unset, .unset, .unset, .unset, .unset, .unset, .unset, .unset, .unset, .unset, .unset] [(.int ((p2 &&& (2147483647 : Int32)) % (4 : Int32)))] := ((((k227.iloadN X0 hx (hb hby at_54) rfl).ldcI X0 hx hZ hown (hv 0 rfl) (hb hby at_55)).iand X0 hx (hb hby at_57)).iconst X0 hx (hb hby at_58) (v := (4 : Int32)) rfl).irem X0 hx (hb hby at_59) (by decide)
      obtain ⟨r229, hr229, hs229⟩ : ∃ r : Int32, r = ((p2 &&& (2147483647 : Int32)) % (4 : Int32)) ∧ (r = (0 : Int32) ∨ r = (1 : Int32) ∨ r = (2 : Int32) ∨ r = (3 : Int32)) := ⟨_, rfl, own_r4 (own_mask p2)⟩
      have k230 : Go p e below m W s₁ 60 #[.val (.int p1), .val (.int p2), .val (.int p3), .val (.int p4), .val (.int p5), .val (.int (1 : Int32)), .val (.int (0 : Int32)), .val (.int r218), .val (.int r225), .unset, .unset, .unset, .unset, .unset, .unset, .unset, .unset, .unset, .unset, .unset, .unset, .unset, .unset] [(.int r229)] := hr229 ▸ k228
      clear hr229
      have k231 : Go p e below m W s₁ 62 #[.val (.int p1), .val (.int p2), .val (.int p3), .val (.int p4), .val (.int p5), .val (.int (1 : Int32)), .val (.int (0 : Int32)), .val (.int r218), .val (.int r225), .val (.int r229), .unset, .unset, .unset, .unset, .unset, .unset, .unset, .unset, .unset, .unset, .unset, .unset, .unset] [] := k230.istore X0 hx (hb hby at_60) rfl
      have k232 : Go p e below m W s₁ 67 #[.val (.int p1), .val (.int p2), .val (.int p3), .val (.int p4), .val (.int p5), .val (.int (1 : Int32)), .val (.int (0 : Int32)), .val (.int r218), .val (.int r225), .val (.int r229), .unset, .unset, .unset, .unset, .unset, .unset, .unset, .unset, .unset, .unset, .unset, .unset, .unset] [(.int (p1 &&& (4096 : Int32)))] := ((k231.iloadN X0 hx (hb hby at_62) rfl).sipush X0 hx (hb hby at_63) (v := (4096 : Int32)) rfl).iand X0 hx (hb hby at_66)
      obtain ⟨u233_S0, hd233, k233⟩ : ∃ (u233_S0 : Int32), ((((p1 &&& (4096 : Int32)) = (0 : Int32)) ∧ u233_S0 = (p3 &&& (2147483647 : Int32))) ∨ ((¬ ((p1 &&& (4096 : Int32)) = (0 : Int32))) ∧ u233_S0 = (2147483647 : Int32))) ∧ Go p e below m W s₁ 79 #[.val (.int p1), .val (.int p2), .val (.int p3), .val (.int p4), .val (.int p5), .val (.int (1 : Int32)), .val (.int (0 : Int32)), .val (.int r218), .val (.int r225), .val (.int r229), .unset, .unset, .unset, .unset, .unset, .unset, .unset, .unset, .unset, .unset, .unset, .unset, .unset] [(.int u233_S0)] := by
        by_cases hc67_234 : (p1 &&& (4096 : Int32)) = (0 : Int32)
        ·
          have k235 : Go p e below m W s₁ 79 #[.val (.int p1), .val (.int p2), .val (.int p3), .val (.int p4), .val (.int p5), .val (.int (1 : Int32)), .val (.int (0 : Int32)), .val (.int r218), .val (.int r225), .val (.int r229), .unset, .unset, .unset, .unset, .unset, .unset, .unset, .unset, .unset, .unset, .unset, .unset, .unset] [(.int (p3 &&& (2147483647 : Int32)))] := (((k232.ifYes X0 hx (hb hby at_67) (XT.i0_eq_t hc67_234) (by decide) (by decide)).iloadN X0 hx (hb hby at_75) rfl).ldcI X0 hx hZ hown (hv 0 rfl) (hb hby at_76)).iand X0 hx (hb hby at_78)
          exact ⟨(p3 &&& (2147483647 : Int32)), (Or.inl ⟨hc67_234, rfl⟩), k235⟩
        ·
          have k236 : Go p e below m W s₁ 79 #[.val (.int p1), .val (.int p2), .val (.int p3), .val (.int p4), .val (.int p5), .val (.int (1 : Int32)), .val (.int (0 : Int32)), .val (.int r218), .val (.int r225), .val (.int r229), .unset, .unset, .unset, .unset, .unset, .unset, .unset, .unset, .unset, .unset, .unset, .unset, .unset] [(.int (2147483647 : Int32))] := ((k232.ifNo X0 hx (hb hby at_67) (XT.i0_eq_f hc67_234)).ldcI X0 hx hZ hown (hv 0 rfl) (hb hby at_70)).goto X0 hx (hb hby at_72) (by decide) (by decide)
          exact ⟨(2147483647 : Int32), (Or.inr ⟨hc67_234, rfl⟩), k236⟩
      have k237 : Go p e below m W s₁ 81 #[.val (.int p1), .val (.int p2), .val (.int p3), .val (.int p4), .val (.int p5), .val (.int (1 : Int32)), .val (.int (0 : Int32)), .val (.int r218), .val (.int r225), .val (.int r229), .val (.int u233_S0), .unset, .unset, .unset, .unset, .unset, .unset, .unset, .unset, .unset, .unset, .unset, .unset] [] := k233.istore X0 hx (hb hby at_79) rfl
      have k238 : Go p e below m W s₁ 86 #[.val (.int p1), .val (.int p2), .val (.int p3), .val (.int p4), .val (.int p5), .val (.int (1 : Int32)), .val (.int (0 : Int32)), .val (.int r218), .val (.int r225), .val (.int r229), .val (.int u233_S0), .unset, .unset, .unset, .unset, .unset, .unset, .unset, .unset, .unset, .unset, .unset, .unset] [(.int (p1 &&& (8192 : Int32)))] := ((k237.iloadN X0 hx (hb hby at_81) rfl).sipush X0 hx (hb hby at_82) (v := (8192 : Int32)) rfl).iand X0 hx (hb hby at_85)
      obtain ⟨u239_S0, hd239, k239⟩ : ∃ (u239_S0 : Int32), ((((p1 &&& (8192 : Int32)) = (0 : Int32)) ∧ u239_S0 = (p4 &&& (2147483647 : Int32))) ∨ ((¬ ((p1 &&& (8192 : Int32)) = (0 : Int32))) ∧ u239_S0 = (2147483647 : Int32))) ∧ Go p e below m W s₁ 98 #[.val (.int p1), .val (.int p2), .val (.int p3), .val (.int p4), .val (.int p5), .val (.int (1 : Int32)), .val (.int (0 : Int32)), .val (.int r218), .val (.int r225), .val (.int r229), .val (.int u233_S0), .unset, .unset, .unset, .unset, .unset, .unset, .unset, .unset, .unset, .unset, .unset, .unset] [(.int u239_S0)] := by
        by_cases hc86_240 : (p1 &&& (8192 : Int32)) = (0 : Int32)
        ·
          have k241 : Go p e below m W s₁ 98 #[.val (.int p1), .val (.int p2), .val (.int p3), .val (.int p4), .val (.int p5), .val (.int (1 : Int32)), .val (.int (0 : Int32)), .val (.int r218), .val (.int r225), .val (.int r229), .val (.int u233_S0), .unset, .unset, .unset, .unset, .unset, .unset, .unset, .unset, .unset, .unset, .unset, .unset] [(.int (p4 &&& (2147483647 : Int32)))] := (((k238.ifYes X0 hx (hb hby at_86) (XT.i0_eq_t hc86_240) (by decide) (by decide)).iloadN X0 hx (hb hby at_94) rfl).ldcI X0 hx hZ hown (hv 0 rfl) (hb hby at_95)).iand X0 hx (hb hby at_97)
          exact ⟨(p4 &&& (2147483647 : Int32)), (Or.inl ⟨hc86_240, rfl⟩), k241⟩
        ·
          have k242 : Go p e below m W s₁ 98 #[.val (.int p1), .val (.int p2), .val (.int p3), .val (.int p4), .val (.int p5), .val (.int (1 : Int32)), .val (.int (0 : Int32)), .val (.int r218), .val (.int r225), .val (.int r229), .val (.int u233_S0), .unset, .unset, .unset, .unset, .unset, .unset, .unset, .unset, .unset, .unset, .unset, .unset] [(.int (2147483647 : Int32))] := ((k238.ifNo X0 hx (hb hby at_86) (XT.i0_eq_f hc86_240)).ldcI X0 hx hZ hown (hv 0 rfl) (hb hby at_89)).goto X0 hx (hb hby at_91) (by decide) (by decide)
          exact ⟨(2147483647 : Int32), (Or.inr ⟨hc86_240, rfl⟩), k242⟩
      have k243 : Go p e below m W s₁ 100 #[.val (.int p1), .val (.int p2), .val (.int p3), .val (.int p4), .val (.int p5), .val (.int (1 : Int32)), .val (.int (0 : Int32)), .val (.int r218), .val (.int r225), .val (.int r229), .val (.int u233_S0), .val (.int u239_S0), .unset, .unset, .unset, .unset, .unset, .unset, .unset, .unset, .unset, .unset, .unset] [] := k239.istore X0 hx (hb hby at_98) rfl
      obtain ⟨T244, h244, b244, X244, e244, g244, E244, A244, D244, k244⟩ := k243.newO (cells' := 1) (slots' := 3) X0 hx hZ hown (hv 1 rfl) (hv 2 rfl) (hv 3 rfl) e0 (hb hby at_100) rfl rfl (by decide) (by decide)
      have k244 : Go p e below m W T244 103 #[.val (.int p1), .val (.int p2), .val (.int p3), .val (.int p4), .val (.int p5), .val (.int (1 : Int32)), .val (.int (0 : Int32)), .val (.int r218), .val (.int r225), .val (.int r229), .val (.int u233_S0), .val (.int u239_S0), .unset, .unset, .unset, .unset, .unset, .unset, .unset, .unset, .unset, .unset, .unset] [(.ref b244)] := k244
      have Z244 : n0 ≤ h244.size := Nat.le_trans Z0 E244.1
      have G244 : n0 ≤ b244 := g244 ▸ Z0
      have f245 : Fld Z h244 b244 "java/util/AbstractList" "modCount" "I" (.int (0 : Int32)) := D244 (Or.inl (hv 23 rfl)) (ty := .int) (by decide)
      have f246 : Fld Z h244 b244 "java/util/ArrayList" "elementData" "[Ljava/lang/Object;" .null := D244 (Or.inl (hv 26 rfl)) (ty := (.array (.object "java/lang/Object"))) (by decide)
      have f247 : Fld Z h244 b244 "java/util/ArrayList" "size" "I" (.int (0 : Int32)) := D244 (Or.inl (hv 78 rfl)) (ty := .int) (by decide)
      have k248 : Go p e below m W T244 104 #[.val (.int p1), .val (.int p2), .val (.int p3), .val (.int p4), .val (.int p5), .val (.int (1 : Int32)), .val (.int (0 : Int32)), .val (.int r218), .val (.int r225), .val (.int r229), .val (.int u233_S0), .val (.int u239_S0), .unset, .unset, .unset, .unset, .unset, .unset, .unset, .unset, .unset, .unset, .unset] [(.ref b244), (.ref b244)] := k244.dup X244 hx (hb hby at_103) rfl
      have g_47 := O0.ext E244
      obtain ⟨T249, v249, L249, X249, Q249, k249⟩ := k248.spec (y := (⟨"java/util/ArrayList", "<init>", "()V"⟩ : MethodName)) (b := b244) (Wd := 1) (cells' := 1) (slots' := 3) (argsL := []) (rest := [(.ref b244)]) X244 hx hZ hown (by rw [hml]; rfl) rfl (hv 4 rfl) (hv 5 rfl) (hv 6 rfl) (hv 3 rfl) (hb hby at_104) (by decide) (rmar l Z a0 hw [] b244 de (.int (0 : Int32)) .null h244 n0 Z244 g_47 SD A244 G244 f245 f246 f247) e244 rfl rfl pd_rmal_0 rfl (Nat.le_of_eq rfl) (by decide) (by decide) rfl rfl (by decide) (by decide)
      obtain ⟨rfl, Nq249, Kq249, q249_0, q249_1, q249_2, q249_3⟩ := Q249
      have N249 := Fr.app N0 Nq249
      obtain ⟨h249, e249⟩ : ∃ h, T249.heap = h := ⟨_, rfl⟩
      rw [e249] at Kq249 q249_0 q249_1 q249_2 q249_3
      have Z249 : n0 ≤ h249.size := Nat.le_trans Z244 Kq249.1
      have k249 : Go p e below m W T249 107 #[.val (.int p1), .val (.int p2), .val (.int p3), .val (.int p4), .val (.int p5), .val (.int (1 : Int32)), .val (.int (0 : Int32)), .val (.int r218), .val (.int r225), .val (.int r229), .val (.int u233_S0), .val (.int u239_S0), .unset, .unset, .unset, .unset, .unset, .unset, .unset, .unset, .unset, .unset, .unset] [(.ref b244)] := k249
      have k250 : Go p e below m W T249 109 #[.val (.int p1), .val (.int p2), .val (.int p3), .val (.int p4), .val (.int p5), .val (.int (1 : Int32)), .val (.int (0 : Int32)), .val (.int r218), .val (.int r225), .val (.int r229), .val (.int u233_S0), .val (.int u239_S0), .val (.ref b244), .unset, .unset, .unset, .unset, .unset, .unset, .unset, .unset, .unset, .unset] [] := k249.astore X249 hx (hb hby at_107) rfl rfl
      have k251 : Go p e below m W T249 116 #[.val (.int p1), .val (.int p2), .val (.int p3), .val (.int p4), .val (.int p5), .val (.int (1 : Int32)), .val (.int (0 : Int32)), .val (.int r218), .val (.int r225), .val (.int r229), .val (.int u233_S0), .val (.int u239_S0), .val (.ref b244), .unset, .unset, .unset, .unset, .unset, .unset, .unset, .unset, .unset, .unset] [(.ref b244)] := ((k250.iload X249 hx (hb hby at_109) rfl).ifNo X249 hx (hb hby at_111) (XT.i0_eq_f (by decide))).aload X249 hx (hb hby at_114) rfl rfl
      obtain ⟨T252, h252, b252, X252, e252, g252, E252, A252, D252, k252⟩ := k251.newO (cells' := 2) (slots' := 6) X249 hx hZ hown (hv 95 rfl) (hv 96 rfl) (hv 97 rfl) e249 (hb hby at_116) rfl rfl (by decide) (by decide)
      have k252 : Go p e below m W T252 119 #[.val (.int p1), .val (.int p2), .val (.int p3), .val (.int p4), .val (.int p5), .val (.int (1 : Int32)), .val (.int (0 : Int32)), .val (.int r218), .val (.int r225), .val (.int r229), .val (.int u233_S0), .val (.int u239_S0), .val (.ref b244), .unset, .unset, .unset, .unset, .unset, .unset, .unset, .unset, .unset, .unset] [(.ref b252), (.ref b244)] := k252
      have Z252 : n0 ≤ h252.size := Nat.le_trans Z249 E252.1
      have G252 : n0 ≤ b252 := g252 ▸ Z249
      have f253 : Fld Z h252 b252 "com/example/enact/enact/Classification$Flat" "place" "I" (.int (0 : Int32)) := D252 (Or.inr (hv 108 rfl)) (ty := .int) (by decide)
      have f254 : Fld Z h252 b252 "com/example/enact/enact/Classification$Flat" "feeder" "I" (.int (0 : Int32)) := D252 (Or.inr (hv 110 rfl)) (ty := .int) (by decide)
      have f255 : Fld Z h252 b252 "com/example/enact/enact/Classification$Flat" "drainer" "I" (.int (0 : Int32)) := D252 (Or.inr (hv 112 rfl)) (ty := .int) (by decide)
      have k256 : Go p e below m W T252 129 #[.val (.int p1), .val (.int p2), .val (.int p3), .val (.int p4), .val (.int p5), .val (.int (1 : Int32)), .val (.int (0 : Int32)), .val (.int r218), .val (.int r225), .val (.int r229), .val (.int u233_S0), .val (.int u239_S0), .val (.ref b244), .unset, .unset, .unset, .unset, .unset, .unset, .unset, .unset, .unset, .unset] [(.int ((r218 + (2 : Int32)) % (4 : Int32))), (.int r218), (.int (0 : Int32)), (.ref b252), (.ref b252), (.ref b244)] := (((((((k252.dup X252 hx (hb hby at_119) rfl).iconst X252 hx (hb hby at_120) (v := (0 : Int32)) rfl).iload X252 hx (hb hby at_121) rfl).iload X252 hx (hb hby at_123) rfl).iconst X252 hx (hb hby at_125) (v := (2 : Int32)) rfl).iadd X252 hx (hb hby at_126)).iconst X252 hx (hb hby at_127) (v := (4 : Int32)) rfl).irem X252 hx (hb hby at_128) (by decide)
      obtain ⟨T257, v257, L257, X257, Q257, k257⟩ := k256.spec (y := (⟨"com/example/enact/enact/Classification$Flat", "<init>", "(III)V"⟩ : MethodName)) (b := b252) (Wd := 2) (cells' := 2) (slots' := 6) (argsL := [(.int (0 : Int32)), (.int r218), (.int ((r218 + (2 : Int32)) % (4 : Int32)))]) (rest := [(.ref b252), (.ref b244)]) X252 hx hZ hown (by rw [hml]; rfl) rfl (hv 98 rfl) (hv 99 rfl) (hv 100 rfl) (hv 97 rfl) (hb hby at_129) (by decide) (rmfl l Z a0 hw [] b252 (0 : Int32) r218 ((r218 + (2 : Int32)) % (4 : Int32)) (.int (0 : Int32)) (.int (0 : Int32)) (.int (0 : Int32)) h252 n0 Z252 A252 G252 f253 f254 f255) e252 rfl rfl pd_rm0_3 rfl (Nat.le_of_eq rfl) (by decide) (by decide) rfl rfl (by decide) (by decide)
      obtain ⟨rfl, Nq257, Kq257, q257_0, q257_1, q257_2⟩ := Q257
      have N257 := Fr.app N249 Nq257
      obtain ⟨h257, e257⟩ : ∃ h, T257.heap = h := ⟨_, rfl⟩
      rw [e257] at Kq257 q257_0 q257_1 q257_2
      have Z257 : n0 ≤ h257.size := Nat.le_trans Z252 Kq257.1
      have k257 : Go p e below m W T257 132 #[.val (.int p1), .val (.int p2), .val (.int p3), .val (.int p4), .val (.int p5), .val (.int (1 : Int32)), .val (.int (0 : Int32)), .val (.int r218), .val (.int r225), .val (.int r229), .val (.int u233_S0), .val (.int u239_S0), .val (.ref b244), .unset, .unset, .unset, .unset, .unset, .unset, .unset, .unset, .unset, .unset] [(.ref b252), (.ref b244)] := k257
      have g_48 := ((g_47.keep Kq249 (by intro x q; simp only [List.mem_cons, List.not_mem_nil, or_false] at q; rcases q with rfl; exact G244)).ext E252).keep Kq257 (by intro x q; simp only [List.mem_cons, List.not_mem_nil, or_false] at q; rcases q with rfl; exact G252)
      have g_49 := (q249_0.ext E252).keep Kq257
      have g_50 := (show b244 ≠ b252 from Nat.ne_of_lt (g252 ▸ q249_0.lt))
      have g_51 := (q249_1.ext E252).keep Kq257 (by simp only [List.mem_cons, List.not_mem_nil, or_false, not_or]; exact g_50)
      have g_52 := (q249_2.ext E252).keep Kq257 (by simp only [List.mem_cons, List.not_mem_nil, or_false, not_or]; exact g_50)
      have g_53 := (q249_3.ext E252).keep Kq257 (by simp only [List.mem_cons, List.not_mem_nil, or_false, not_or]; exact g_50)
      obtain ⟨T258, v258, L258, X258, Q258, k258⟩ := k257.iface (y := (⟨"java/util/List", "add", "(Ljava/lang/Object;)Z"⟩ : MethodName)) (z := (⟨"java/util/ArrayList", "add", "(Ljava/lang/Object;)Z"⟩ : MethodName)) (Wd := 0) (cells' := 3) (slots' := 16) (argsL := [(.ref b252)]) (rest := []) X257 hx hZ hown (by rw [hml]; rfl) (hv 113 rfl) (hv 114 rfl) (mvT hZ (hv 115 rfl)) (hv 116 rfl) (hv 117 rfl) (hv 118 rfl) (hv 119 rfl) (hv 48 rfl) (hv 120 rfl) (hv 3 rfl) (hb hby at_132) (by decide) (rma0 l Z a0 hw [] b244 de kd b252 h257 n0 Z257 g_48 SD VD q257_0 g_49 G244 g_51 g_52 g_53) e257 g_49 rfl rfl pd_rm0_4 rfl (Nat.le_of_eq rfl) (by decide) (by decide) rfl rfl (by decide) (by decide)
      obtain ⟨ob_258, ok_258, rfl, Nq258, Kq258, q258_0, q258_1, q258_2, q258_3, q258_4, q258_5, q258_6, q258_7, q258_8⟩ := Q258
      have N258 := Fr.app N257 Nq258
      obtain ⟨h258, e258⟩ : ∃ h, T258.heap = h := ⟨_, rfl⟩
      rw [e258] at Kq258 q258_0 q258_1 q258_2 q258_3 q258_4
      have Z258 : n0 ≤ h258.size := Nat.le_trans Z257 Kq258.1
      have k258 : Go p e below m W T258 137 #[.val (.int p1), .val (.int p2), .val (.int p3), .val (.int p4), .val (.int p5), .val (.int (1 : Int32)), .val (.int (0 : Int32)), .val (.int r218), .val (.int r225), .val (.int r229), .val (.int u233_S0), .val (.int u239_S0), .val (.ref b244), .unset, .unset, .unset, .unset, .unset, .unset, .unset, .unset, .unset, .unset] [(.int (1 : Int32))] := k258
      have k259 : Go p e below m W T258 167 #[.val (.int p1), .val (.int p2), .val (.int p3), .val (.int p4), .val (.int p5), .val (.int (1 : Int32)), .val (.int (0 : Int32)), .val (.int r218), .val (.int r225), .val (.int r229), .val (.int u233_S0), .val (.int u239_S0), .val (.ref b244), .unset, .unset, .unset, .unset, .unset, .unset, .unset, .unset, .unset, .unset] [] := ((k258.pop X258 hx (hb hby at_137) rfl).iload X258 hx (hb hby at_138) rfl).ifYes X258 hx (hb hby at_140) (XT.i0_eq_t (by decide)) (by decide) (by decide)
      obtain ⟨T260, h260, b260, X260, e260, g260, E260, A260, D260, k260⟩ := k259.newO (cells' := 4) (slots' := 18) X258 hx hZ hown (hv 27 rfl) (hv 28 rfl) (hv 29 rfl) e258 (hb hby at_167) rfl rfl (by decide) (by decide)
      have k260 : Go p e below m W T260 170 #[.val (.int p1), .val (.int p2), .val (.int p3), .val (.int p4), .val (.int p5), .val (.int (1 : Int32)), .val (.int (0 : Int32)), .val (.int r218), .val (.int r225), .val (.int r229), .val (.int u233_S0), .val (.int u239_S0), .val (.ref b244), .unset, .unset, .unset, .unset, .unset, .unset, .unset, .unset, .unset, .unset] [(.ref b260)] := k260
      have Z260 : n0 ≤ h260.size := Nat.le_trans Z258 E260.1
      have G260 : n0 ≤ b260 := g260 ▸ Z258
      have f261 : Fld Z h260 b260 "com/example/enact/enact/FeederAcceleration" "fed" "[I" .null := D260 (Or.inr (hv 36 rfl)) (ty := (.array .int)) (by decide)
      have f262 : Fld Z h260 b260 "com/example/enact/enact/FeederAcceleration" "accelerates" "Z" (.int (0 : Int32)) := D260 (Or.inr (hv 89 rfl)) (ty := .boolean) (by decide)
      have k263 : Go p e below m W T260 174 #[.val (.int p1), .val (.int p2), .val (.int p3), .val (.int p4), .val (.int p5), .val (.int (1 : Int32)), .val (.int (0 : Int32)), .val (.int r218), .val (.int r225), .val (.int r229), .val (.int u233_S0), .val (.int u239_S0), .val (.ref b244), .unset, .unset, .unset, .unset, .unset, .unset, .unset, .unset, .unset, .unset] [(.ref b244), (.int (4 : Int32)), (.ref b260), (.ref b260)] := ((k260.dup X260 hx (hb hby at_170) rfl).iconst X260 hx (hb hby at_171) (v := (4 : Int32)) rfl).aload X260 hx (hb hby at_172) rfl rfl
      have g_54 := q258_0.ext E260
      have g_55 := q258_1.ext E260
      have g_56 := q258_3.ext E260
      have g_57 := q258_2.ext E260
      have g_58 := q258_4.ext E260
      have g_59 := (show ob_258 ≠ b260 from Nat.ne_of_lt (g260 ▸ q258_4.lt))
      have g_60 := (show b244 ≠ b260 from Nat.ne_of_lt (g260 ▸ q258_0.lt))
      have g_61 := (q257_0.keep Kq258).ext E260
      have g_62 := (q257_1.keep Kq258 (by simp only [List.mem_cons, List.not_mem_nil, or_false, not_or]; exact (Ne.symm g_50))).ext E260
      have g_63 := (q257_2.keep Kq258 (by simp only [List.mem_cons, List.not_mem_nil, or_false, not_or]; exact (Ne.symm g_50))).ext E260
      have g_64 := q257_0.keep Kq258
      have g_65 := (show b252 ≠ b260 from Nat.ne_of_lt (g260 ▸ g_64.lt))
      obtain ⟨T264, v264, L264, X264, Q264, k264⟩ := k263.spec (y := (⟨"com/example/enact/enact/FeederAcceleration", "<init>", "(ILjava/util/List;)V"⟩ : MethodName)) (b := b260) (Wd := 1) (cells' := 6) (slots' := 26) (argsL := [(.int (4 : Int32)), (.ref b244)]) (rest := [(.ref b260)]) X260 hx hZ hown (by rw [hml]; rfl) rfl (hv 30 rfl) (hv 31 rfl) (hv 32 rfl) (hv 29 rfl) (hb hby at_174) (by decide) (rmfa1 l Z a0 hw [] b260 b244 .null (.int (0 : Int32)) ob_258 ok_258 b252 r218 (0 : Int32) h260 n0 Z260 A260 G260 f261 f262 g_54 g_55 g_56 g_57 g_58 g_59 g_60 g_61 g_62 g_63 hs218 g_65) e260 rfl rfl pd_rm0_1 rfl (Nat.le_of_eq rfl) (by decide) (by decide) rfl rfl (by decide) (by decide)
      obtain ⟨of_264, okf_264, rfl, Nq264, Kq264, q264_0, q264_1, q264_2, q264_3, q264_4, q264_5⟩ := Q264
      have N264 := Fr.app N258 Nq264
      obtain ⟨h264, e264⟩ : ∃ h, T264.heap = h := ⟨_, rfl⟩
      rw [e264] at Kq264 q264_0 q264_1 q264_2
      have Z264 : n0 ≤ h264.size := Nat.le_trans Z260 Kq264.1
      have k264 : Go p e below m W T264 177 #[.val (.int p1), .val (.int p2), .val (.int p3), .val (.int p4), .val (.int p5), .val (.int (1 : Int32)), .val (.int (0 : Int32)), .val (.int r218), .val (.int r225), .val (.int r229), .val (.int u233_S0), .val (.int u239_S0), .val (.ref b244), .unset, .unset, .unset, .unset, .unset, .unset, .unset, .unset, .unset, .unset] [(.ref b260)] := k264
      have k265 : Go p e below m W T264 179 #[.val (.int p1), .val (.int p2), .val (.int p3), .val (.int p4), .val (.int p5), .val (.int (1 : Int32)), .val (.int (0 : Int32)), .val (.int r218), .val (.int r225), .val (.int r229), .val (.int u233_S0), .val (.int u239_S0), .val (.ref b244), .val (.ref b260), .unset, .unset, .unset, .unset, .unset, .unset, .unset, .unset, .unset] [] := k264.astore X264 hx (hb hby at_177) rfl rfl
      have k266 : Go p e below m W T264 180 #[.val (.int p1), .val (.int p2), .val (.int p3), .val (.int p4), .val (.int p5), .val (.int (1 : Int32)), .val (.int (0 : Int32)), .val (.int r218), .val (.int r225), .val (.int r229), .val (.int u233_S0), .val (.int u239_S0), .val (.ref b244), .val (.ref b260), .unset, .unset, .unset, .unset, .unset, .unset, .unset, .unset, .unset] [(.int (2 : Int32))] := k265.iconst X264 hx (hb hby at_179) (v := (2 : Int32)) rfl
      obtain ⟨T267, h267, b267, c267, X267, e267, g267, E267, A267, k267⟩ := k266.newP (cap := 2) (cells' := 7) (slots' := 28) X264 hx hZ (hv 34 rfl) e264 (hb hby at_180) (by decide) (by decide) (by decide) rfl rfl (by decide) (by decide)
      have k267 : Go p e below m W T267 182 #[.val (.int p1), .val (.int p2), .val (.int p3), .val (.int p4), .val (.int p5), .val (.int (1 : Int32)), .val (.int (0 : Int32)), .val (.int r218), .val (.int r225), .val (.int r229), .val (.int u233_S0), .val (.int u239_S0), .val (.ref b244), .val (.ref b260), .unset, .unset, .unset, .unset, .unset, .unset, .unset, .unset, .unset] [(.ref b267)] := k267
      have Z267 : n0 ≤ h267.size := Nat.le_trans Z264 E267.1
      have G267 : n0 ≤ b267 := g267 ▸ Z264
      have V267 : Arv Z h267 b267 c267 .int (2 : Int32) [(.int (0 : Int32)), (.int (0 : Int32))] (.int (0 : Int32)) := A267 2
      have k268 : Go p e below m W T267 186 #[.val (.int p1), .val (.int p2), .val (.int p3), .val (.int p4), .val (.int p5), .val (.int (1 : Int32)), .val (.int (0 : Int32)), .val (.int r218), .val (.int r225), .val (.int r229), .val (.int u233_S0), .val (.int u239_S0), .val (.ref b244), .val (.ref b260), .unset, .unset, .unset, .unset, .unset, .unset, .unset, .unset, .unset] [(.int u233_S0), (.int (0 : Int32)), (.ref b267), (.ref b267)] := ((k267.dup X267 hx (hb hby at_182) rfl).iconst X267 hx (hb hby at_183) (v := (0 : Int32)) rfl).iload X267 hx (hb hby at_184) rfl
      obtain ⟨T269, h269, l269, X269, e269, W269, V269, N269, k269⟩ := k268.iastore (i := 0) X267 hx hZ e267 V267 rfl rfl (by decide) (Nat.le_of_ble_eq_true rfl) N264 G267 (hb hby at_186)
      have k269 : Go p e below m W T269 187 #[.val (.int p1), .val (.int p2), .val (.int p3), .val (.int p4), .val (.int p5), .val (.int (1 : Int32)), .val (.int (0 : Int32)), .val (.int r218), .val (.int r225), .val (.int r229), .val (.int u233_S0), .val (.int u239_S0), .val (.ref b244), .val (.ref b260), .unset, .unset, .unset, .unset, .unset, .unset, .unset, .unset, .unset] [(.ref b267)] := k269
      have Z269 : n0 ≤ h269.size := (Wr.size W269).symm ▸ Z267
      have V269 : Arv Z h269 b267 c267 .int (2 : Int32) [(.int u233_S0), (.int (0 : Int32))] (.int (0 : Int32)) := V269
      have k270 : Go p e below m W T269 191 #[.val (.int p1), .val (.int p2), .val (.int p3), .val (.int p4), .val (.int p5), .val (.int (1 : Int32)), .val (.int (0 : Int32)), .val (.int r218), .val (.int r225), .val (.int r229), .val (.int u233_S0), .val (.int u239_S0), .val (.ref b244), .val (.ref b260), .unset, .unset, .unset, .unset, .unset, .unset, .unset, .unset, .unset] [(.int u239_S0), (.int (1 : Int32)), (.ref b267), (.ref b267)] := ((k269.dup X269 hx (hb hby at_187) rfl).iconst X269 hx (hb hby at_188) (v := (1 : Int32)) rfl).iload X269 hx (hb hby at_189) rfl
      obtain ⟨T271, h271, l271, X271, e271, W271, V271, N271, k271⟩ := k270.iastore (i := 1) X269 hx hZ e269 V269 rfl rfl (by decide) (Nat.le_of_ble_eq_true rfl) N269 G267 (hb hby at_191)
      have k271 : Go p e below m W T271 192 #[.val (.int p1), .val (.int p2), .val (.int p3), .val (.int p4), .val (.int p5), .val (.int (1 : Int32)), .val (.int (0 : Int32)), .val (.int r218), .val (.int r225), .val (.int r229), .val (.int u233_S0), .val (.int u239_S0), .val (.ref b244), .val (.ref b260), .unset, .unset, .unset, .unset, .unset, .unset, .unset, .unset, .unset] [(.ref b267)] := k271
      have Z271 : n0 ≤ h271.size := (Wr.size W271).symm ▸ Z269
      have V271 : Arv Z h271 b267 c267 .int (2 : Int32) [(.int u233_S0), (.int u239_S0)] (.int (0 : Int32)) := V271
      have k272 : Go p e below m W T271 194 #[.val (.int p1), .val (.int p2), .val (.int p3), .val (.int p4), .val (.int p5), .val (.int (1 : Int32)), .val (.int (0 : Int32)), .val (.int r218), .val (.int r225), .val (.int r229), .val (.int u233_S0), .val (.int u239_S0), .val (.ref b244), .val (.ref b260), .val (.ref b267), .unset, .unset, .unset, .unset, .unset, .unset, .unset, .unset] [] := k271.astore X271 hx (hb hby at_192) rfl rfl
      have k273 : Go p e below m W T271 202 #[.val (.int p1), .val (.int p2), .val (.int p3), .val (.int p4), .val (.int p5), .val (.int (1 : Int32)), .val (.int (0 : Int32)), .val (.int r218), .val (.int r225), .val (.int r229), .val (.int u233_S0), .val (.int u239_S0), .val (.ref b244), .val (.ref b260), .val (.ref b267), .unset, .unset, .unset, .unset, .unset, .unset, .unset, .unset] [(.ref b267), (.int r229), (.int p5), (.ref b260)] := (((k272.aload X271 hx (hb hby at_194) rfl rfl).iload X271 hx (hb hby at_196) rfl).iload X271 hx (hb hby at_198) rfl).aload X271 hx (hb hby at_200) rfl rfl
      have g_66 := (show b260 ≠ b267 from Nat.ne_of_lt (g267 ▸ q264_0.lt))
      have g_67 := ((q264_1.ext E267).other W269 (Or.inl g_66)).other W271 (Or.inl g_66)
      have g_68 := (show of_264 ≠ b267 from Nat.ne_of_lt (g267 ▸ q264_2.lt))
      have g_69 := ((q264_2.ext E267).other W269 g_68).other W271 g_68
      have g_70 := ((q264_0.ext E267).wr W269).wr W271
      obtain ⟨T274, v274, L274, X274, Q274, k274⟩ := k273.virt (y := (⟨"com/example/enact/enact/FeederAcceleration", "accelerate", "(II[I)Z"⟩ : MethodName)) (z := (⟨"com/example/enact/enact/FeederAcceleration", "accelerate", "(II[I)Z"⟩ : MethodName)) (Wd := 0) (cells' := 7) (slots' := 28) (argsL := [(.int p5), (.int r229), (.ref b267)]) (rest := []) X271 hx hZ hown (by rw [hml]; rfl) (hv 90 rfl) (hv 91 rfl) (notFace_of_selects (args := #[]) (mvT hZ (hv 93 rfl))) (hv 93 rfl) (hv 92 rfl) (hv 94 rfl) (hv 29 rfl) (hb hby at_202) (by decide) (rmac l Z a0 hw [] b260 p5 r229 b267 of_264 okf_264 c267 (own_e1 r218 (0 : Int32) (0 : Int32)) (own_e1 r218 (0 : Int32) (1 : Int32)) (own_e1 r218 (0 : Int32) (2 : Int32)) (own_e1 r218 (0 : Int32) (3 : Int32)) u233_S0 u239_S0 h271 n0 Z271 g_67 g_69 V271 G267 g_68 g_66 hs229 (own_3e1 (Or.inl rfl)) (own_3e1 (Or.inl rfl)) (own_3e1 (Or.inl rfl)) (own_3e1 (Or.inl rfl))) e271 g_70 rfl rfl pd_rm0_2 rfl (Nat.le_of_eq rfl) (by decide) (by decide) rfl rfl (by decide) (by decide)
      obtain ⟨ro_274, d0_274, d1_274, rfl, Nq274, Kq274, p274_0, q274_0⟩ := Q274
      have N274 := Fr.app N271 Nq274
      obtain ⟨h274, e274⟩ : ∃ h, T274.heap = h := ⟨_, rfl⟩
      rw [e274] at Kq274 q274_0
      have Z274 : n0 ≤ h274.size := Nat.le_trans Z271 Kq274.1
      have k274 : Go p e below m W T274 205 #[.val (.int p1), .val (.int p2), .val (.int p3), .val (.int p4), .val (.int p5), .val (.int (1 : Int32)), .val (.int (0 : Int32)), .val (.int r218), .val (.int r225), .val (.int r229), .val (.int u233_S0), .val (.int u239_S0), .val (.ref b244), .val (.ref b260), .val (.ref b267), .unset, .unset, .unset, .unset, .unset, .unset, .unset, .unset] [(.int ro_274)] := k274
      have k275 : Go p e below m W T274 207 #[.val (.int p1), .val (.int p2), .val (.int p3), .val (.int p4), .val (.int p5), .val (.int (1 : Int32)), .val (.int (0 : Int32)), .val (.int r218), .val (.int r225), .val (.int r229), .val (.int u233_S0), .val (.int u239_S0), .val (.ref b244), .val (.ref b260), .val (.ref b267), .val (.int ro_274), .unset, .unset, .unset, .unset, .unset, .unset, .unset] [] := k274.istore X274 hx (hb hby at_205) rfl
      have k276 : Go p e below m W T274 216 #[.val (.int p1), .val (.int p2), .val (.int p3), .val (.int p4), .val (.int p5), .val (.int (1 : Int32)), .val (.int (0 : Int32)), .val (.int r218), .val (.int r225), .val (.int r229), .val (.int u233_S0), .val (.int u239_S0), .val (.ref b244), .val (.ref b260), .val (.ref b267), .val (.int ro_274), .unset, .unset, .unset, .unset, .unset, .unset, .unset] [(.int r229), (.int r218)] := (((k275.iload X274 hx (hb hby at_207) rfl).ifNo X274 hx (hb hby at_209) (XT.i0_eq_f (by decide))).iload X274 hx (hb hby at_212) rfl).iload X274 hx (hb hby at_214) rfl
      by_cases hc216_277 : r218 = r229
      ·
        have k278 : Go p e below m W T274 240 #[.val (.int p1), .val (.int p2), .val (.int p3), .val (.int p4), .val (.int p5), .val (.int (1 : Int32)), .val (.int (0 : Int32)), .val (.int r218), .val (.int r225), .val (.int r229), .val (.int u233_S0), .val (.int u239_S0), .val (.ref b244), .val (.ref b260), .val (.ref b267), .val (.int ro_274), .unset, .unset, .unset, .unset, .unset, .unset, .unset] [(.int (0 : Int32))] := ((k276.icmpNo X274 hx (hb hby at_216) (XT.ii_ne_f hc216_277)).iconst X274 hx (hb hby at_219) (v := (0 : Int32)) rfl).goto X274 hx (hb hby at_220) (by decide) (by decide)
        have hz279 := own_acc0 p274_0 ((own_sel1 hs229).trans (own_p1a hc216_277))
        rcases hz279 with ⟨hs280, q281, q282, q283⟩ | ⟨hs284, q285, q286, q287⟩
        ·
          subst ro_274
          subst d0_274
          subst d1_274
          have k288 : Go p e below m W T274 242 #[.val (.int p1), .val (.int p2), .val (.int p3), .val (.int p4), .val (.int p5), .val (.int (1 : Int32)), .val (.int (0 : Int32)), .val (.int r218), .val (.int r225), .val (.int r229), .val (.int u233_S0), .val (.int u239_S0), .val (.ref b244), .val (.ref b260), .val (.ref b267), .val (.int (0 : Int32)), .val (.int (0 : Int32)), .unset, .unset, .unset, .unset, .unset, .unset] [] := k278.istore X274 hx (hb hby at_240) rfl
          have k289 : Go p e below m W T274 266 #[.val (.int p1), .val (.int p2), .val (.int p3), .val (.int p4), .val (.int p5), .val (.int (1 : Int32)), .val (.int (0 : Int32)), .val (.int r218), .val (.int r225), .val (.int r229), .val (.int u233_S0), .val (.int u239_S0), .val (.ref b244), .val (.ref b260), .val (.ref b267), .val (.int (0 : Int32)), .val (.int (0 : Int32)), .val (.int u233_S0), .unset, .unset, .unset, .unset, .unset] [] := ((((k288.iload X274 hx (hb hby at_242) rfl).ifNo X274 hx (hb hby at_244) (XT.i0_ne_f (by decide))).iload X274 hx (hb hby at_247) rfl).goto X274 hx (hb hby at_249) (by decide) (by decide)).istore X274 hx (hb hby at_264) rfl
          have k290 : Go p e below m W T274 285 #[.val (.int p1), .val (.int p2), .val (.int p3), .val (.int p4), .val (.int p5), .val (.int (1 : Int32)), .val (.int (0 : Int32)), .val (.int r218), .val (.int r225), .val (.int r229), .val (.int u233_S0), .val (.int u239_S0), .val (.ref b244), .val (.ref b260), .val (.ref b267), .val (.int (0 : Int32)), .val (.int (0 : Int32)), .val (.int u233_S0), .val (.int (0 : Int32)), .unset, .unset, .unset, .unset] [] := ((((((k289.iload X274 hx (hb hby at_266) rfl).ifNo X274 hx (hb hby at_268) (XT.i0_lt_f (by decide))).iload X274 hx (hb hby at_271) rfl).ldcI X274 hx hZ hown (hv 0 rfl) (hb hby at_273)).icmpYes X274 hx (hb hby at_275) (XT.ii_eq_t hs280) (by decide) (by decide)).iconst X274 hx (hb hby at_282) (v := (0 : Int32)) rfl).istore X274 hx (hb hby at_283) rfl
          have k291 : Go p e below m W T274 304 #[.val (.int p1), .val (.int p2), .val (.int p3), .val (.int p4), .val (.int p5), .val (.int (1 : Int32)), .val (.int (0 : Int32)), .val (.int r218), .val (.int r225), .val (.int r229), .val (.int u233_S0), .val (.int u239_S0), .val (.ref b244), .val (.ref b260), .val (.ref b267), .val (.int (0 : Int32)), .val (.int (0 : Int32)), .val (.int u233_S0), .val (.int (0 : Int32)), .val (.int u233_S0), .unset, .unset, .unset] [] := (((k290.iload X274 hx (hb hby at_285) rfl).ifYes X274 hx (hb hby at_287) (XT.i0_eq_t (by decide)) (by decide) (by decide)).iload X274 hx (hb hby at_300) rfl).istore X274 hx (hb hby at_302) rfl
          have k292 : Go p e below m W T274 324 #[.val (.int p1), .val (.int p2), .val (.int p3), .val (.int p4), .val (.int p5), .val (.int (1 : Int32)), .val (.int (0 : Int32)), .val (.int r218), .val (.int r225), .val (.int r229), .val (.int u233_S0), .val (.int u239_S0), .val (.ref b244), .val (.ref b260), .val (.ref b267), .val (.int (0 : Int32)), .val (.int (0 : Int32)), .val (.int u233_S0), .val (.int (0 : Int32)), .val (.int u233_S0), .val (.int u239_S0), .unset, .unset] [] := (((k291.iload X274 hx (hb hby at_304) rfl).ifYes X274 hx (hb hby at_306) (XT.i0_eq_t (by decide)) (by decide) (by decide)).iload X274 hx (hb hby at_320) rfl).istore X274 hx (hb hby at_322) rfl
          have k293 : Go p e below m W T274 334 #[.val (.int p1), .val (.int p2), .val (.int p3), .val (.int p4), .val (.int p5), .val (.int (1 : Int32)), .val (.int (0 : Int32)), .val (.int r218), .val (.int r225), .val (.int r229), .val (.int u233_S0), .val (.int u239_S0), .val (.ref b244), .val (.ref b260), .val (.ref b267), .val (.int (0 : Int32)), .val (.int (0 : Int32)), .val (.int u233_S0), .val (.int (0 : Int32)), .val (.int u233_S0), .val (.int u239_S0), .unset, .unset] [(.int (0 : Int32)), (.ref b267)] := ((((k292.iload X274 hx (hb hby at_324) rfl).iload X274 hx (hb hby at_326) rfl).icmpNo X274 hx (hb hby at_328) (XT.ii_ne_f (by decide))).aload X274 hx (hb hby at_331) rfl rfl).iconst X274 hx (hb hby at_333) (v := (0 : Int32)) rfl
          have k294 : Go p e below m W T274 343 #[.val (.int p1), .val (.int p2), .val (.int p3), .val (.int p4), .val (.int p5), .val (.int (1 : Int32)), .val (.int (0 : Int32)), .val (.int r218), .val (.int r225), .val (.int r229), .val (.int u233_S0), .val (.int u239_S0), .val (.ref b244), .val (.ref b260), .val (.ref b267), .val (.int (0 : Int32)), .val (.int (0 : Int32)), .val (.int u233_S0), .val (.int (0 : Int32)), .val (.int u233_S0), .val (.int u239_S0), .unset, .unset] [(.int (1 : Int32)), (.ref b267)] := ((((k293.iaload (i := 0) (n := 2) X274 hx hZ e274 q274_0 rfl rfl (by decide) (by decide) rfl (hb hby at_334)).iload X274 hx (hb hby at_335) rfl).icmpNo X274 hx (hb hby at_337) (XT.ii_ne_f rfl)).aload X274 hx (hb hby at_340) rfl rfl).iconst X274 hx (hb hby at_342) (v := (1 : Int32)) rfl
          have k295 : Go p e below m W T274 356 #[.val (.int p1), .val (.int p2), .val (.int p3), .val (.int p4), .val (.int p5), .val (.int (1 : Int32)), .val (.int (0 : Int32)), .val (.int r218), .val (.int r225), .val (.int r229), .val (.int u233_S0), .val (.int u239_S0), .val (.ref b244), .val (.ref b260), .val (.ref b267), .val (.int (0 : Int32)), .val (.int (0 : Int32)), .val (.int u233_S0), .val (.int (0 : Int32)), .val (.int u233_S0), .val (.int u239_S0), .val (.int (1 : Int32)), .unset] [] := (((((k294.iaload (i := 1) (n := 2) X274 hx hZ e274 q274_0 rfl rfl (by decide) (by decide) rfl (hb hby at_343)).iload X274 hx (hb hby at_344) rfl).icmpNo X274 hx (hb hby at_346) (XT.ii_ne_f rfl)).iconst X274 hx (hb hby at_349) (v := (1 : Int32)) rfl).goto X274 hx (hb hby at_350) (by decide) (by decide)).istore X274 hx (hb hby at_354) rfl
          have k296 : Go p e below m W T274 364 #[.val (.int p1), .val (.int p2), .val (.int p3), .val (.int p4), .val (.int p5), .val (.int (1 : Int32)), .val (.int (0 : Int32)), .val (.int r218), .val (.int r225), .val (.int r229), .val (.int u233_S0), .val (.int u239_S0), .val (.ref b244), .val (.ref b260), .val (.ref b267), .val (.int (0 : Int32)), .val (.int (0 : Int32)), .val (.int u233_S0), .val (.int (0 : Int32)), .val (.int u233_S0), .val (.int u239_S0), .val (.int (1 : Int32)), .unset] [(.ref b267), (.int r229), (.int p5), (.ref b260)] := (((k295.aload X274 hx (hb hby at_356) rfl rfl).iload X274 hx (hb hby at_358) rfl).iload X274 hx (hb hby at_360) rfl).aload X274 hx (hb hby at_362) rfl rfl
          have g_71 := g_67.keep Kq274 (by simp only [List.mem_cons, List.not_mem_nil, or_false, not_or]; exact g_66)
          have g_72 := g_69.keep Kq274 (by simp only [List.mem_cons, List.not_mem_nil, or_false, not_or]; exact g_68)
          have g_73 := g_70.keep Kq274
          obtain ⟨T297, v297, L297, X297, Q297, k297⟩ := k296.virt (y := (⟨"com/example/enact/enact/FeederAcceleration", "accelerate", "(II[I)Z"⟩ : MethodName)) (z := (⟨"com/example/enact/enact/FeederAcceleration", "accelerate", "(II[I)Z"⟩ : MethodName)) (Wd := 0) (cells' := 7) (slots' := 28) (argsL := [(.int p5), (.int r229), (.ref b267)]) (rest := []) X274 hx hZ hown (by rw [hml]; rfl) (hv 90 rfl) (hv 91 rfl) (notFace_of_selects (args := #[]) (mvT hZ (hv 93 rfl))) (hv 93 rfl) (hv 92 rfl) (hv 94 rfl) (hv 29 rfl) (hb hby at_364) (by decide) (rmac l Z a0 hw [] b260 p5 r229 b267 of_264 okf_264 c267 (own_e1 r218 (0 : Int32) (0 : Int32)) (own_e1 r218 (0 : Int32) (1 : Int32)) (own_e1 r218 (0 : Int32) (2 : Int32)) (own_e1 r218 (0 : Int32) (3 : Int32)) u233_S0 u239_S0 h274 n0 Z274 g_71 g_72 q274_0 G267 g_68 g_66 hs229 (own_3e1 (Or.inl rfl)) (own_3e1 (Or.inl rfl)) (own_3e1 (Or.inl rfl)) (own_3e1 (Or.inl rfl))) e274 g_73 rfl rfl pd_rm0_2 rfl (Nat.le_of_eq rfl) (by decide) (by decide) rfl rfl (by decide) (by decide)
          obtain ⟨ro_297, d0_297, d1_297, rfl, Nq297, Kq297, p297_0, q297_0⟩ := Q297
          have N297 := Fr.app N274 Nq297
          obtain ⟨h297, e297⟩ : ∃ h, T297.heap = h := ⟨_, rfl⟩
          rw [e297] at Kq297 q297_0
          have Z297 : n0 ≤ h297.size := Nat.le_trans Z274 Kq297.1
          have k297 : Go p e below m W T297 367 #[.val (.int p1), .val (.int p2), .val (.int p3), .val (.int p4), .val (.int p5), .val (.int (1 : Int32)), .val (.int (0 : Int32)), .val (.int r218), .val (.int r225), .val (.int r229), .val (.int u233_S0), .val (.int u239_S0), .val (.ref b244), .val (.ref b260), .val (.ref b267), .val (.int (0 : Int32)), .val (.int (0 : Int32)), .val (.int u233_S0), .val (.int (0 : Int32)), .val (.int u233_S0), .val (.int u239_S0), .val (.int (1 : Int32)), .unset] [(.int ro_297)] := k297
          obtain ⟨ha298, hb298, hc298⟩ := own_acc0' p297_0 ((own_sel1 hs229).trans (own_p1a hc216_277)) hs280
          subst ro_297
          subst d0_297
          subst d1_297
          have k299 : Go p e below m W T297 369 #[.val (.int p1), .val (.int p2), .val (.int p3), .val (.int p4), .val (.int p5), .val (.int (1 : Int32)), .val (.int (0 : Int32)), .val (.int r218), .val (.int r225), .val (.int r229), .val (.int u233_S0), .val (.int u239_S0), .val (.ref b244), .val (.ref b260), .val (.ref b267), .val (.int (0 : Int32)), .val (.int (0 : Int32)), .val (.int u233_S0), .val (.int (0 : Int32)), .val (.int u233_S0), .val (.int u239_S0), .val (.int (1 : Int32)), .val (.int (0 : Int32))] [] := k297.istore X297 hx (hb hby at_367) rfl
          have k300 : Go p e below m W T297 382 #[.val (.int p1), .val (.int p2), .val (.int p3), .val (.int p4), .val (.int p5), .val (.int (1 : Int32)), .val (.int (0 : Int32)), .val (.int r218), .val (.int r225), .val (.int r229), .val (.int u233_S0), .val (.int u239_S0), .val (.ref b244), .val (.ref b260), .val (.ref b267), .val (.int (0 : Int32)), .val (.int (0 : Int32)), .val (.int u233_S0), .val (.int (0 : Int32)), .val (.int u233_S0), .val (.int u239_S0), .val (.int (1 : Int32)), .val (.int (0 : Int32))] [(.int (0 : Int32)), (.ref b267)] := (((((k299.iload X297 hx (hb hby at_369) rfl).ifNo X297 hx (hb hby at_371) (XT.i0_eq_f (by decide))).iload X297 hx (hb hby at_374) rfl).ifNo X297 hx (hb hby at_376) (XT.i0_ne_f (by decide))).aload X297 hx (hb hby at_379) rfl rfl).iconst X297 hx (hb hby at_381) (v := (0 : Int32)) rfl
          have k301 : Go p e below m W T297 391 #[.val (.int p1), .val (.int p2), .val (.int p3), .val (.int p4), .val (.int p5), .val (.int (1 : Int32)), .val (.int (0 : Int32)), .val (.int r218), .val (.int r225), .val (.int r229), .val (.int u233_S0), .val (.int u239_S0), .val (.ref b244), .val (.ref b260), .val (.ref b267), .val (.int (0 : Int32)), .val (.int (0 : Int32)), .val (.int u233_S0), .val (.int (0 : Int32)), .val (.int u233_S0), .val (.int u239_S0), .val (.int (1 : Int32)), .val (.int (0 : Int32))] [(.int (1 : Int32)), (.ref b267)] := ((((k300.iaload (i := 0) (n := 2) X297 hx hZ e297 q297_0 rfl rfl (by decide) (by decide) rfl (hb hby at_382)).iload X297 hx (hb hby at_383) rfl).icmpNo X297 hx (hb hby at_385) (XT.ii_ne_f rfl)).aload X297 hx (hb hby at_388) rfl rfl).iconst X297 hx (hb hby at_390) (v := (1 : Int32)) rfl
          have k302 : Go p e below m W T297 402 #[.val (.int p1), .val (.int p2), .val (.int p3), .val (.int p4), .val (.int p5), .val (.int (1 : Int32)), .val (.int (0 : Int32)), .val (.int r218), .val (.int r225), .val (.int r229), .val (.int u233_S0), .val (.int u239_S0), .val (.ref b244), .val (.ref b260), .val (.ref b267), .val (.int (0 : Int32)), .val (.int (0 : Int32)), .val (.int u233_S0), .val (.int (0 : Int32)), .val (.int u233_S0), .val (.int u239_S0), .val (.int (1 : Int32)), .val (.int (0 : Int32))] [(.int (1 : Int32))] := ((((k301.iaload (i := 1) (n := 2) X297 hx hZ e297 q297_0 rfl rfl (by decide) (by decide) rfl (hb hby at_391)).iload X297 hx (hb hby at_392) rfl).icmpNo X297 hx (hb hby at_394) (XT.ii_ne_f rfl)).iconst X297 hx (hb hby at_397) (v := (1 : Int32)) rfl).goto X297 hx (hb hby at_398) (by decide) (by decide)
          exact k302.ireturnN X297 hx (t := .boolean) Bd.returns (by simp) rfl (hb hby at_402) (BodyLoose.notSynchronized Bd) (by rw [e297]; exact ⟨rfl, N297⟩) (by decide) (by decide)
        ·
          subst ro_274
          subst d0_274
          subst d1_274
          have k303 : Go p e below m W T274 242 #[.val (.int p1), .val (.int p2), .val (.int p3), .val (.int p4), .val (.int p5), .val (.int (1 : Int32)), .val (.int (0 : Int32)), .val (.int r218), .val (.int r225), .val (.int r229), .val (.int u233_S0), .val (.int u239_S0), .val (.ref b244), .val (.ref b260), .val (.ref b267), .val (.int (1 : Int32)), .val (.int (0 : Int32)), .unset, .unset, .unset, .unset, .unset, .unset] [] := k278.istore X274 hx (hb hby at_240) rfl
          have k304 : Go p e below m W T274 266 #[.val (.int p1), .val (.int p2), .val (.int p3), .val (.int p4), .val (.int p5), .val (.int (1 : Int32)), .val (.int (0 : Int32)), .val (.int r218), .val (.int r225), .val (.int r229), .val (.int u233_S0), .val (.int u239_S0), .val (.ref b244), .val (.ref b260), .val (.ref b267), .val (.int (1 : Int32)), .val (.int (0 : Int32)), .val (.int u233_S0), .unset, .unset, .unset, .unset, .unset] [] := ((((k303.iload X274 hx (hb hby at_242) rfl).ifNo X274 hx (hb hby at_244) (XT.i0_ne_f (by decide))).iload X274 hx (hb hby at_247) rfl).goto X274 hx (hb hby at_249) (by decide) (by decide)).istore X274 hx (hb hby at_264) rfl
          have k305 : Go p e below m W T274 285 #[.val (.int p1), .val (.int p2), .val (.int p3), .val (.int p4), .val (.int p5), .val (.int (1 : Int32)), .val (.int (0 : Int32)), .val (.int r218), .val (.int r225), .val (.int r229), .val (.int u233_S0), .val (.int u239_S0), .val (.ref b244), .val (.ref b260), .val (.ref b267), .val (.int (1 : Int32)), .val (.int (0 : Int32)), .val (.int u233_S0), .val (.int (1 : Int32)), .unset, .unset, .unset, .unset] [] := (((((((k304.iload X274 hx (hb hby at_266) rfl).ifNo X274 hx (hb hby at_268) (XT.i0_lt_f (by decide))).iload X274 hx (hb hby at_271) rfl).ldcI X274 hx hZ hown (hv 0 rfl) (hb hby at_273)).icmpNo X274 hx (hb hby at_275) (XT.ii_eq_f hs284)).iconst X274 hx (hb hby at_278) (v := (1 : Int32)) rfl).goto X274 hx (hb hby at_279) (by decide) (by decide)).istore X274 hx (hb hby at_283) rfl
          have k306 : Go p e below m W T274 304 #[.val (.int p1), .val (.int p2), .val (.int p3), .val (.int p4), .val (.int p5), .val (.int (1 : Int32)), .val (.int (0 : Int32)), .val (.int r218), .val (.int r225), .val (.int r229), .val (.int u233_S0), .val (.int u239_S0), .val (.ref b244), .val (.ref b260), .val (.ref b267), .val (.int (1 : Int32)), .val (.int (0 : Int32)), .val (.int u233_S0), .val (.int (1 : Int32)), .val (.int (2147483647 : Int32)), .unset, .unset, .unset] [] := ((((((k305.iload X274 hx (hb hby at_285) rfl).ifNo X274 hx (hb hby at_287) (XT.i0_eq_f (by decide))).iload X274 hx (hb hby at_290) rfl).ifNo X274 hx (hb hby at_292) (XT.i0_ne_f (by decide))).ldcI X274 hx hZ hown (hv 0 rfl) (hb hby at_295)).goto X274 hx (hb hby at_297) (by decide) (by decide)).istore X274 hx (hb hby at_302) rfl
          have k307 : Go p e below m W T274 324 #[.val (.int p1), .val (.int p2), .val (.int p3), .val (.int p4), .val (.int p5), .val (.int (1 : Int32)), .val (.int (0 : Int32)), .val (.int r218), .val (.int r225), .val (.int r229), .val (.int u233_S0), .val (.int u239_S0), .val (.ref b244), .val (.ref b260), .val (.ref b267), .val (.int (1 : Int32)), .val (.int (0 : Int32)), .val (.int u233_S0), .val (.int (1 : Int32)), .val (.int (2147483647 : Int32)), .val (.int u239_S0), .unset, .unset] [] := ((((((k306.iload X274 hx (hb hby at_304) rfl).ifNo X274 hx (hb hby at_306) (XT.i0_eq_f (by decide))).iload X274 hx (hb hby at_309) rfl).iconst X274 hx (hb hby at_311) (v := (1 : Int32)) rfl).icmpYes X274 hx (hb hby at_312) (XT.ii_ne_t (by decide)) (by decide) (by decide)).iload X274 hx (hb hby at_320) rfl).istore X274 hx (hb hby at_322) rfl
          have k308 : Go p e below m W T274 334 #[.val (.int p1), .val (.int p2), .val (.int p3), .val (.int p4), .val (.int p5), .val (.int (1 : Int32)), .val (.int (0 : Int32)), .val (.int r218), .val (.int r225), .val (.int r229), .val (.int u233_S0), .val (.int u239_S0), .val (.ref b244), .val (.ref b260), .val (.ref b267), .val (.int (1 : Int32)), .val (.int (0 : Int32)), .val (.int u233_S0), .val (.int (1 : Int32)), .val (.int (2147483647 : Int32)), .val (.int u239_S0), .unset, .unset] [(.int (0 : Int32)), (.ref b267)] := ((((k307.iload X274 hx (hb hby at_324) rfl).iload X274 hx (hb hby at_326) rfl).icmpNo X274 hx (hb hby at_328) (XT.ii_ne_f (by decide))).aload X274 hx (hb hby at_331) rfl rfl).iconst X274 hx (hb hby at_333) (v := (0 : Int32)) rfl
          have k309 : Go p e below m W T274 343 #[.val (.int p1), .val (.int p2), .val (.int p3), .val (.int p4), .val (.int p5), .val (.int (1 : Int32)), .val (.int (0 : Int32)), .val (.int r218), .val (.int r225), .val (.int r229), .val (.int u233_S0), .val (.int u239_S0), .val (.ref b244), .val (.ref b260), .val (.ref b267), .val (.int (1 : Int32)), .val (.int (0 : Int32)), .val (.int u233_S0), .val (.int (1 : Int32)), .val (.int (2147483647 : Int32)), .val (.int u239_S0), .unset, .unset] [(.int (1 : Int32)), (.ref b267)] := ((((k308.iaload (i := 0) (n := 2) X274 hx hZ e274 q274_0 rfl rfl (by decide) (by decide) rfl (hb hby at_334)).iload X274 hx (hb hby at_335) rfl).icmpNo X274 hx (hb hby at_337) (XT.ii_ne_f (by decide))).aload X274 hx (hb hby at_340) rfl rfl).iconst X274 hx (hb hby at_342) (v := (1 : Int32)) rfl
          have k310 : Go p e below m W T274 356 #[.val (.int p1), .val (.int p2), .val (.int p3), .val (.int p4), .val (.int p5), .val (.int (1 : Int32)), .val (.int (0 : Int32)), .val (.int r218), .val (.int r225), .val (.int r229), .val (.int u233_S0), .val (.int u239_S0), .val (.ref b244), .val (.ref b260), .val (.ref b267), .val (.int (1 : Int32)), .val (.int (0 : Int32)), .val (.int u233_S0), .val (.int (1 : Int32)), .val (.int (2147483647 : Int32)), .val (.int u239_S0), .val (.int (1 : Int32)), .unset] [] := (((((k309.iaload (i := 1) (n := 2) X274 hx hZ e274 q274_0 rfl rfl (by decide) (by decide) rfl (hb hby at_343)).iload X274 hx (hb hby at_344) rfl).icmpNo X274 hx (hb hby at_346) (XT.ii_ne_f rfl)).iconst X274 hx (hb hby at_349) (v := (1 : Int32)) rfl).goto X274 hx (hb hby at_350) (by decide) (by decide)).istore X274 hx (hb hby at_354) rfl
          have k311 : Go p e below m W T274 364 #[.val (.int p1), .val (.int p2), .val (.int p3), .val (.int p4), .val (.int p5), .val (.int (1 : Int32)), .val (.int (0 : Int32)), .val (.int r218), .val (.int r225), .val (.int r229), .val (.int u233_S0), .val (.int u239_S0), .val (.ref b244), .val (.ref b260), .val (.ref b267), .val (.int (1 : Int32)), .val (.int (0 : Int32)), .val (.int u233_S0), .val (.int (1 : Int32)), .val (.int (2147483647 : Int32)), .val (.int u239_S0), .val (.int (1 : Int32)), .unset] [(.ref b267), (.int r229), (.int p5), (.ref b260)] := (((k310.aload X274 hx (hb hby at_356) rfl rfl).iload X274 hx (hb hby at_358) rfl).iload X274 hx (hb hby at_360) rfl).aload X274 hx (hb hby at_362) rfl rfl
          have g_74 := g_67.keep Kq274 (by simp only [List.mem_cons, List.not_mem_nil, or_false, not_or]; exact g_66)
          have g_75 := g_69.keep Kq274 (by simp only [List.mem_cons, List.not_mem_nil, or_false, not_or]; exact g_68)
          have g_76 := g_70.keep Kq274
          obtain ⟨T312, v312, L312, X312, Q312, k312⟩ := k311.virt (y := (⟨"com/example/enact/enact/FeederAcceleration", "accelerate", "(II[I)Z"⟩ : MethodName)) (z := (⟨"com/example/enact/enact/FeederAcceleration", "accelerate", "(II[I)Z"⟩ : MethodName)) (Wd := 0) (cells' := 7) (slots' := 28) (argsL := [(.int p5), (.int r229), (.ref b267)]) (rest := []) X274 hx hZ hown (by rw [hml]; rfl) (hv 90 rfl) (hv 91 rfl) (notFace_of_selects (args := #[]) (mvT hZ (hv 93 rfl))) (hv 93 rfl) (hv 92 rfl) (hv 94 rfl) (hv 29 rfl) (hb hby at_364) (by decide) (rmac l Z a0 hw [] b260 p5 r229 b267 of_264 okf_264 c267 (own_e1 r218 (0 : Int32) (0 : Int32)) (own_e1 r218 (0 : Int32) (1 : Int32)) (own_e1 r218 (0 : Int32) (2 : Int32)) (own_e1 r218 (0 : Int32) (3 : Int32)) (2147483647 : Int32) u239_S0 h274 n0 Z274 g_74 g_75 q274_0 G267 g_68 g_66 hs229 (own_3e1 (Or.inl rfl)) (own_3e1 (Or.inl rfl)) (own_3e1 (Or.inl rfl)) (own_3e1 (Or.inl rfl))) e274 g_76 rfl rfl pd_rm0_2 rfl (Nat.le_of_eq rfl) (by decide) (by decide) rfl rfl (by decide) (by decide)
          obtain ⟨ro_312, d0_312, d1_312, rfl, Nq312, Kq312, p312_0, q312_0⟩ := Q312
          have N312 := Fr.app N274 Nq312
          obtain ⟨h312, e312⟩ : ∃ h, T312.heap = h := ⟨_, rfl⟩
          rw [e312] at Kq312 q312_0
          have Z312 : n0 ≤ h312.size := Nat.le_trans Z274 Kq312.1
          have k312 : Go p e below m W T312 367 #[.val (.int p1), .val (.int p2), .val (.int p3), .val (.int p4), .val (.int p5), .val (.int (1 : Int32)), .val (.int (0 : Int32)), .val (.int r218), .val (.int r225), .val (.int r229), .val (.int u233_S0), .val (.int u239_S0), .val (.ref b244), .val (.ref b260), .val (.ref b267), .val (.int (1 : Int32)), .val (.int (0 : Int32)), .val (.int u233_S0), .val (.int (1 : Int32)), .val (.int (2147483647 : Int32)), .val (.int u239_S0), .val (.int (1 : Int32)), .unset] [(.int ro_312)] := k312
          obtain ⟨ha313, hb313, hc313⟩ := own_acc0' p312_0 ((own_sel1 hs229).trans (own_p1a hc216_277)) rfl
          subst ro_312
          subst d0_312
          subst d1_312
          have k314 : Go p e below m W T312 369 #[.val (.int p1), .val (.int p2), .val (.int p3), .val (.int p4), .val (.int p5), .val (.int (1 : Int32)), .val (.int (0 : Int32)), .val (.int r218), .val (.int r225), .val (.int r229), .val (.int u233_S0), .val (.int u239_S0), .val (.ref b244), .val (.ref b260), .val (.ref b267), .val (.int (1 : Int32)), .val (.int (0 : Int32)), .val (.int u233_S0), .val (.int (1 : Int32)), .val (.int (2147483647 : Int32)), .val (.int u239_S0), .val (.int (1 : Int32)), .val (.int (0 : Int32))] [] := k312.istore X312 hx (hb hby at_367) rfl
          have k315 : Go p e below m W T312 382 #[.val (.int p1), .val (.int p2), .val (.int p3), .val (.int p4), .val (.int p5), .val (.int (1 : Int32)), .val (.int (0 : Int32)), .val (.int r218), .val (.int r225), .val (.int r229), .val (.int u233_S0), .val (.int u239_S0), .val (.ref b244), .val (.ref b260), .val (.ref b267), .val (.int (1 : Int32)), .val (.int (0 : Int32)), .val (.int u233_S0), .val (.int (1 : Int32)), .val (.int (2147483647 : Int32)), .val (.int u239_S0), .val (.int (1 : Int32)), .val (.int (0 : Int32))] [(.int (0 : Int32)), (.ref b267)] := (((((k314.iload X312 hx (hb hby at_369) rfl).ifNo X312 hx (hb hby at_371) (XT.i0_eq_f (by decide))).iload X312 hx (hb hby at_374) rfl).ifNo X312 hx (hb hby at_376) (XT.i0_ne_f (by decide))).aload X312 hx (hb hby at_379) rfl rfl).iconst X312 hx (hb hby at_381) (v := (0 : Int32)) rfl
          have k316 : Go p e below m W T312 391 #[.val (.int p1), .val (.int p2), .val (.int p3), .val (.int p4), .val (.int p5), .val (.int (1 : Int32)), .val (.int (0 : Int32)), .val (.int r218), .val (.int r225), .val (.int r229), .val (.int u233_S0), .val (.int u239_S0), .val (.ref b244), .val (.ref b260), .val (.ref b267), .val (.int (1 : Int32)), .val (.int (0 : Int32)), .val (.int u233_S0), .val (.int (1 : Int32)), .val (.int (2147483647 : Int32)), .val (.int u239_S0), .val (.int (1 : Int32)), .val (.int (0 : Int32))] [(.int (1 : Int32)), (.ref b267)] := ((((k315.iaload (i := 0) (n := 2) X312 hx hZ e312 q312_0 rfl rfl (by decide) (by decide) rfl (hb hby at_382)).iload X312 hx (hb hby at_383) rfl).icmpNo X312 hx (hb hby at_385) (XT.ii_ne_f (by decide))).aload X312 hx (hb hby at_388) rfl rfl).iconst X312 hx (hb hby at_390) (v := (1 : Int32)) rfl
          have k317 : Go p e below m W T312 402 #[.val (.int p1), .val (.int p2), .val (.int p3), .val (.int p4), .val (.int p5), .val (.int (1 : Int32)), .val (.int (0 : Int32)), .val (.int r218), .val (.int r225), .val (.int r229), .val (.int u233_S0), .val (.int u239_S0), .val (.ref b244), .val (.ref b260), .val (.ref b267), .val (.int (1 : Int32)), .val (.int (0 : Int32)), .val (.int u233_S0), .val (.int (1 : Int32)), .val (.int (2147483647 : Int32)), .val (.int u239_S0), .val (.int (1 : Int32)), .val (.int (0 : Int32))] [(.int (1 : Int32))] := ((((k316.iaload (i := 1) (n := 2) X312 hx hZ e312 q312_0 rfl rfl (by decide) (by decide) rfl (hb hby at_391)).iload X312 hx (hb hby at_392) rfl).icmpNo X312 hx (hb hby at_394) (XT.ii_ne_f rfl)).iconst X312 hx (hb hby at_397) (v := (1 : Int32)) rfl).goto X312 hx (hb hby at_398) (by decide) (by decide)
          exact k317.ireturnN X312 hx (t := .boolean) Bd.returns (by simp) rfl (hb hby at_402) (BodyLoose.notSynchronized Bd) (by rw [e312]; exact ⟨rfl, N312⟩) (by decide) (by decide)
      ·
        have k318 : Go p e below m W T274 240 #[.val (.int p1), .val (.int p2), .val (.int p3), .val (.int p4), .val (.int p5), .val (.int (1 : Int32)), .val (.int (0 : Int32)), .val (.int r218), .val (.int r225), .val (.int r229), .val (.int u233_S0), .val (.int u239_S0), .val (.ref b244), .val (.ref b260), .val (.ref b267), .val (.int ro_274), .unset, .unset, .unset, .unset, .unset, .unset, .unset] [(.int (-1 : Int32))] := (((k276.icmpYes X274 hx (hb hby at_216) (XT.ii_ne_t hc216_277) (by decide) (by decide)).iload X274 hx (hb hby at_223) rfl).ifYes X274 hx (hb hby at_225) (XT.i0_eq_t (by decide)) (by decide) (by decide)).iconst X274 hx (hb hby at_239) (v := (-1 : Int32)) rfl
        obtain ⟨ha319, hb319, hc319⟩ := own_accN p274_0 ((own_sel1 hs229).trans (own_p1b hc216_277))
        subst ro_274
        subst d0_274
        subst d1_274
        have k320 : Go p e below m W T274 242 #[.val (.int p1), .val (.int p2), .val (.int p3), .val (.int p4), .val (.int p5), .val (.int (1 : Int32)), .val (.int (0 : Int32)), .val (.int r218), .val (.int r225), .val (.int r229), .val (.int u233_S0), .val (.int u239_S0), .val (.ref b244), .val (.ref b260), .val (.ref b267), .val (.int (0 : Int32)), .val (.int (-1 : Int32)), .unset, .unset, .unset, .unset, .unset, .unset] [] := k318.istore X274 hx (hb hby at_240) rfl
        have k321 : Go p e below m W T274 266 #[.val (.int p1), .val (.int p2), .val (.int p3), .val (.int p4), .val (.int p5), .val (.int (1 : Int32)), .val (.int (0 : Int32)), .val (.int r218), .val (.int r225), .val (.int r229), .val (.int u233_S0), .val (.int u239_S0), .val (.ref b244), .val (.ref b260), .val (.ref b267), .val (.int (0 : Int32)), .val (.int (-1 : Int32)), .val (.int (0 : Int32)), .unset, .unset, .unset, .unset, .unset] [] := ((((((k320.iload X274 hx (hb hby at_242) rfl).ifYes X274 hx (hb hby at_244) (XT.i0_ne_t (by decide)) (by decide) (by decide)).iload X274 hx (hb hby at_252) rfl).iconst X274 hx (hb hby at_254) (v := (1 : Int32)) rfl).icmpYes X274 hx (hb hby at_255) (XT.ii_ne_t (by decide)) (by decide) (by decide)).iconst X274 hx (hb hby at_263) (v := (0 : Int32)) rfl).istore X274 hx (hb hby at_264) rfl
        have k322 : Go p e below m W T274 285 #[.val (.int p1), .val (.int p2), .val (.int p3), .val (.int p4), .val (.int p5), .val (.int (1 : Int32)), .val (.int (0 : Int32)), .val (.int r218), .val (.int r225), .val (.int r229), .val (.int u233_S0), .val (.int u239_S0), .val (.ref b244), .val (.ref b260), .val (.ref b267), .val (.int (0 : Int32)), .val (.int (-1 : Int32)), .val (.int (0 : Int32)), .val (.int (0 : Int32)), .unset, .unset, .unset, .unset] [] := (((k321.iload X274 hx (hb hby at_266) rfl).ifYes X274 hx (hb hby at_268) (XT.i0_lt_t (by decide)) (by decide) (by decide)).iconst X274 hx (hb hby at_282) (v := (0 : Int32)) rfl).istore X274 hx (hb hby at_283) rfl
        have k323 : Go p e below m W T274 304 #[.val (.int p1), .val (.int p2), .val (.int p3), .val (.int p4), .val (.int p5), .val (.int (1 : Int32)), .val (.int (0 : Int32)), .val (.int r218), .val (.int r225), .val (.int r229), .val (.int u233_S0), .val (.int u239_S0), .val (.ref b244), .val (.ref b260), .val (.ref b267), .val (.int (0 : Int32)), .val (.int (-1 : Int32)), .val (.int (0 : Int32)), .val (.int (0 : Int32)), .val (.int u233_S0), .unset, .unset, .unset] [] := (((k322.iload X274 hx (hb hby at_285) rfl).ifYes X274 hx (hb hby at_287) (XT.i0_eq_t (by decide)) (by decide) (by decide)).iload X274 hx (hb hby at_300) rfl).istore X274 hx (hb hby at_302) rfl
        have k324 : Go p e below m W T274 324 #[.val (.int p1), .val (.int p2), .val (.int p3), .val (.int p4), .val (.int p5), .val (.int (1 : Int32)), .val (.int (0 : Int32)), .val (.int r218), .val (.int r225), .val (.int r229), .val (.int u233_S0), .val (.int u239_S0), .val (.ref b244), .val (.ref b260), .val (.ref b267), .val (.int (0 : Int32)), .val (.int (-1 : Int32)), .val (.int (0 : Int32)), .val (.int (0 : Int32)), .val (.int u233_S0), .val (.int u239_S0), .unset, .unset] [] := (((k323.iload X274 hx (hb hby at_304) rfl).ifYes X274 hx (hb hby at_306) (XT.i0_eq_t (by decide)) (by decide) (by decide)).iload X274 hx (hb hby at_320) rfl).istore X274 hx (hb hby at_322) rfl
        have k325 : Go p e below m W T274 334 #[.val (.int p1), .val (.int p2), .val (.int p3), .val (.int p4), .val (.int p5), .val (.int (1 : Int32)), .val (.int (0 : Int32)), .val (.int r218), .val (.int r225), .val (.int r229), .val (.int u233_S0), .val (.int u239_S0), .val (.ref b244), .val (.ref b260), .val (.ref b267), .val (.int (0 : Int32)), .val (.int (-1 : Int32)), .val (.int (0 : Int32)), .val (.int (0 : Int32)), .val (.int u233_S0), .val (.int u239_S0), .unset, .unset] [(.int (0 : Int32)), (.ref b267)] := ((((k324.iload X274 hx (hb hby at_324) rfl).iload X274 hx (hb hby at_326) rfl).icmpNo X274 hx (hb hby at_328) (XT.ii_ne_f (by decide))).aload X274 hx (hb hby at_331) rfl rfl).iconst X274 hx (hb hby at_333) (v := (0 : Int32)) rfl
        have k326 : Go p e below m W T274 343 #[.val (.int p1), .val (.int p2), .val (.int p3), .val (.int p4), .val (.int p5), .val (.int (1 : Int32)), .val (.int (0 : Int32)), .val (.int r218), .val (.int r225), .val (.int r229), .val (.int u233_S0), .val (.int u239_S0), .val (.ref b244), .val (.ref b260), .val (.ref b267), .val (.int (0 : Int32)), .val (.int (-1 : Int32)), .val (.int (0 : Int32)), .val (.int (0 : Int32)), .val (.int u233_S0), .val (.int u239_S0), .unset, .unset] [(.int (1 : Int32)), (.ref b267)] := ((((k325.iaload (i := 0) (n := 2) X274 hx hZ e274 q274_0 rfl rfl (by decide) (by decide) rfl (hb hby at_334)).iload X274 hx (hb hby at_335) rfl).icmpNo X274 hx (hb hby at_337) (XT.ii_ne_f rfl)).aload X274 hx (hb hby at_340) rfl rfl).iconst X274 hx (hb hby at_342) (v := (1 : Int32)) rfl
        have k327 : Go p e below m W T274 356 #[.val (.int p1), .val (.int p2), .val (.int p3), .val (.int p4), .val (.int p5), .val (.int (1 : Int32)), .val (.int (0 : Int32)), .val (.int r218), .val (.int r225), .val (.int r229), .val (.int u233_S0), .val (.int u239_S0), .val (.ref b244), .val (.ref b260), .val (.ref b267), .val (.int (0 : Int32)), .val (.int (-1 : Int32)), .val (.int (0 : Int32)), .val (.int (0 : Int32)), .val (.int u233_S0), .val (.int u239_S0), .val (.int (1 : Int32)), .unset] [] := (((((k326.iaload (i := 1) (n := 2) X274 hx hZ e274 q274_0 rfl rfl (by decide) (by decide) rfl (hb hby at_343)).iload X274 hx (hb hby at_344) rfl).icmpNo X274 hx (hb hby at_346) (XT.ii_ne_f rfl)).iconst X274 hx (hb hby at_349) (v := (1 : Int32)) rfl).goto X274 hx (hb hby at_350) (by decide) (by decide)).istore X274 hx (hb hby at_354) rfl
        have k328 : Go p e below m W T274 364 #[.val (.int p1), .val (.int p2), .val (.int p3), .val (.int p4), .val (.int p5), .val (.int (1 : Int32)), .val (.int (0 : Int32)), .val (.int r218), .val (.int r225), .val (.int r229), .val (.int u233_S0), .val (.int u239_S0), .val (.ref b244), .val (.ref b260), .val (.ref b267), .val (.int (0 : Int32)), .val (.int (-1 : Int32)), .val (.int (0 : Int32)), .val (.int (0 : Int32)), .val (.int u233_S0), .val (.int u239_S0), .val (.int (1 : Int32)), .unset] [(.ref b267), (.int r229), (.int p5), (.ref b260)] := (((k327.aload X274 hx (hb hby at_356) rfl rfl).iload X274 hx (hb hby at_358) rfl).iload X274 hx (hb hby at_360) rfl).aload X274 hx (hb hby at_362) rfl rfl
        have g_77 := g_67.keep Kq274 (by simp only [List.mem_cons, List.not_mem_nil, or_false, not_or]; exact g_66)
        have g_78 := g_69.keep Kq274 (by simp only [List.mem_cons, List.not_mem_nil, or_false, not_or]; exact g_68)
        have g_79 := g_70.keep Kq274
        obtain ⟨T329, v329, L329, X329, Q329, k329⟩ := k328.virt (y := (⟨"com/example/enact/enact/FeederAcceleration", "accelerate", "(II[I)Z"⟩ : MethodName)) (z := (⟨"com/example/enact/enact/FeederAcceleration", "accelerate", "(II[I)Z"⟩ : MethodName)) (Wd := 0) (cells' := 7) (slots' := 28) (argsL := [(.int p5), (.int r229), (.ref b267)]) (rest := []) X274 hx hZ hown (by rw [hml]; rfl) (hv 90 rfl) (hv 91 rfl) (notFace_of_selects (args := #[]) (mvT hZ (hv 93 rfl))) (hv 93 rfl) (hv 92 rfl) (hv 94 rfl) (hv 29 rfl) (hb hby at_364) (by decide) (rmac l Z a0 hw [] b260 p5 r229 b267 of_264 okf_264 c267 (own_e1 r218 (0 : Int32) (0 : Int32)) (own_e1 r218 (0 : Int32) (1 : Int32)) (own_e1 r218 (0 : Int32) (2 : Int32)) (own_e1 r218 (0 : Int32) (3 : Int32)) u233_S0 u239_S0 h274 n0 Z274 g_77 g_78 q274_0 G267 g_68 g_66 hs229 (own_3e1 (Or.inl rfl)) (own_3e1 (Or.inl rfl)) (own_3e1 (Or.inl rfl)) (own_3e1 (Or.inl rfl))) e274 g_79 rfl rfl pd_rm0_2 rfl (Nat.le_of_eq rfl) (by decide) (by decide) rfl rfl (by decide) (by decide)
        obtain ⟨ro_329, d0_329, d1_329, rfl, Nq329, Kq329, p329_0, q329_0⟩ := Q329
        have N329 := Fr.app N274 Nq329
        obtain ⟨h329, e329⟩ : ∃ h, T329.heap = h := ⟨_, rfl⟩
        rw [e329] at Kq329 q329_0
        have Z329 : n0 ≤ h329.size := Nat.le_trans Z274 Kq329.1
        have k329 : Go p e below m W T329 367 #[.val (.int p1), .val (.int p2), .val (.int p3), .val (.int p4), .val (.int p5), .val (.int (1 : Int32)), .val (.int (0 : Int32)), .val (.int r218), .val (.int r225), .val (.int r229), .val (.int u233_S0), .val (.int u239_S0), .val (.ref b244), .val (.ref b260), .val (.ref b267), .val (.int (0 : Int32)), .val (.int (-1 : Int32)), .val (.int (0 : Int32)), .val (.int (0 : Int32)), .val (.int u233_S0), .val (.int u239_S0), .val (.int (1 : Int32)), .unset] [(.int ro_329)] := k329
        obtain ⟨ha330, hb330, hc330⟩ := own_accN p329_0 ((own_sel1 hs229).trans (own_p1b hc216_277))
        subst ro_329
        subst d0_329
        subst d1_329
        have k331 : Go p e below m W T329 369 #[.val (.int p1), .val (.int p2), .val (.int p3), .val (.int p4), .val (.int p5), .val (.int (1 : Int32)), .val (.int (0 : Int32)), .val (.int r218), .val (.int r225), .val (.int r229), .val (.int u233_S0), .val (.int u239_S0), .val (.ref b244), .val (.ref b260), .val (.ref b267), .val (.int (0 : Int32)), .val (.int (-1 : Int32)), .val (.int (0 : Int32)), .val (.int (0 : Int32)), .val (.int u233_S0), .val (.int u239_S0), .val (.int (1 : Int32)), .val (.int (0 : Int32))] [] := k329.istore X329 hx (hb hby at_367) rfl
        have k332 : Go p e below m W T329 382 #[.val (.int p1), .val (.int p2), .val (.int p3), .val (.int p4), .val (.int p5), .val (.int (1 : Int32)), .val (.int (0 : Int32)), .val (.int r218), .val (.int r225), .val (.int r229), .val (.int u233_S0), .val (.int u239_S0), .val (.ref b244), .val (.ref b260), .val (.ref b267), .val (.int (0 : Int32)), .val (.int (-1 : Int32)), .val (.int (0 : Int32)), .val (.int (0 : Int32)), .val (.int u233_S0), .val (.int u239_S0), .val (.int (1 : Int32)), .val (.int (0 : Int32))] [(.int (0 : Int32)), (.ref b267)] := (((((k331.iload X329 hx (hb hby at_369) rfl).ifNo X329 hx (hb hby at_371) (XT.i0_eq_f (by decide))).iload X329 hx (hb hby at_374) rfl).ifNo X329 hx (hb hby at_376) (XT.i0_ne_f (by decide))).aload X329 hx (hb hby at_379) rfl rfl).iconst X329 hx (hb hby at_381) (v := (0 : Int32)) rfl
        have k333 : Go p e below m W T329 391 #[.val (.int p1), .val (.int p2), .val (.int p3), .val (.int p4), .val (.int p5), .val (.int (1 : Int32)), .val (.int (0 : Int32)), .val (.int r218), .val (.int r225), .val (.int r229), .val (.int u233_S0), .val (.int u239_S0), .val (.ref b244), .val (.ref b260), .val (.ref b267), .val (.int (0 : Int32)), .val (.int (-1 : Int32)), .val (.int (0 : Int32)), .val (.int (0 : Int32)), .val (.int u233_S0), .val (.int u239_S0), .val (.int (1 : Int32)), .val (.int (0 : Int32))] [(.int (1 : Int32)), (.ref b267)] := ((((k332.iaload (i := 0) (n := 2) X329 hx hZ e329 q329_0 rfl rfl (by decide) (by decide) rfl (hb hby at_382)).iload X329 hx (hb hby at_383) rfl).icmpNo X329 hx (hb hby at_385) (XT.ii_ne_f rfl)).aload X329 hx (hb hby at_388) rfl rfl).iconst X329 hx (hb hby at_390) (v := (1 : Int32)) rfl
        have k334 : Go p e below m W T329 402 #[.val (.int p1), .val (.int p2), .val (.int p3), .val (.int p4), .val (.int p5), .val (.int (1 : Int32)), .val (.int (0 : Int32)), .val (.int r218), .val (.int r225), .val (.int r229), .val (.int u233_S0), .val (.int u239_S0), .val (.ref b244), .val (.ref b260), .val (.ref b267), .val (.int (0 : Int32)), .val (.int (-1 : Int32)), .val (.int (0 : Int32)), .val (.int (0 : Int32)), .val (.int u233_S0), .val (.int u239_S0), .val (.int (1 : Int32)), .val (.int (0 : Int32))] [(.int (1 : Int32))] := ((((k333.iaload (i := 1) (n := 2) X329 hx hZ e329 q329_0 rfl rfl (by decide) (by decide) rfl (hb hby at_391)).iload X329 hx (hb hby at_392) rfl).icmpNo X329 hx (hb hby at_394) (XT.ii_ne_f rfl)).iconst X329 hx (hb hby at_397) (v := (1 : Int32)) rfl).goto X329 hx (hb hby at_398) (by decide) (by decide)
        exact k334.ireturnN X329 hx (t := .boolean) Bd.returns (by simp) rfl (hb hby at_402) (BodyLoose.notSynchronized Bd) (by rw [e329]; exact ⟨rfl, N329⟩) (by decide) (by decide)
    ·
      have k335 : Go p e below m W s₁ 26 #[.val (.int p1), .val (.int p2), .val (.int p3), .val (.int p4), .val (.int p5), .val (.int (1 : Int32)), .val (.int (1 : Int32)), .unset, .unset, .unset, .unset, .unset, .unset, .unset, .unset, .unset, .unset, .unset, .unset, .unset, .unset, .unset, .unset] [] := (((k214.ifNo X0 hx (hb hby at_16) (XT.i0_eq_f hc16_215)).iconst X0 hx (hb hby at_19) (v := (1 : Int32)) rfl).goto X0 hx (hb hby at_20) (by decide) (by decide)).istore X0 hx (hb hby at_24) rfl
      have k336 : Go p e below m W s₁ 35 #[.val (.int p1), .val (.int p2), .val (.int p3), .val (.int p4), .val (.int p5), .val (.int (1 : Int32)), .val (.int (1 : Int32)), .unset, .unset, .unset, .unset, .unset, .unset, .unset, .unset, .unset, .unset, .unset, .unset, .unset, .unset, .unset, .unset] [(.int (((XT.ushr p1 (2 : Int32)) &&& (255 : Int32)) % (4 : Int32)))] := ((((((k335.iloadN X0 hx (hb hby at_26) rfl).iconst X0 hx (hb hby at_27) (v := (2 : Int32)) rfl).iushr X0 hx (hb hby at_28)).sipush X0 hx (hb hby at_29) (v := (255 : Int32)) rfl).iand X0 hx (hb hby at_32)).iconst X0 hx (hb hby at_33) (v := (4 : Int32)) rfl).irem X0 hx (hb hby at_34) (by decide)
      obtain ⟨r337, hr337, hs337⟩ : ∃ r : Int32, r = (((XT.ushr p1 (2 : Int32)) &&& (255 : Int32)) % (4 : Int32)) ∧ (r = (0 : Int32) ∨ r = (1 : Int32) ∨ r = (2 : Int32) ∨ r = (3 : Int32)) := ⟨_, rfl, own_r4 (own_and (by decide))⟩
      have k338 : Go p e below m W s₁ 35 #[.val (.int p1), .val (.int p2), .val (.int p3), .val (.int p4), .val (.int p5), .val (.int (1 : Int32)), .val (.int (1 : Int32)), .unset, .unset, .unset, .unset, .unset, .unset, .unset, .unset, .unset, .unset, .unset, .unset, .unset, .unset, .unset, .unset] [(.int r337)] := hr337 ▸ k336
      clear hr337
      have k339 : Go p e below m W s₁ 37 #[.val (.int p1), .val (.int p2), .val (.int p3), .val (.int p4), .val (.int p5), .val (.int (1 : Int32)), .val (.int (1 : Int32)), .val (.int r337), .unset, .unset, .unset, .unset, .unset, .unset, .unset, .unset, .unset, .unset, .unset, .unset, .unset, .unset, .unset] [] := k338.istore X0 hx (hb hby at_35) rfl
      have k340 : Go p e below m W s₁ 49 #[.val (.int p1), .val (.int p2), .val (.int p3), .val (.int p4), .val (.int p5), .val (.int (1 : Int32)), .val (.int (1 : Int32)), .val (.int r337), .unset, .unset, .unset, .unset, .unset, .unset, .unset, .unset, .unset, .unset, .unset, .unset, .unset, .unset, .unset] [(.int (((XT.ushr p1 (10 : Int32)) &&& (3 : Int32)) % (3 : Int32))), (.int (r337 + (1 : Int32)))] := (((((((((k339.iload X0 hx (hb hby at_37) rfl).iconst X0 hx (hb hby at_39) (v := (1 : Int32)) rfl).iadd X0 hx (hb hby at_40)).iloadN X0 hx (hb hby at_41) rfl).bipush X0 hx (hb hby at_42) (v := (10 : Int32)) rfl).iushr X0 hx (hb hby at_44)).iconst X0 hx (hb hby at_45) (v := (3 : Int32)) rfl).iand X0 hx (hb hby at_46)).iconst X0 hx (hb hby at_47) (v := (3 : Int32)) rfl).irem X0 hx (hb hby at_48) (by decide)
      obtain ⟨r341, hr341, hs341⟩ : ∃ r : Int32, r = (((XT.ushr p1 (10 : Int32)) &&& (3 : Int32)) % (3 : Int32)) ∧ (r = (0 : Int32) ∨ r = (1 : Int32) ∨ r = (2 : Int32)) := ⟨_, rfl, own_r3 (own_and (by decide))⟩
      have k342 : Go p e below m W s₁ 49 #[.val (.int p1), .val (.int p2), .val (.int p3), .val (.int p4), .val (.int p5), .val (.int (1 : Int32)), .val (.int (1 : Int32)), .val (.int r337), .unset, .unset, .unset, .unset, .unset, .unset, .unset, .unset, .unset, .unset, .unset, .unset, .unset, .unset, .unset] [(.int r341), (.int (r337 + (1 : Int32)))] := hr341 ▸ k340
      clear hr341
      have k343 : Go p e below m W s₁ 52 #[.val (.int p1), .val (.int p2), .val (.int p3), .val (.int p4), .val (.int p5), .val (.int (1 : Int32)), .val (.int (1 : Int32)), .val (.int r337), .unset, .unset, .unset, .unset, .unset, .unset, .unset, .unset, .unset, .unset, .unset, .unset, .unset, .unset, .unset] [(.int (((r337 + (1 : Int32)) + r341) % (4 : Int32)))] := ((k342.iadd X0 hx (hb hby at_49)).iconst X0 hx (hb hby at_50) (v := (4 : Int32)) rfl).irem X0 hx (hb hby at_51) (by decide)
      obtain ⟨r344, hr344, hs344⟩ : ∃ r : Int32, r = (((r337 + (1 : Int32)) + r341) % (4 : Int32)) ∧ ((r = (0 : Int32) ∨ r = (1 : Int32) ∨ r = (2 : Int32) ∨ r = (3 : Int32)) ∧ ¬ (r = r337)) := ⟨_, rfl, own_f1 hs337 hs341⟩
      have k345 : Go p e below m W s₁ 52 #[.val (.int p1), .val (.int p2), .val (.int p3), .val (.int p4), .val (.int p5), .val (.int (1 : Int32)), .val (.int (1 : Int32)), .val (.int r337), .unset, .unset, .unset, .unset, .unset, .unset, .unset, .unset, .unset, .unset, .unset, .unset, .unset, .unset, .unset] [(.int r344)] := hr344 ▸ k343
      clear hr344
      have k346 : Go p e below m W s₁ 54 #[.val (.int p1), .val (.int p2), .val (.int p3), .val (.int p4), .val (.int p5), .val (.int (1 : Int32)), .val (.int (1 : Int32)), .val (.int r337), .val (.int r344), .unset, .unset, .unset, .unset, .unset, .unset, .unset, .unset, .unset, .unset, .unset, .unset, .unset, .unset] [] := k345.istore X0 hx (hb hby at_52) rfl
      have k347 : Go p e below m W s₁ 60 #[.val (.int p1), .val (.int p2), .val (.int p3), .val (.int p4), .val (.int p5), .val (.int (1 : Int32)), .val (.int (1 : Int32)), .val (.int r337), .val (.int r344), .unset, .unset, .unset, .unset, .unset, .unset, .unset, .unset, .unset, .unset, .unset, .unset, .unset, .unset] [(.int ((p2 &&& (2147483647 : Int32)) % (4 : Int32)))] := ((((k346.iloadN X0 hx (hb hby at_54) rfl).ldcI X0 hx hZ hown (hv 0 rfl) (hb hby at_55)).iand X0 hx (hb hby at_57)).iconst X0 hx (hb hby at_58) (v := (4 : Int32)) rfl).irem X0 hx (hb hby at_59) (by decide)
      obtain ⟨r348, hr348, hs348⟩ : ∃ r : Int32, r = ((p2 &&& (2147483647 : Int32)) % (4 : Int32)) ∧ (r = (0 : Int32) ∨ r = (1 : Int32) ∨ r = (2 : Int32) ∨ r = (3 : Int32)) := ⟨_, rfl, own_r4 (own_mask p2)⟩
      have k349 : Go p e below m W s₁ 60 #[.val (.int p1), .val (.int p2), .val (.int p3), .val (.int p4), .val (.int p5), .val (.int (1 : Int32)), .val (.int (1 : Int32)), .val (.int r337), .val (.int r344), .unset, .unset, .unset, .unset, .unset, .unset, .unset, .unset, .unset, .unset, .unset, .unset, .unset, .unset] [(.int r348)] := hr348 ▸ k347
      clear hr348
      have k350 : Go p e below m W s₁ 62 #[.val (.int p1), .val (.int p2), .val (.int p3), .val (.int p4), .val (.int p5), .val (.int (1 : Int32)), .val (.int (1 : Int32)), .val (.int r337), .val (.int r344), .val (.int r348), .unset, .unset, .unset, .unset, .unset, .unset, .unset, .unset, .unset, .unset, .unset, .unset, .unset] [] := k349.istore X0 hx (hb hby at_60) rfl
      have k351 : Go p e below m W s₁ 67 #[.val (.int p1), .val (.int p2), .val (.int p3), .val (.int p4), .val (.int p5), .val (.int (1 : Int32)), .val (.int (1 : Int32)), .val (.int r337), .val (.int r344), .val (.int r348), .unset, .unset, .unset, .unset, .unset, .unset, .unset, .unset, .unset, .unset, .unset, .unset, .unset] [(.int (p1 &&& (4096 : Int32)))] := ((k350.iloadN X0 hx (hb hby at_62) rfl).sipush X0 hx (hb hby at_63) (v := (4096 : Int32)) rfl).iand X0 hx (hb hby at_66)
      obtain ⟨u352_S0, hd352, k352⟩ : ∃ (u352_S0 : Int32), ((((p1 &&& (4096 : Int32)) = (0 : Int32)) ∧ u352_S0 = (p3 &&& (2147483647 : Int32))) ∨ ((¬ ((p1 &&& (4096 : Int32)) = (0 : Int32))) ∧ u352_S0 = (2147483647 : Int32))) ∧ Go p e below m W s₁ 79 #[.val (.int p1), .val (.int p2), .val (.int p3), .val (.int p4), .val (.int p5), .val (.int (1 : Int32)), .val (.int (1 : Int32)), .val (.int r337), .val (.int r344), .val (.int r348), .unset, .unset, .unset, .unset, .unset, .unset, .unset, .unset, .unset, .unset, .unset, .unset, .unset] [(.int u352_S0)] := by
        by_cases hc67_353 : (p1 &&& (4096 : Int32)) = (0 : Int32)
        ·
          have k354 : Go p e below m W s₁ 79 #[.val (.int p1), .val (.int p2), .val (.int p3), .val (.int p4), .val (.int p5), .val (.int (1 : Int32)), .val (.int (1 : Int32)), .val (.int r337), .val (.int r344), .val (.int r348), .unset, .unset, .unset, .unset, .unset, .unset, .unset, .unset, .unset, .unset, .unset, .unset, .unset] [(.int (p3 &&& (2147483647 : Int32)))] := (((k351.ifYes X0 hx (hb hby at_67) (XT.i0_eq_t hc67_353) (by decide) (by decide)).iloadN X0 hx (hb hby at_75) rfl).ldcI X0 hx hZ hown (hv 0 rfl) (hb hby at_76)).iand X0 hx (hb hby at_78)
          exact ⟨(p3 &&& (2147483647 : Int32)), (Or.inl ⟨hc67_353, rfl⟩), k354⟩
        ·
          have k355 : Go p e below m W s₁ 79 #[.val (.int p1), .val (.int p2), .val (.int p3), .val (.int p4), .val (.int p5), .val (.int (1 : Int32)), .val (.int (1 : Int32)), .val (.int r337), .val (.int r344), .val (.int r348), .unset, .unset, .unset, .unset, .unset, .unset, .unset, .unset, .unset, .unset, .unset, .unset, .unset] [(.int (2147483647 : Int32))] := ((k351.ifNo X0 hx (hb hby at_67) (XT.i0_eq_f hc67_353)).ldcI X0 hx hZ hown (hv 0 rfl) (hb hby at_70)).goto X0 hx (hb hby at_72) (by decide) (by decide)
          exact ⟨(2147483647 : Int32), (Or.inr ⟨hc67_353, rfl⟩), k355⟩
      have k356 : Go p e below m W s₁ 81 #[.val (.int p1), .val (.int p2), .val (.int p3), .val (.int p4), .val (.int p5), .val (.int (1 : Int32)), .val (.int (1 : Int32)), .val (.int r337), .val (.int r344), .val (.int r348), .val (.int u352_S0), .unset, .unset, .unset, .unset, .unset, .unset, .unset, .unset, .unset, .unset, .unset, .unset] [] := k352.istore X0 hx (hb hby at_79) rfl
      have k357 : Go p e below m W s₁ 86 #[.val (.int p1), .val (.int p2), .val (.int p3), .val (.int p4), .val (.int p5), .val (.int (1 : Int32)), .val (.int (1 : Int32)), .val (.int r337), .val (.int r344), .val (.int r348), .val (.int u352_S0), .unset, .unset, .unset, .unset, .unset, .unset, .unset, .unset, .unset, .unset, .unset, .unset] [(.int (p1 &&& (8192 : Int32)))] := ((k356.iloadN X0 hx (hb hby at_81) rfl).sipush X0 hx (hb hby at_82) (v := (8192 : Int32)) rfl).iand X0 hx (hb hby at_85)
      obtain ⟨u358_S0, hd358, k358⟩ : ∃ (u358_S0 : Int32), ((((p1 &&& (8192 : Int32)) = (0 : Int32)) ∧ u358_S0 = (p4 &&& (2147483647 : Int32))) ∨ ((¬ ((p1 &&& (8192 : Int32)) = (0 : Int32))) ∧ u358_S0 = (2147483647 : Int32))) ∧ Go p e below m W s₁ 98 #[.val (.int p1), .val (.int p2), .val (.int p3), .val (.int p4), .val (.int p5), .val (.int (1 : Int32)), .val (.int (1 : Int32)), .val (.int r337), .val (.int r344), .val (.int r348), .val (.int u352_S0), .unset, .unset, .unset, .unset, .unset, .unset, .unset, .unset, .unset, .unset, .unset, .unset] [(.int u358_S0)] := by
        by_cases hc86_359 : (p1 &&& (8192 : Int32)) = (0 : Int32)
        ·
          have k360 : Go p e below m W s₁ 98 #[.val (.int p1), .val (.int p2), .val (.int p3), .val (.int p4), .val (.int p5), .val (.int (1 : Int32)), .val (.int (1 : Int32)), .val (.int r337), .val (.int r344), .val (.int r348), .val (.int u352_S0), .unset, .unset, .unset, .unset, .unset, .unset, .unset, .unset, .unset, .unset, .unset, .unset] [(.int (p4 &&& (2147483647 : Int32)))] := (((k357.ifYes X0 hx (hb hby at_86) (XT.i0_eq_t hc86_359) (by decide) (by decide)).iloadN X0 hx (hb hby at_94) rfl).ldcI X0 hx hZ hown (hv 0 rfl) (hb hby at_95)).iand X0 hx (hb hby at_97)
          exact ⟨(p4 &&& (2147483647 : Int32)), (Or.inl ⟨hc86_359, rfl⟩), k360⟩
        ·
          have k361 : Go p e below m W s₁ 98 #[.val (.int p1), .val (.int p2), .val (.int p3), .val (.int p4), .val (.int p5), .val (.int (1 : Int32)), .val (.int (1 : Int32)), .val (.int r337), .val (.int r344), .val (.int r348), .val (.int u352_S0), .unset, .unset, .unset, .unset, .unset, .unset, .unset, .unset, .unset, .unset, .unset, .unset] [(.int (2147483647 : Int32))] := ((k357.ifNo X0 hx (hb hby at_86) (XT.i0_eq_f hc86_359)).ldcI X0 hx hZ hown (hv 0 rfl) (hb hby at_89)).goto X0 hx (hb hby at_91) (by decide) (by decide)
          exact ⟨(2147483647 : Int32), (Or.inr ⟨hc86_359, rfl⟩), k361⟩
      have k362 : Go p e below m W s₁ 100 #[.val (.int p1), .val (.int p2), .val (.int p3), .val (.int p4), .val (.int p5), .val (.int (1 : Int32)), .val (.int (1 : Int32)), .val (.int r337), .val (.int r344), .val (.int r348), .val (.int u352_S0), .val (.int u358_S0), .unset, .unset, .unset, .unset, .unset, .unset, .unset, .unset, .unset, .unset, .unset] [] := k358.istore X0 hx (hb hby at_98) rfl
      obtain ⟨T363, h363, b363, X363, e363, g363, E363, A363, D363, k363⟩ := k362.newO (cells' := 1) (slots' := 3) X0 hx hZ hown (hv 1 rfl) (hv 2 rfl) (hv 3 rfl) e0 (hb hby at_100) rfl rfl (by decide) (by decide)
      have k363 : Go p e below m W T363 103 #[.val (.int p1), .val (.int p2), .val (.int p3), .val (.int p4), .val (.int p5), .val (.int (1 : Int32)), .val (.int (1 : Int32)), .val (.int r337), .val (.int r344), .val (.int r348), .val (.int u352_S0), .val (.int u358_S0), .unset, .unset, .unset, .unset, .unset, .unset, .unset, .unset, .unset, .unset, .unset] [(.ref b363)] := k363
      have Z363 : n0 ≤ h363.size := Nat.le_trans Z0 E363.1
      have G363 : n0 ≤ b363 := g363 ▸ Z0
      have f364 : Fld Z h363 b363 "java/util/AbstractList" "modCount" "I" (.int (0 : Int32)) := D363 (Or.inl (hv 23 rfl)) (ty := .int) (by decide)
      have f365 : Fld Z h363 b363 "java/util/ArrayList" "elementData" "[Ljava/lang/Object;" .null := D363 (Or.inl (hv 26 rfl)) (ty := (.array (.object "java/lang/Object"))) (by decide)
      have f366 : Fld Z h363 b363 "java/util/ArrayList" "size" "I" (.int (0 : Int32)) := D363 (Or.inl (hv 78 rfl)) (ty := .int) (by decide)
      have k367 : Go p e below m W T363 104 #[.val (.int p1), .val (.int p2), .val (.int p3), .val (.int p4), .val (.int p5), .val (.int (1 : Int32)), .val (.int (1 : Int32)), .val (.int r337), .val (.int r344), .val (.int r348), .val (.int u352_S0), .val (.int u358_S0), .unset, .unset, .unset, .unset, .unset, .unset, .unset, .unset, .unset, .unset, .unset] [(.ref b363), (.ref b363)] := k363.dup X363 hx (hb hby at_103) rfl
      have g_80 := O0.ext E363
      obtain ⟨T368, v368, L368, X368, Q368, k368⟩ := k367.spec (y := (⟨"java/util/ArrayList", "<init>", "()V"⟩ : MethodName)) (b := b363) (Wd := 1) (cells' := 1) (slots' := 3) (argsL := []) (rest := [(.ref b363)]) X363 hx hZ hown (by rw [hml]; rfl) rfl (hv 4 rfl) (hv 5 rfl) (hv 6 rfl) (hv 3 rfl) (hb hby at_104) (by decide) (rmar l Z a0 hw [] b363 de (.int (0 : Int32)) .null h363 n0 Z363 g_80 SD A363 G363 f364 f365 f366) e363 rfl rfl pd_rmal_0 rfl (Nat.le_of_eq rfl) (by decide) (by decide) rfl rfl (by decide) (by decide)
      obtain ⟨rfl, Nq368, Kq368, q368_0, q368_1, q368_2, q368_3⟩ := Q368
      have N368 := Fr.app N0 Nq368
      obtain ⟨h368, e368⟩ : ∃ h, T368.heap = h := ⟨_, rfl⟩
      rw [e368] at Kq368 q368_0 q368_1 q368_2 q368_3
      have Z368 : n0 ≤ h368.size := Nat.le_trans Z363 Kq368.1
      have k368 : Go p e below m W T368 107 #[.val (.int p1), .val (.int p2), .val (.int p3), .val (.int p4), .val (.int p5), .val (.int (1 : Int32)), .val (.int (1 : Int32)), .val (.int r337), .val (.int r344), .val (.int r348), .val (.int u352_S0), .val (.int u358_S0), .unset, .unset, .unset, .unset, .unset, .unset, .unset, .unset, .unset, .unset, .unset] [(.ref b363)] := k368
      have k369 : Go p e below m W T368 109 #[.val (.int p1), .val (.int p2), .val (.int p3), .val (.int p4), .val (.int p5), .val (.int (1 : Int32)), .val (.int (1 : Int32)), .val (.int r337), .val (.int r344), .val (.int r348), .val (.int u352_S0), .val (.int u358_S0), .val (.ref b363), .unset, .unset, .unset, .unset, .unset, .unset, .unset, .unset, .unset, .unset] [] := k368.astore X368 hx (hb hby at_107) rfl rfl
      have k370 : Go p e below m W T368 116 #[.val (.int p1), .val (.int p2), .val (.int p3), .val (.int p4), .val (.int p5), .val (.int (1 : Int32)), .val (.int (1 : Int32)), .val (.int r337), .val (.int r344), .val (.int r348), .val (.int u352_S0), .val (.int u358_S0), .val (.ref b363), .unset, .unset, .unset, .unset, .unset, .unset, .unset, .unset, .unset, .unset] [(.ref b363)] := ((k369.iload X368 hx (hb hby at_109) rfl).ifNo X368 hx (hb hby at_111) (XT.i0_eq_f (by decide))).aload X368 hx (hb hby at_114) rfl rfl
      obtain ⟨T371, h371, b371, X371, e371, g371, E371, A371, D371, k371⟩ := k370.newO (cells' := 2) (slots' := 6) X368 hx hZ hown (hv 95 rfl) (hv 96 rfl) (hv 97 rfl) e368 (hb hby at_116) rfl rfl (by decide) (by decide)
      have k371 : Go p e below m W T371 119 #[.val (.int p1), .val (.int p2), .val (.int p3), .val (.int p4), .val (.int p5), .val (.int (1 : Int32)), .val (.int (1 : Int32)), .val (.int r337), .val (.int r344), .val (.int r348), .val (.int u352_S0), .val (.int u358_S0), .val (.ref b363), .unset, .unset, .unset, .unset, .unset, .unset, .unset, .unset, .unset, .unset] [(.ref b371), (.ref b363)] := k371
      have Z371 : n0 ≤ h371.size := Nat.le_trans Z368 E371.1
      have G371 : n0 ≤ b371 := g371 ▸ Z368
      have f372 : Fld Z h371 b371 "com/example/enact/enact/Classification$Flat" "place" "I" (.int (0 : Int32)) := D371 (Or.inr (hv 108 rfl)) (ty := .int) (by decide)
      have f373 : Fld Z h371 b371 "com/example/enact/enact/Classification$Flat" "feeder" "I" (.int (0 : Int32)) := D371 (Or.inr (hv 110 rfl)) (ty := .int) (by decide)
      have f374 : Fld Z h371 b371 "com/example/enact/enact/Classification$Flat" "drainer" "I" (.int (0 : Int32)) := D371 (Or.inr (hv 112 rfl)) (ty := .int) (by decide)
      have k375 : Go p e below m W T371 129 #[.val (.int p1), .val (.int p2), .val (.int p3), .val (.int p4), .val (.int p5), .val (.int (1 : Int32)), .val (.int (1 : Int32)), .val (.int r337), .val (.int r344), .val (.int r348), .val (.int u352_S0), .val (.int u358_S0), .val (.ref b363), .unset, .unset, .unset, .unset, .unset, .unset, .unset, .unset, .unset, .unset] [(.int ((r337 + (2 : Int32)) % (4 : Int32))), (.int r337), (.int (0 : Int32)), (.ref b371), (.ref b371), (.ref b363)] := (((((((k371.dup X371 hx (hb hby at_119) rfl).iconst X371 hx (hb hby at_120) (v := (0 : Int32)) rfl).iload X371 hx (hb hby at_121) rfl).iload X371 hx (hb hby at_123) rfl).iconst X371 hx (hb hby at_125) (v := (2 : Int32)) rfl).iadd X371 hx (hb hby at_126)).iconst X371 hx (hb hby at_127) (v := (4 : Int32)) rfl).irem X371 hx (hb hby at_128) (by decide)
      obtain ⟨T376, v376, L376, X376, Q376, k376⟩ := k375.spec (y := (⟨"com/example/enact/enact/Classification$Flat", "<init>", "(III)V"⟩ : MethodName)) (b := b371) (Wd := 2) (cells' := 2) (slots' := 6) (argsL := [(.int (0 : Int32)), (.int r337), (.int ((r337 + (2 : Int32)) % (4 : Int32)))]) (rest := [(.ref b371), (.ref b363)]) X371 hx hZ hown (by rw [hml]; rfl) rfl (hv 98 rfl) (hv 99 rfl) (hv 100 rfl) (hv 97 rfl) (hb hby at_129) (by decide) (rmfl l Z a0 hw [] b371 (0 : Int32) r337 ((r337 + (2 : Int32)) % (4 : Int32)) (.int (0 : Int32)) (.int (0 : Int32)) (.int (0 : Int32)) h371 n0 Z371 A371 G371 f372 f373 f374) e371 rfl rfl pd_rm0_3 rfl (Nat.le_of_eq rfl) (by decide) (by decide) rfl rfl (by decide) (by decide)
      obtain ⟨rfl, Nq376, Kq376, q376_0, q376_1, q376_2⟩ := Q376
      have N376 := Fr.app N368 Nq376
      obtain ⟨h376, e376⟩ : ∃ h, T376.heap = h := ⟨_, rfl⟩
      rw [e376] at Kq376 q376_0 q376_1 q376_2
      have Z376 : n0 ≤ h376.size := Nat.le_trans Z371 Kq376.1
      have k376 : Go p e below m W T376 132 #[.val (.int p1), .val (.int p2), .val (.int p3), .val (.int p4), .val (.int p5), .val (.int (1 : Int32)), .val (.int (1 : Int32)), .val (.int r337), .val (.int r344), .val (.int r348), .val (.int u352_S0), .val (.int u358_S0), .val (.ref b363), .unset, .unset, .unset, .unset, .unset, .unset, .unset, .unset, .unset, .unset] [(.ref b371), (.ref b363)] := k376
      have g_81 := ((g_80.keep Kq368 (by intro x q; simp only [List.mem_cons, List.not_mem_nil, or_false] at q; rcases q with rfl; exact G363)).ext E371).keep Kq376 (by intro x q; simp only [List.mem_cons, List.not_mem_nil, or_false] at q; rcases q with rfl; exact G371)
      have g_82 := (q368_0.ext E371).keep Kq376
      have g_83 := (show b363 ≠ b371 from Nat.ne_of_lt (g371 ▸ q368_0.lt))
      have g_84 := (q368_1.ext E371).keep Kq376 (by simp only [List.mem_cons, List.not_mem_nil, or_false, not_or]; exact g_83)
      have g_85 := (q368_2.ext E371).keep Kq376 (by simp only [List.mem_cons, List.not_mem_nil, or_false, not_or]; exact g_83)
      have g_86 := (q368_3.ext E371).keep Kq376 (by simp only [List.mem_cons, List.not_mem_nil, or_false, not_or]; exact g_83)
      obtain ⟨T377, v377, L377, X377, Q377, k377⟩ := k376.iface (y := (⟨"java/util/List", "add", "(Ljava/lang/Object;)Z"⟩ : MethodName)) (z := (⟨"java/util/ArrayList", "add", "(Ljava/lang/Object;)Z"⟩ : MethodName)) (Wd := 0) (cells' := 3) (slots' := 16) (argsL := [(.ref b371)]) (rest := []) X376 hx hZ hown (by rw [hml]; rfl) (hv 113 rfl) (hv 114 rfl) (mvT hZ (hv 115 rfl)) (hv 116 rfl) (hv 117 rfl) (hv 118 rfl) (hv 119 rfl) (hv 48 rfl) (hv 120 rfl) (hv 3 rfl) (hb hby at_132) (by decide) (rma0 l Z a0 hw [] b363 de kd b371 h376 n0 Z376 g_81 SD VD q376_0 g_82 G363 g_84 g_85 g_86) e376 g_82 rfl rfl pd_rm0_4 rfl (Nat.le_of_eq rfl) (by decide) (by decide) rfl rfl (by decide) (by decide)
      obtain ⟨ob_377, ok_377, rfl, Nq377, Kq377, q377_0, q377_1, q377_2, q377_3, q377_4, q377_5, q377_6, q377_7, q377_8⟩ := Q377
      have N377 := Fr.app N376 Nq377
      obtain ⟨h377, e377⟩ : ∃ h, T377.heap = h := ⟨_, rfl⟩
      rw [e377] at Kq377 q377_0 q377_1 q377_2 q377_3 q377_4
      have Z377 : n0 ≤ h377.size := Nat.le_trans Z376 Kq377.1
      have k377 : Go p e below m W T377 137 #[.val (.int p1), .val (.int p2), .val (.int p3), .val (.int p4), .val (.int p5), .val (.int (1 : Int32)), .val (.int (1 : Int32)), .val (.int r337), .val (.int r344), .val (.int r348), .val (.int u352_S0), .val (.int u358_S0), .val (.ref b363), .unset, .unset, .unset, .unset, .unset, .unset, .unset, .unset, .unset, .unset] [(.int (1 : Int32))] := k377
      have k378 : Go p e below m W T377 145 #[.val (.int p1), .val (.int p2), .val (.int p3), .val (.int p4), .val (.int p5), .val (.int (1 : Int32)), .val (.int (1 : Int32)), .val (.int r337), .val (.int r344), .val (.int r348), .val (.int u352_S0), .val (.int u358_S0), .val (.ref b363), .unset, .unset, .unset, .unset, .unset, .unset, .unset, .unset, .unset, .unset] [(.ref b363)] := (((k377.pop X377 hx (hb hby at_137) rfl).iload X377 hx (hb hby at_138) rfl).ifNo X377 hx (hb hby at_140) (XT.i0_eq_f (by decide))).aload X377 hx (hb hby at_143) rfl rfl
      obtain ⟨T379, h379, b379, X379, e379, g379, E379, A379, D379, k379⟩ := k378.newO (cells' := 4) (slots' := 19) X377 hx hZ hown (hv 95 rfl) (hv 96 rfl) (hv 97 rfl) e377 (hb hby at_145) rfl rfl (by decide) (by decide)
      have k379 : Go p e below m W T379 148 #[.val (.int p1), .val (.int p2), .val (.int p3), .val (.int p4), .val (.int p5), .val (.int (1 : Int32)), .val (.int (1 : Int32)), .val (.int r337), .val (.int r344), .val (.int r348), .val (.int u352_S0), .val (.int u358_S0), .val (.ref b363), .unset, .unset, .unset, .unset, .unset, .unset, .unset, .unset, .unset, .unset] [(.ref b379), (.ref b363)] := k379
      have Z379 : n0 ≤ h379.size := Nat.le_trans Z377 E379.1
      have G379 : n0 ≤ b379 := g379 ▸ Z377
      have f380 : Fld Z h379 b379 "com/example/enact/enact/Classification$Flat" "place" "I" (.int (0 : Int32)) := D379 (Or.inr (hv 108 rfl)) (ty := .int) (by decide)
      have f381 : Fld Z h379 b379 "com/example/enact/enact/Classification$Flat" "feeder" "I" (.int (0 : Int32)) := D379 (Or.inr (hv 110 rfl)) (ty := .int) (by decide)
      have f382 : Fld Z h379 b379 "com/example/enact/enact/Classification$Flat" "drainer" "I" (.int (0 : Int32)) := D379 (Or.inr (hv 112 rfl)) (ty := .int) (by decide)
      have k383 : Go p e below m W T379 158 #[.val (.int p1), .val (.int p2), .val (.int p3), .val (.int p4), .val (.int p5), .val (.int (1 : Int32)), .val (.int (1 : Int32)), .val (.int r337), .val (.int r344), .val (.int r348), .val (.int u352_S0), .val (.int u358_S0), .val (.ref b363), .unset, .unset, .unset, .unset, .unset, .unset, .unset, .unset, .unset, .unset] [(.int ((r344 + (2 : Int32)) % (4 : Int32))), (.int r344), (.int (1 : Int32)), (.ref b379), (.ref b379), (.ref b363)] := (((((((k379.dup X379 hx (hb hby at_148) rfl).iconst X379 hx (hb hby at_149) (v := (1 : Int32)) rfl).iload X379 hx (hb hby at_150) rfl).iload X379 hx (hb hby at_152) rfl).iconst X379 hx (hb hby at_154) (v := (2 : Int32)) rfl).iadd X379 hx (hb hby at_155)).iconst X379 hx (hb hby at_156) (v := (4 : Int32)) rfl).irem X379 hx (hb hby at_157) (by decide)
      obtain ⟨T384, v384, L384, X384, Q384, k384⟩ := k383.spec (y := (⟨"com/example/enact/enact/Classification$Flat", "<init>", "(III)V"⟩ : MethodName)) (b := b379) (Wd := 2) (cells' := 4) (slots' := 19) (argsL := [(.int (1 : Int32)), (.int r344), (.int ((r344 + (2 : Int32)) % (4 : Int32)))]) (rest := [(.ref b379), (.ref b363)]) X379 hx hZ hown (by rw [hml]; rfl) rfl (hv 98 rfl) (hv 99 rfl) (hv 100 rfl) (hv 97 rfl) (hb hby at_158) (by decide) (rmfl l Z a0 hw [] b379 (1 : Int32) r344 ((r344 + (2 : Int32)) % (4 : Int32)) (.int (0 : Int32)) (.int (0 : Int32)) (.int (0 : Int32)) h379 n0 Z379 A379 G379 f380 f381 f382) e379 rfl rfl pd_rm0_3 rfl (Nat.le_of_eq rfl) (by decide) (by decide) rfl rfl (by decide) (by decide)
      obtain ⟨rfl, Nq384, Kq384, q384_0, q384_1, q384_2⟩ := Q384
      have N384 := Fr.app N377 Nq384
      obtain ⟨h384, e384⟩ : ∃ h, T384.heap = h := ⟨_, rfl⟩
      rw [e384] at Kq384 q384_0 q384_1 q384_2
      have Z384 : n0 ≤ h384.size := Nat.le_trans Z379 Kq384.1
      have k384 : Go p e below m W T384 161 #[.val (.int p1), .val (.int p2), .val (.int p3), .val (.int p4), .val (.int p5), .val (.int (1 : Int32)), .val (.int (1 : Int32)), .val (.int r337), .val (.int r344), .val (.int r348), .val (.int u352_S0), .val (.int u358_S0), .val (.ref b363), .unset, .unset, .unset, .unset, .unset, .unset, .unset, .unset, .unset, .unset] [(.ref b379), (.ref b363)] := k384
      have g_87 := (q377_0.ext E379).keep Kq384
      have g_88 := (show b363 ≠ b379 from Nat.ne_of_lt (g379 ▸ q377_0.lt))
      have g_89 := (q377_1.ext E379).keep Kq384 (by simp only [List.mem_cons, List.not_mem_nil, or_false, not_or]; exact g_88)
      have g_90 := (q377_2.ext E379).keep Kq384 (by simp only [List.mem_cons, List.not_mem_nil, or_false, not_or]; exact g_88)
      have g_91 := (q377_3.ext E379).keep Kq384 (by simp only [List.mem_cons, List.not_mem_nil, or_false, not_or]; exact g_88)
      have g_92 := (show ob_377 ≠ b379 from Nat.ne_of_lt (g379 ▸ q377_4.lt))
      have g_93 := (q377_4.ext E379).keep Kq384 (by simp only [List.mem_cons, List.not_mem_nil, or_false, not_or]; exact g_92)
      obtain ⟨T385, v385, L385, X385, Q385, k385⟩ := k384.iface (y := (⟨"java/util/List", "add", "(Ljava/lang/Object;)Z"⟩ : MethodName)) (z := (⟨"java/util/ArrayList", "add", "(Ljava/lang/Object;)Z"⟩ : MethodName)) (Wd := 0) (cells' := 4) (slots' := 19) (argsL := [(.ref b379)]) (rest := []) X384 hx hZ hown (by rw [hml]; rfl) (hv 113 rfl) (hv 114 rfl) (mvT hZ (hv 115 rfl)) (hv 116 rfl) (hv 117 rfl) (hv 118 rfl) (hv 119 rfl) (hv 48 rfl) (hv 120 rfl) (hv 3 rfl) (hb hby at_161) (by decide) (rma1 l Z a0 hw [] b363 ob_377 ok_377 b371 b379 h384 n0 Z384 q384_0 g_87 G363 g_89 g_90 g_91 g_93 q377_7 q377_5 q377_8) e384 g_87 rfl rfl pd_rm0_4 rfl (Nat.le_of_eq rfl) (by decide) (by decide) rfl rfl (by decide) (by decide)
      obtain ⟨rfl, Nq385, Kq385, q385_0, q385_1, q385_2, q385_3, q385_4⟩ := Q385
      have N385 := Fr.app N384 Nq385
      obtain ⟨h385, e385⟩ : ∃ h, T385.heap = h := ⟨_, rfl⟩
      rw [e385] at Kq385 q385_0 q385_1 q385_2 q385_3 q385_4
      have Z385 : n0 ≤ h385.size := Nat.le_trans Z384 Kq385.1
      have k385 : Go p e below m W T385 166 #[.val (.int p1), .val (.int p2), .val (.int p3), .val (.int p4), .val (.int p5), .val (.int (1 : Int32)), .val (.int (1 : Int32)), .val (.int r337), .val (.int r344), .val (.int r348), .val (.int u352_S0), .val (.int u358_S0), .val (.ref b363), .unset, .unset, .unset, .unset, .unset, .unset, .unset, .unset, .unset, .unset] [(.int (1 : Int32))] := k385
      have k386 : Go p e below m W T385 167 #[.val (.int p1), .val (.int p2), .val (.int p3), .val (.int p4), .val (.int p5), .val (.int (1 : Int32)), .val (.int (1 : Int32)), .val (.int r337), .val (.int r344), .val (.int r348), .val (.int u352_S0), .val (.int u358_S0), .val (.ref b363), .unset, .unset, .unset, .unset, .unset, .unset, .unset, .unset, .unset, .unset] [] := k385.pop X385 hx (hb hby at_166) rfl
      obtain ⟨T387, h387, b387, X387, e387, g387, E387, A387, D387, k387⟩ := k386.newO (cells' := 5) (slots' := 21) X385 hx hZ hown (hv 27 rfl) (hv 28 rfl) (hv 29 rfl) e385 (hb hby at_167) rfl rfl (by decide) (by decide)
      have k387 : Go p e below m W T387 170 #[.val (.int p1), .val (.int p2), .val (.int p3), .val (.int p4), .val (.int p5), .val (.int (1 : Int32)), .val (.int (1 : Int32)), .val (.int r337), .val (.int r344), .val (.int r348), .val (.int u352_S0), .val (.int u358_S0), .val (.ref b363), .unset, .unset, .unset, .unset, .unset, .unset, .unset, .unset, .unset, .unset] [(.ref b387)] := k387
      have Z387 : n0 ≤ h387.size := Nat.le_trans Z385 E387.1
      have G387 : n0 ≤ b387 := g387 ▸ Z385
      have f388 : Fld Z h387 b387 "com/example/enact/enact/FeederAcceleration" "fed" "[I" .null := D387 (Or.inr (hv 36 rfl)) (ty := (.array .int)) (by decide)
      have f389 : Fld Z h387 b387 "com/example/enact/enact/FeederAcceleration" "accelerates" "Z" (.int (0 : Int32)) := D387 (Or.inr (hv 89 rfl)) (ty := .boolean) (by decide)
      have k390 : Go p e below m W T387 174 #[.val (.int p1), .val (.int p2), .val (.int p3), .val (.int p4), .val (.int p5), .val (.int (1 : Int32)), .val (.int (1 : Int32)), .val (.int r337), .val (.int r344), .val (.int r348), .val (.int u352_S0), .val (.int u358_S0), .val (.ref b363), .unset, .unset, .unset, .unset, .unset, .unset, .unset, .unset, .unset, .unset] [(.ref b363), (.int (4 : Int32)), (.ref b387), (.ref b387)] := ((k387.dup X387 hx (hb hby at_170) rfl).iconst X387 hx (hb hby at_171) (v := (4 : Int32)) rfl).aload X387 hx (hb hby at_172) rfl rfl
      have g_94 := q385_0.ext E387
      have g_95 := q385_1.ext E387
      have g_96 := q385_3.ext E387
      have g_97 := q385_2.ext E387
      have g_98 := q385_4.ext E387
      have g_99 := (show ob_377 ≠ b387 from Nat.ne_of_lt (g387 ▸ q385_4.lt))
      have g_100 := (show b363 ≠ b387 from Nat.ne_of_lt (g387 ▸ q385_0.lt))
      have g_101 := ((((q376_0.keep Kq377).ext E379).keep Kq384).keep Kq385).ext E387
      have g_102 := q376_0.keep Kq377
      have g_103 := (show b371 ≠ b379 from Nat.ne_of_lt (g379 ▸ g_102.lt))
      have g_104 := (show b371 ≠ ob_377 from Nat.ne_of_lt (Nat.lt_of_lt_of_le q376_0.lt q377_6))
      have g_105 := ((((q376_1.keep Kq377 (by simp only [List.mem_cons, List.not_mem_nil, or_false, not_or]; exact (Ne.symm g_83))).ext E379).keep Kq384 (by simp only [List.mem_cons, List.not_mem_nil, or_false, not_or]; exact g_103)).keep Kq385 (by simp only [List.mem_cons, List.not_mem_nil, or_false, not_or]; exact ⟨(Ne.symm g_83), g_104⟩)).ext E387
      have g_106 := ((((q376_2.keep Kq377 (by simp only [List.mem_cons, List.not_mem_nil, or_false, not_or]; exact (Ne.symm g_83))).ext E379).keep Kq384 (by simp only [List.mem_cons, List.not_mem_nil, or_false, not_or]; exact g_103)).keep Kq385 (by simp only [List.mem_cons, List.not_mem_nil, or_false, not_or]; exact ⟨(Ne.symm g_83), g_104⟩)).ext E387
      have g_107 := ((g_102.ext E379).keep Kq384).keep Kq385
      have g_108 := (show b371 ≠ b387 from Nat.ne_of_lt (g387 ▸ g_107.lt))
      have g_109 := (q384_0.keep Kq385).ext E387
      have g_110 := (q384_1.keep Kq385 (by simp only [List.mem_cons, List.not_mem_nil, or_false, not_or]; exact ⟨(Ne.symm g_88), (Ne.symm g_92)⟩)).ext E387
      have g_111 := (q384_2.keep Kq385 (by simp only [List.mem_cons, List.not_mem_nil, or_false, not_or]; exact ⟨(Ne.symm g_88), (Ne.symm g_92)⟩)).ext E387
      have g_112 := q384_0.keep Kq385
      have g_113 := (show b379 ≠ b387 from Nat.ne_of_lt (g387 ▸ g_112.lt))
      obtain ⟨T391, v391, L391, X391, Q391, k391⟩ := k390.spec (y := (⟨"com/example/enact/enact/FeederAcceleration", "<init>", "(ILjava/util/List;)V"⟩ : MethodName)) (b := b387) (Wd := 1) (cells' := 7) (slots' := 29) (argsL := [(.int (4 : Int32)), (.ref b363)]) (rest := [(.ref b387)]) X387 hx hZ hown (by rw [hml]; rfl) rfl (hv 30 rfl) (hv 31 rfl) (hv 32 rfl) (hv 29 rfl) (hb hby at_174) (by decide) (rmfa2 l Z a0 hw [] b387 b363 .null (.int (0 : Int32)) ob_377 ok_377 b371 r337 (0 : Int32) b379 r344 (1 : Int32) h387 n0 Z387 A387 G387 f388 f389 g_94 g_95 g_96 g_97 g_98 g_99 g_100 g_101 g_105 g_106 hs337 g_108 g_109 g_110 g_111 hs344.1 g_113) e387 rfl rfl pd_rm0_1 rfl (Nat.le_of_eq rfl) (by decide) (by decide) rfl rfl (by decide) (by decide)
      obtain ⟨of_391, okf_391, rfl, Nq391, Kq391, q391_0, q391_1, q391_2, q391_3, q391_4, q391_5⟩ := Q391
      have N391 := Fr.app N385 Nq391
      obtain ⟨h391, e391⟩ : ∃ h, T391.heap = h := ⟨_, rfl⟩
      rw [e391] at Kq391 q391_0 q391_1 q391_2
      have Z391 : n0 ≤ h391.size := Nat.le_trans Z387 Kq391.1
      have k391 : Go p e below m W T391 177 #[.val (.int p1), .val (.int p2), .val (.int p3), .val (.int p4), .val (.int p5), .val (.int (1 : Int32)), .val (.int (1 : Int32)), .val (.int r337), .val (.int r344), .val (.int r348), .val (.int u352_S0), .val (.int u358_S0), .val (.ref b363), .unset, .unset, .unset, .unset, .unset, .unset, .unset, .unset, .unset, .unset] [(.ref b387)] := k391
      have k392 : Go p e below m W T391 179 #[.val (.int p1), .val (.int p2), .val (.int p3), .val (.int p4), .val (.int p5), .val (.int (1 : Int32)), .val (.int (1 : Int32)), .val (.int r337), .val (.int r344), .val (.int r348), .val (.int u352_S0), .val (.int u358_S0), .val (.ref b363), .val (.ref b387), .unset, .unset, .unset, .unset, .unset, .unset, .unset, .unset, .unset] [] := k391.astore X391 hx (hb hby at_177) rfl rfl
      have k393 : Go p e below m W T391 180 #[.val (.int p1), .val (.int p2), .val (.int p3), .val (.int p4), .val (.int p5), .val (.int (1 : Int32)), .val (.int (1 : Int32)), .val (.int r337), .val (.int r344), .val (.int r348), .val (.int u352_S0), .val (.int u358_S0), .val (.ref b363), .val (.ref b387), .unset, .unset, .unset, .unset, .unset, .unset, .unset, .unset, .unset] [(.int (2 : Int32))] := k392.iconst X391 hx (hb hby at_179) (v := (2 : Int32)) rfl
      obtain ⟨T394, h394, b394, c394, X394, e394, g394, E394, A394, k394⟩ := k393.newP (cap := 2) (cells' := 8) (slots' := 31) X391 hx hZ (hv 34 rfl) e391 (hb hby at_180) (by decide) (by decide) (by decide) rfl rfl (by decide) (by decide)
      have k394 : Go p e below m W T394 182 #[.val (.int p1), .val (.int p2), .val (.int p3), .val (.int p4), .val (.int p5), .val (.int (1 : Int32)), .val (.int (1 : Int32)), .val (.int r337), .val (.int r344), .val (.int r348), .val (.int u352_S0), .val (.int u358_S0), .val (.ref b363), .val (.ref b387), .unset, .unset, .unset, .unset, .unset, .unset, .unset, .unset, .unset] [(.ref b394)] := k394
      have Z394 : n0 ≤ h394.size := Nat.le_trans Z391 E394.1
      have G394 : n0 ≤ b394 := g394 ▸ Z391
      have V394 : Arv Z h394 b394 c394 .int (2 : Int32) [(.int (0 : Int32)), (.int (0 : Int32))] (.int (0 : Int32)) := A394 2
      have k395 : Go p e below m W T394 186 #[.val (.int p1), .val (.int p2), .val (.int p3), .val (.int p4), .val (.int p5), .val (.int (1 : Int32)), .val (.int (1 : Int32)), .val (.int r337), .val (.int r344), .val (.int r348), .val (.int u352_S0), .val (.int u358_S0), .val (.ref b363), .val (.ref b387), .unset, .unset, .unset, .unset, .unset, .unset, .unset, .unset, .unset] [(.int u352_S0), (.int (0 : Int32)), (.ref b394), (.ref b394)] := ((k394.dup X394 hx (hb hby at_182) rfl).iconst X394 hx (hb hby at_183) (v := (0 : Int32)) rfl).iload X394 hx (hb hby at_184) rfl
      obtain ⟨T396, h396, l396, X396, e396, W396, V396, N396, k396⟩ := k395.iastore (i := 0) X394 hx hZ e394 V394 rfl rfl (by decide) (Nat.le_of_ble_eq_true rfl) N391 G394 (hb hby at_186)
      have k396 : Go p e below m W T396 187 #[.val (.int p1), .val (.int p2), .val (.int p3), .val (.int p4), .val (.int p5), .val (.int (1 : Int32)), .val (.int (1 : Int32)), .val (.int r337), .val (.int r344), .val (.int r348), .val (.int u352_S0), .val (.int u358_S0), .val (.ref b363), .val (.ref b387), .unset, .unset, .unset, .unset, .unset, .unset, .unset, .unset, .unset] [(.ref b394)] := k396
      have Z396 : n0 ≤ h396.size := (Wr.size W396).symm ▸ Z394
      have V396 : Arv Z h396 b394 c394 .int (2 : Int32) [(.int u352_S0), (.int (0 : Int32))] (.int (0 : Int32)) := V396
      have k397 : Go p e below m W T396 191 #[.val (.int p1), .val (.int p2), .val (.int p3), .val (.int p4), .val (.int p5), .val (.int (1 : Int32)), .val (.int (1 : Int32)), .val (.int r337), .val (.int r344), .val (.int r348), .val (.int u352_S0), .val (.int u358_S0), .val (.ref b363), .val (.ref b387), .unset, .unset, .unset, .unset, .unset, .unset, .unset, .unset, .unset] [(.int u358_S0), (.int (1 : Int32)), (.ref b394), (.ref b394)] := ((k396.dup X396 hx (hb hby at_187) rfl).iconst X396 hx (hb hby at_188) (v := (1 : Int32)) rfl).iload X396 hx (hb hby at_189) rfl
      obtain ⟨T398, h398, l398, X398, e398, W398, V398, N398, k398⟩ := k397.iastore (i := 1) X396 hx hZ e396 V396 rfl rfl (by decide) (Nat.le_of_ble_eq_true rfl) N396 G394 (hb hby at_191)
      have k398 : Go p e below m W T398 192 #[.val (.int p1), .val (.int p2), .val (.int p3), .val (.int p4), .val (.int p5), .val (.int (1 : Int32)), .val (.int (1 : Int32)), .val (.int r337), .val (.int r344), .val (.int r348), .val (.int u352_S0), .val (.int u358_S0), .val (.ref b363), .val (.ref b387), .unset, .unset, .unset, .unset, .unset, .unset, .unset, .unset, .unset] [(.ref b394)] := k398
      have Z398 : n0 ≤ h398.size := (Wr.size W398).symm ▸ Z396
      have V398 : Arv Z h398 b394 c394 .int (2 : Int32) [(.int u352_S0), (.int u358_S0)] (.int (0 : Int32)) := V398
      have k399 : Go p e below m W T398 194 #[.val (.int p1), .val (.int p2), .val (.int p3), .val (.int p4), .val (.int p5), .val (.int (1 : Int32)), .val (.int (1 : Int32)), .val (.int r337), .val (.int r344), .val (.int r348), .val (.int u352_S0), .val (.int u358_S0), .val (.ref b363), .val (.ref b387), .val (.ref b394), .unset, .unset, .unset, .unset, .unset, .unset, .unset, .unset] [] := k398.astore X398 hx (hb hby at_192) rfl rfl
      have k400 : Go p e below m W T398 202 #[.val (.int p1), .val (.int p2), .val (.int p3), .val (.int p4), .val (.int p5), .val (.int (1 : Int32)), .val (.int (1 : Int32)), .val (.int r337), .val (.int r344), .val (.int r348), .val (.int u352_S0), .val (.int u358_S0), .val (.ref b363), .val (.ref b387), .val (.ref b394), .unset, .unset, .unset, .unset, .unset, .unset, .unset, .unset] [(.ref b394), (.int r348), (.int p5), (.ref b387)] := (((k399.aload X398 hx (hb hby at_194) rfl rfl).iload X398 hx (hb hby at_196) rfl).iload X398 hx (hb hby at_198) rfl).aload X398 hx (hb hby at_200) rfl rfl
      have g_114 := (show b387 ≠ b394 from Nat.ne_of_lt (g394 ▸ q391_0.lt))
      have g_115 := ((q391_1.ext E394).other W396 (Or.inl g_114)).other W398 (Or.inl g_114)
      have g_116 := (show of_391 ≠ b394 from Nat.ne_of_lt (g394 ▸ q391_2.lt))
      have g_117 := ((q391_2.ext E394).other W396 g_116).other W398 g_116
      have g_118 := ((q391_0.ext E394).wr W396).wr W398
      obtain ⟨T401, v401, L401, X401, Q401, k401⟩ := k400.virt (y := (⟨"com/example/enact/enact/FeederAcceleration", "accelerate", "(II[I)Z"⟩ : MethodName)) (z := (⟨"com/example/enact/enact/FeederAcceleration", "accelerate", "(II[I)Z"⟩ : MethodName)) (Wd := 0) (cells' := 8) (slots' := 31) (argsL := [(.int p5), (.int r348), (.ref b394)]) (rest := []) X398 hx hZ hown (by rw [hml]; rfl) (hv 90 rfl) (hv 91 rfl) (notFace_of_selects (args := #[]) (mvT hZ (hv 93 rfl))) (hv 93 rfl) (hv 92 rfl) (hv 94 rfl) (hv 29 rfl) (hb hby at_202) (by decide) (rmac l Z a0 hw [] b387 p5 r348 b394 of_391 okf_391 c394 (own_e2 r337 (0 : Int32) r344 (1 : Int32) (0 : Int32)) (own_e2 r337 (0 : Int32) r344 (1 : Int32) (1 : Int32)) (own_e2 r337 (0 : Int32) r344 (1 : Int32) (2 : Int32)) (own_e2 r337 (0 : Int32) r344 (1 : Int32) (3 : Int32)) u352_S0 u358_S0 h398 n0 Z398 g_115 g_117 V398 G394 g_116 g_114 hs348 (own_3e2 (Or.inl rfl) (Or.inr rfl)) (own_3e2 (Or.inl rfl) (Or.inr rfl)) (own_3e2 (Or.inl rfl) (Or.inr rfl)) (own_3e2 (Or.inl rfl) (Or.inr rfl))) e398 g_118 rfl rfl pd_rm0_2 rfl (Nat.le_of_eq rfl) (by decide) (by decide) rfl rfl (by decide) (by decide)
      obtain ⟨ro_401, d0_401, d1_401, rfl, Nq401, Kq401, p401_0, q401_0⟩ := Q401
      have N401 := Fr.app N398 Nq401
      obtain ⟨h401, e401⟩ : ∃ h, T401.heap = h := ⟨_, rfl⟩
      rw [e401] at Kq401 q401_0
      have Z401 : n0 ≤ h401.size := Nat.le_trans Z398 Kq401.1
      have k401 : Go p e below m W T401 205 #[.val (.int p1), .val (.int p2), .val (.int p3), .val (.int p4), .val (.int p5), .val (.int (1 : Int32)), .val (.int (1 : Int32)), .val (.int r337), .val (.int r344), .val (.int r348), .val (.int u352_S0), .val (.int u358_S0), .val (.ref b363), .val (.ref b387), .val (.ref b394), .unset, .unset, .unset, .unset, .unset, .unset, .unset, .unset] [(.int ro_401)] := k401
      have k402 : Go p e below m W T401 207 #[.val (.int p1), .val (.int p2), .val (.int p3), .val (.int p4), .val (.int p5), .val (.int (1 : Int32)), .val (.int (1 : Int32)), .val (.int r337), .val (.int r344), .val (.int r348), .val (.int u352_S0), .val (.int u358_S0), .val (.ref b363), .val (.ref b387), .val (.ref b394), .val (.int ro_401), .unset, .unset, .unset, .unset, .unset, .unset, .unset] [] := k401.istore X401 hx (hb hby at_205) rfl
      have k403 : Go p e below m W T401 216 #[.val (.int p1), .val (.int p2), .val (.int p3), .val (.int p4), .val (.int p5), .val (.int (1 : Int32)), .val (.int (1 : Int32)), .val (.int r337), .val (.int r344), .val (.int r348), .val (.int u352_S0), .val (.int u358_S0), .val (.ref b363), .val (.ref b387), .val (.ref b394), .val (.int ro_401), .unset, .unset, .unset, .unset, .unset, .unset, .unset] [(.int r348), (.int r337)] := (((k402.iload X401 hx (hb hby at_207) rfl).ifNo X401 hx (hb hby at_209) (XT.i0_eq_f (by decide))).iload X401 hx (hb hby at_212) rfl).iload X401 hx (hb hby at_214) rfl
      by_cases hc216_404 : r337 = r348
      ·
        have k405 : Go p e below m W T401 240 #[.val (.int p1), .val (.int p2), .val (.int p3), .val (.int p4), .val (.int p5), .val (.int (1 : Int32)), .val (.int (1 : Int32)), .val (.int r337), .val (.int r344), .val (.int r348), .val (.int u352_S0), .val (.int u358_S0), .val (.ref b363), .val (.ref b387), .val (.ref b394), .val (.int ro_401), .unset, .unset, .unset, .unset, .unset, .unset, .unset] [(.int (0 : Int32))] := ((k403.icmpNo X401 hx (hb hby at_216) (XT.ii_ne_f hc216_404)).iconst X401 hx (hb hby at_219) (v := (0 : Int32)) rfl).goto X401 hx (hb hby at_220) (by decide) (by decide)
        have hz406 := own_acc0 p401_0 ((own_sel2 hs348).trans (own_p2a hc216_404 hs344.2))
        rcases hz406 with ⟨hs407, q408, q409, q410⟩ | ⟨hs411, q412, q413, q414⟩
        ·
          subst ro_401
          subst d0_401
          subst d1_401
          have k415 : Go p e below m W T401 242 #[.val (.int p1), .val (.int p2), .val (.int p3), .val (.int p4), .val (.int p5), .val (.int (1 : Int32)), .val (.int (1 : Int32)), .val (.int r337), .val (.int r344), .val (.int r348), .val (.int u352_S0), .val (.int u358_S0), .val (.ref b363), .val (.ref b387), .val (.ref b394), .val (.int (0 : Int32)), .val (.int (0 : Int32)), .unset, .unset, .unset, .unset, .unset, .unset] [] := k405.istore X401 hx (hb hby at_240) rfl
          have k416 : Go p e below m W T401 266 #[.val (.int p1), .val (.int p2), .val (.int p3), .val (.int p4), .val (.int p5), .val (.int (1 : Int32)), .val (.int (1 : Int32)), .val (.int r337), .val (.int r344), .val (.int r348), .val (.int u352_S0), .val (.int u358_S0), .val (.ref b363), .val (.ref b387), .val (.ref b394), .val (.int (0 : Int32)), .val (.int (0 : Int32)), .val (.int u352_S0), .unset, .unset, .unset, .unset, .unset] [] := ((((k415.iload X401 hx (hb hby at_242) rfl).ifNo X401 hx (hb hby at_244) (XT.i0_ne_f (by decide))).iload X401 hx (hb hby at_247) rfl).goto X401 hx (hb hby at_249) (by decide) (by decide)).istore X401 hx (hb hby at_264) rfl
          have k417 : Go p e below m W T401 285 #[.val (.int p1), .val (.int p2), .val (.int p3), .val (.int p4), .val (.int p5), .val (.int (1 : Int32)), .val (.int (1 : Int32)), .val (.int r337), .val (.int r344), .val (.int r348), .val (.int u352_S0), .val (.int u358_S0), .val (.ref b363), .val (.ref b387), .val (.ref b394), .val (.int (0 : Int32)), .val (.int (0 : Int32)), .val (.int u352_S0), .val (.int (0 : Int32)), .unset, .unset, .unset, .unset] [] := ((((((k416.iload X401 hx (hb hby at_266) rfl).ifNo X401 hx (hb hby at_268) (XT.i0_lt_f (by decide))).iload X401 hx (hb hby at_271) rfl).ldcI X401 hx hZ hown (hv 0 rfl) (hb hby at_273)).icmpYes X401 hx (hb hby at_275) (XT.ii_eq_t hs407) (by decide) (by decide)).iconst X401 hx (hb hby at_282) (v := (0 : Int32)) rfl).istore X401 hx (hb hby at_283) rfl
          have k418 : Go p e below m W T401 304 #[.val (.int p1), .val (.int p2), .val (.int p3), .val (.int p4), .val (.int p5), .val (.int (1 : Int32)), .val (.int (1 : Int32)), .val (.int r337), .val (.int r344), .val (.int r348), .val (.int u352_S0), .val (.int u358_S0), .val (.ref b363), .val (.ref b387), .val (.ref b394), .val (.int (0 : Int32)), .val (.int (0 : Int32)), .val (.int u352_S0), .val (.int (0 : Int32)), .val (.int u352_S0), .unset, .unset, .unset] [] := (((k417.iload X401 hx (hb hby at_285) rfl).ifYes X401 hx (hb hby at_287) (XT.i0_eq_t (by decide)) (by decide) (by decide)).iload X401 hx (hb hby at_300) rfl).istore X401 hx (hb hby at_302) rfl
          have k419 : Go p e below m W T401 324 #[.val (.int p1), .val (.int p2), .val (.int p3), .val (.int p4), .val (.int p5), .val (.int (1 : Int32)), .val (.int (1 : Int32)), .val (.int r337), .val (.int r344), .val (.int r348), .val (.int u352_S0), .val (.int u358_S0), .val (.ref b363), .val (.ref b387), .val (.ref b394), .val (.int (0 : Int32)), .val (.int (0 : Int32)), .val (.int u352_S0), .val (.int (0 : Int32)), .val (.int u352_S0), .val (.int u358_S0), .unset, .unset] [] := (((k418.iload X401 hx (hb hby at_304) rfl).ifYes X401 hx (hb hby at_306) (XT.i0_eq_t (by decide)) (by decide) (by decide)).iload X401 hx (hb hby at_320) rfl).istore X401 hx (hb hby at_322) rfl
          have k420 : Go p e below m W T401 334 #[.val (.int p1), .val (.int p2), .val (.int p3), .val (.int p4), .val (.int p5), .val (.int (1 : Int32)), .val (.int (1 : Int32)), .val (.int r337), .val (.int r344), .val (.int r348), .val (.int u352_S0), .val (.int u358_S0), .val (.ref b363), .val (.ref b387), .val (.ref b394), .val (.int (0 : Int32)), .val (.int (0 : Int32)), .val (.int u352_S0), .val (.int (0 : Int32)), .val (.int u352_S0), .val (.int u358_S0), .unset, .unset] [(.int (0 : Int32)), (.ref b394)] := ((((k419.iload X401 hx (hb hby at_324) rfl).iload X401 hx (hb hby at_326) rfl).icmpNo X401 hx (hb hby at_328) (XT.ii_ne_f (by decide))).aload X401 hx (hb hby at_331) rfl rfl).iconst X401 hx (hb hby at_333) (v := (0 : Int32)) rfl
          have k421 : Go p e below m W T401 343 #[.val (.int p1), .val (.int p2), .val (.int p3), .val (.int p4), .val (.int p5), .val (.int (1 : Int32)), .val (.int (1 : Int32)), .val (.int r337), .val (.int r344), .val (.int r348), .val (.int u352_S0), .val (.int u358_S0), .val (.ref b363), .val (.ref b387), .val (.ref b394), .val (.int (0 : Int32)), .val (.int (0 : Int32)), .val (.int u352_S0), .val (.int (0 : Int32)), .val (.int u352_S0), .val (.int u358_S0), .unset, .unset] [(.int (1 : Int32)), (.ref b394)] := ((((k420.iaload (i := 0) (n := 2) X401 hx hZ e401 q401_0 rfl rfl (by decide) (by decide) rfl (hb hby at_334)).iload X401 hx (hb hby at_335) rfl).icmpNo X401 hx (hb hby at_337) (XT.ii_ne_f rfl)).aload X401 hx (hb hby at_340) rfl rfl).iconst X401 hx (hb hby at_342) (v := (1 : Int32)) rfl
          have k422 : Go p e below m W T401 356 #[.val (.int p1), .val (.int p2), .val (.int p3), .val (.int p4), .val (.int p5), .val (.int (1 : Int32)), .val (.int (1 : Int32)), .val (.int r337), .val (.int r344), .val (.int r348), .val (.int u352_S0), .val (.int u358_S0), .val (.ref b363), .val (.ref b387), .val (.ref b394), .val (.int (0 : Int32)), .val (.int (0 : Int32)), .val (.int u352_S0), .val (.int (0 : Int32)), .val (.int u352_S0), .val (.int u358_S0), .val (.int (1 : Int32)), .unset] [] := (((((k421.iaload (i := 1) (n := 2) X401 hx hZ e401 q401_0 rfl rfl (by decide) (by decide) rfl (hb hby at_343)).iload X401 hx (hb hby at_344) rfl).icmpNo X401 hx (hb hby at_346) (XT.ii_ne_f rfl)).iconst X401 hx (hb hby at_349) (v := (1 : Int32)) rfl).goto X401 hx (hb hby at_350) (by decide) (by decide)).istore X401 hx (hb hby at_354) rfl
          have k423 : Go p e below m W T401 364 #[.val (.int p1), .val (.int p2), .val (.int p3), .val (.int p4), .val (.int p5), .val (.int (1 : Int32)), .val (.int (1 : Int32)), .val (.int r337), .val (.int r344), .val (.int r348), .val (.int u352_S0), .val (.int u358_S0), .val (.ref b363), .val (.ref b387), .val (.ref b394), .val (.int (0 : Int32)), .val (.int (0 : Int32)), .val (.int u352_S0), .val (.int (0 : Int32)), .val (.int u352_S0), .val (.int u358_S0), .val (.int (1 : Int32)), .unset] [(.ref b394), (.int r348), (.int p5), (.ref b387)] := (((k422.aload X401 hx (hb hby at_356) rfl rfl).iload X401 hx (hb hby at_358) rfl).iload X401 hx (hb hby at_360) rfl).aload X401 hx (hb hby at_362) rfl rfl
          have g_119 := g_115.keep Kq401 (by simp only [List.mem_cons, List.not_mem_nil, or_false, not_or]; exact g_114)
          have g_120 := g_117.keep Kq401 (by simp only [List.mem_cons, List.not_mem_nil, or_false, not_or]; exact g_116)
          have g_121 := g_118.keep Kq401
          obtain ⟨T424, v424, L424, X424, Q424, k424⟩ := k423.virt (y := (⟨"com/example/enact/enact/FeederAcceleration", "accelerate", "(II[I)Z"⟩ : MethodName)) (z := (⟨"com/example/enact/enact/FeederAcceleration", "accelerate", "(II[I)Z"⟩ : MethodName)) (Wd := 0) (cells' := 8) (slots' := 31) (argsL := [(.int p5), (.int r348), (.ref b394)]) (rest := []) X401 hx hZ hown (by rw [hml]; rfl) (hv 90 rfl) (hv 91 rfl) (notFace_of_selects (args := #[]) (mvT hZ (hv 93 rfl))) (hv 93 rfl) (hv 92 rfl) (hv 94 rfl) (hv 29 rfl) (hb hby at_364) (by decide) (rmac l Z a0 hw [] b387 p5 r348 b394 of_391 okf_391 c394 (own_e2 r337 (0 : Int32) r344 (1 : Int32) (0 : Int32)) (own_e2 r337 (0 : Int32) r344 (1 : Int32) (1 : Int32)) (own_e2 r337 (0 : Int32) r344 (1 : Int32) (2 : Int32)) (own_e2 r337 (0 : Int32) r344 (1 : Int32) (3 : Int32)) u352_S0 u358_S0 h401 n0 Z401 g_119 g_120 q401_0 G394 g_116 g_114 hs348 (own_3e2 (Or.inl rfl) (Or.inr rfl)) (own_3e2 (Or.inl rfl) (Or.inr rfl)) (own_3e2 (Or.inl rfl) (Or.inr rfl)) (own_3e2 (Or.inl rfl) (Or.inr rfl))) e401 g_121 rfl rfl pd_rm0_2 rfl (Nat.le_of_eq rfl) (by decide) (by decide) rfl rfl (by decide) (by decide)
          obtain ⟨ro_424, d0_424, d1_424, rfl, Nq424, Kq424, p424_0, q424_0⟩ := Q424
          have N424 := Fr.app N401 Nq424
          obtain ⟨h424, e424⟩ : ∃ h, T424.heap = h := ⟨_, rfl⟩
          rw [e424] at Kq424 q424_0
          have Z424 : n0 ≤ h424.size := Nat.le_trans Z401 Kq424.1
          have k424 : Go p e below m W T424 367 #[.val (.int p1), .val (.int p2), .val (.int p3), .val (.int p4), .val (.int p5), .val (.int (1 : Int32)), .val (.int (1 : Int32)), .val (.int r337), .val (.int r344), .val (.int r348), .val (.int u352_S0), .val (.int u358_S0), .val (.ref b363), .val (.ref b387), .val (.ref b394), .val (.int (0 : Int32)), .val (.int (0 : Int32)), .val (.int u352_S0), .val (.int (0 : Int32)), .val (.int u352_S0), .val (.int u358_S0), .val (.int (1 : Int32)), .unset] [(.int ro_424)] := k424
          obtain ⟨ha425, hb425, hc425⟩ := own_acc0' p424_0 ((own_sel2 hs348).trans (own_p2a hc216_404 hs344.2)) hs407
          subst ro_424
          subst d0_424
          subst d1_424
          have k426 : Go p e below m W T424 369 #[.val (.int p1), .val (.int p2), .val (.int p3), .val (.int p4), .val (.int p5), .val (.int (1 : Int32)), .val (.int (1 : Int32)), .val (.int r337), .val (.int r344), .val (.int r348), .val (.int u352_S0), .val (.int u358_S0), .val (.ref b363), .val (.ref b387), .val (.ref b394), .val (.int (0 : Int32)), .val (.int (0 : Int32)), .val (.int u352_S0), .val (.int (0 : Int32)), .val (.int u352_S0), .val (.int u358_S0), .val (.int (1 : Int32)), .val (.int (0 : Int32))] [] := k424.istore X424 hx (hb hby at_367) rfl
          have k427 : Go p e below m W T424 382 #[.val (.int p1), .val (.int p2), .val (.int p3), .val (.int p4), .val (.int p5), .val (.int (1 : Int32)), .val (.int (1 : Int32)), .val (.int r337), .val (.int r344), .val (.int r348), .val (.int u352_S0), .val (.int u358_S0), .val (.ref b363), .val (.ref b387), .val (.ref b394), .val (.int (0 : Int32)), .val (.int (0 : Int32)), .val (.int u352_S0), .val (.int (0 : Int32)), .val (.int u352_S0), .val (.int u358_S0), .val (.int (1 : Int32)), .val (.int (0 : Int32))] [(.int (0 : Int32)), (.ref b394)] := (((((k426.iload X424 hx (hb hby at_369) rfl).ifNo X424 hx (hb hby at_371) (XT.i0_eq_f (by decide))).iload X424 hx (hb hby at_374) rfl).ifNo X424 hx (hb hby at_376) (XT.i0_ne_f (by decide))).aload X424 hx (hb hby at_379) rfl rfl).iconst X424 hx (hb hby at_381) (v := (0 : Int32)) rfl
          have k428 : Go p e below m W T424 391 #[.val (.int p1), .val (.int p2), .val (.int p3), .val (.int p4), .val (.int p5), .val (.int (1 : Int32)), .val (.int (1 : Int32)), .val (.int r337), .val (.int r344), .val (.int r348), .val (.int u352_S0), .val (.int u358_S0), .val (.ref b363), .val (.ref b387), .val (.ref b394), .val (.int (0 : Int32)), .val (.int (0 : Int32)), .val (.int u352_S0), .val (.int (0 : Int32)), .val (.int u352_S0), .val (.int u358_S0), .val (.int (1 : Int32)), .val (.int (0 : Int32))] [(.int (1 : Int32)), (.ref b394)] := ((((k427.iaload (i := 0) (n := 2) X424 hx hZ e424 q424_0 rfl rfl (by decide) (by decide) rfl (hb hby at_382)).iload X424 hx (hb hby at_383) rfl).icmpNo X424 hx (hb hby at_385) (XT.ii_ne_f rfl)).aload X424 hx (hb hby at_388) rfl rfl).iconst X424 hx (hb hby at_390) (v := (1 : Int32)) rfl
          have k429 : Go p e below m W T424 402 #[.val (.int p1), .val (.int p2), .val (.int p3), .val (.int p4), .val (.int p5), .val (.int (1 : Int32)), .val (.int (1 : Int32)), .val (.int r337), .val (.int r344), .val (.int r348), .val (.int u352_S0), .val (.int u358_S0), .val (.ref b363), .val (.ref b387), .val (.ref b394), .val (.int (0 : Int32)), .val (.int (0 : Int32)), .val (.int u352_S0), .val (.int (0 : Int32)), .val (.int u352_S0), .val (.int u358_S0), .val (.int (1 : Int32)), .val (.int (0 : Int32))] [(.int (1 : Int32))] := ((((k428.iaload (i := 1) (n := 2) X424 hx hZ e424 q424_0 rfl rfl (by decide) (by decide) rfl (hb hby at_391)).iload X424 hx (hb hby at_392) rfl).icmpNo X424 hx (hb hby at_394) (XT.ii_ne_f rfl)).iconst X424 hx (hb hby at_397) (v := (1 : Int32)) rfl).goto X424 hx (hb hby at_398) (by decide) (by decide)
          exact k429.ireturnN X424 hx (t := .boolean) Bd.returns (by simp) rfl (hb hby at_402) (BodyLoose.notSynchronized Bd) (by rw [e424]; exact ⟨rfl, N424⟩) (by decide) (by decide)
        ·
          subst ro_401
          subst d0_401
          subst d1_401
          have k430 : Go p e below m W T401 242 #[.val (.int p1), .val (.int p2), .val (.int p3), .val (.int p4), .val (.int p5), .val (.int (1 : Int32)), .val (.int (1 : Int32)), .val (.int r337), .val (.int r344), .val (.int r348), .val (.int u352_S0), .val (.int u358_S0), .val (.ref b363), .val (.ref b387), .val (.ref b394), .val (.int (1 : Int32)), .val (.int (0 : Int32)), .unset, .unset, .unset, .unset, .unset, .unset] [] := k405.istore X401 hx (hb hby at_240) rfl
          have k431 : Go p e below m W T401 266 #[.val (.int p1), .val (.int p2), .val (.int p3), .val (.int p4), .val (.int p5), .val (.int (1 : Int32)), .val (.int (1 : Int32)), .val (.int r337), .val (.int r344), .val (.int r348), .val (.int u352_S0), .val (.int u358_S0), .val (.ref b363), .val (.ref b387), .val (.ref b394), .val (.int (1 : Int32)), .val (.int (0 : Int32)), .val (.int u352_S0), .unset, .unset, .unset, .unset, .unset] [] := ((((k430.iload X401 hx (hb hby at_242) rfl).ifNo X401 hx (hb hby at_244) (XT.i0_ne_f (by decide))).iload X401 hx (hb hby at_247) rfl).goto X401 hx (hb hby at_249) (by decide) (by decide)).istore X401 hx (hb hby at_264) rfl
          have k432 : Go p e below m W T401 285 #[.val (.int p1), .val (.int p2), .val (.int p3), .val (.int p4), .val (.int p5), .val (.int (1 : Int32)), .val (.int (1 : Int32)), .val (.int r337), .val (.int r344), .val (.int r348), .val (.int u352_S0), .val (.int u358_S0), .val (.ref b363), .val (.ref b387), .val (.ref b394), .val (.int (1 : Int32)), .val (.int (0 : Int32)), .val (.int u352_S0), .val (.int (1 : Int32)), .unset, .unset, .unset, .unset] [] := (((((((k431.iload X401 hx (hb hby at_266) rfl).ifNo X401 hx (hb hby at_268) (XT.i0_lt_f (by decide))).iload X401 hx (hb hby at_271) rfl).ldcI X401 hx hZ hown (hv 0 rfl) (hb hby at_273)).icmpNo X401 hx (hb hby at_275) (XT.ii_eq_f hs411)).iconst X401 hx (hb hby at_278) (v := (1 : Int32)) rfl).goto X401 hx (hb hby at_279) (by decide) (by decide)).istore X401 hx (hb hby at_283) rfl
          have k433 : Go p e below m W T401 304 #[.val (.int p1), .val (.int p2), .val (.int p3), .val (.int p4), .val (.int p5), .val (.int (1 : Int32)), .val (.int (1 : Int32)), .val (.int r337), .val (.int r344), .val (.int r348), .val (.int u352_S0), .val (.int u358_S0), .val (.ref b363), .val (.ref b387), .val (.ref b394), .val (.int (1 : Int32)), .val (.int (0 : Int32)), .val (.int u352_S0), .val (.int (1 : Int32)), .val (.int (2147483647 : Int32)), .unset, .unset, .unset] [] := ((((((k432.iload X401 hx (hb hby at_285) rfl).ifNo X401 hx (hb hby at_287) (XT.i0_eq_f (by decide))).iload X401 hx (hb hby at_290) rfl).ifNo X401 hx (hb hby at_292) (XT.i0_ne_f (by decide))).ldcI X401 hx hZ hown (hv 0 rfl) (hb hby at_295)).goto X401 hx (hb hby at_297) (by decide) (by decide)).istore X401 hx (hb hby at_302) rfl
          have k434 : Go p e below m W T401 324 #[.val (.int p1), .val (.int p2), .val (.int p3), .val (.int p4), .val (.int p5), .val (.int (1 : Int32)), .val (.int (1 : Int32)), .val (.int r337), .val (.int r344), .val (.int r348), .val (.int u352_S0), .val (.int u358_S0), .val (.ref b363), .val (.ref b387), .val (.ref b394), .val (.int (1 : Int32)), .val (.int (0 : Int32)), .val (.int u352_S0), .val (.int (1 : Int32)), .val (.int (2147483647 : Int32)), .val (.int u358_S0), .unset, .unset] [] := ((((((k433.iload X401 hx (hb hby at_304) rfl).ifNo X401 hx (hb hby at_306) (XT.i0_eq_f (by decide))).iload X401 hx (hb hby at_309) rfl).iconst X401 hx (hb hby at_311) (v := (1 : Int32)) rfl).icmpYes X401 hx (hb hby at_312) (XT.ii_ne_t (by decide)) (by decide) (by decide)).iload X401 hx (hb hby at_320) rfl).istore X401 hx (hb hby at_322) rfl
          have k435 : Go p e below m W T401 334 #[.val (.int p1), .val (.int p2), .val (.int p3), .val (.int p4), .val (.int p5), .val (.int (1 : Int32)), .val (.int (1 : Int32)), .val (.int r337), .val (.int r344), .val (.int r348), .val (.int u352_S0), .val (.int u358_S0), .val (.ref b363), .val (.ref b387), .val (.ref b394), .val (.int (1 : Int32)), .val (.int (0 : Int32)), .val (.int u352_S0), .val (.int (1 : Int32)), .val (.int (2147483647 : Int32)), .val (.int u358_S0), .unset, .unset] [(.int (0 : Int32)), (.ref b394)] := ((((k434.iload X401 hx (hb hby at_324) rfl).iload X401 hx (hb hby at_326) rfl).icmpNo X401 hx (hb hby at_328) (XT.ii_ne_f (by decide))).aload X401 hx (hb hby at_331) rfl rfl).iconst X401 hx (hb hby at_333) (v := (0 : Int32)) rfl
          have k436 : Go p e below m W T401 343 #[.val (.int p1), .val (.int p2), .val (.int p3), .val (.int p4), .val (.int p5), .val (.int (1 : Int32)), .val (.int (1 : Int32)), .val (.int r337), .val (.int r344), .val (.int r348), .val (.int u352_S0), .val (.int u358_S0), .val (.ref b363), .val (.ref b387), .val (.ref b394), .val (.int (1 : Int32)), .val (.int (0 : Int32)), .val (.int u352_S0), .val (.int (1 : Int32)), .val (.int (2147483647 : Int32)), .val (.int u358_S0), .unset, .unset] [(.int (1 : Int32)), (.ref b394)] := ((((k435.iaload (i := 0) (n := 2) X401 hx hZ e401 q401_0 rfl rfl (by decide) (by decide) rfl (hb hby at_334)).iload X401 hx (hb hby at_335) rfl).icmpNo X401 hx (hb hby at_337) (XT.ii_ne_f (by decide))).aload X401 hx (hb hby at_340) rfl rfl).iconst X401 hx (hb hby at_342) (v := (1 : Int32)) rfl
          have k437 : Go p e below m W T401 356 #[.val (.int p1), .val (.int p2), .val (.int p3), .val (.int p4), .val (.int p5), .val (.int (1 : Int32)), .val (.int (1 : Int32)), .val (.int r337), .val (.int r344), .val (.int r348), .val (.int u352_S0), .val (.int u358_S0), .val (.ref b363), .val (.ref b387), .val (.ref b394), .val (.int (1 : Int32)), .val (.int (0 : Int32)), .val (.int u352_S0), .val (.int (1 : Int32)), .val (.int (2147483647 : Int32)), .val (.int u358_S0), .val (.int (1 : Int32)), .unset] [] := (((((k436.iaload (i := 1) (n := 2) X401 hx hZ e401 q401_0 rfl rfl (by decide) (by decide) rfl (hb hby at_343)).iload X401 hx (hb hby at_344) rfl).icmpNo X401 hx (hb hby at_346) (XT.ii_ne_f rfl)).iconst X401 hx (hb hby at_349) (v := (1 : Int32)) rfl).goto X401 hx (hb hby at_350) (by decide) (by decide)).istore X401 hx (hb hby at_354) rfl
          have k438 : Go p e below m W T401 364 #[.val (.int p1), .val (.int p2), .val (.int p3), .val (.int p4), .val (.int p5), .val (.int (1 : Int32)), .val (.int (1 : Int32)), .val (.int r337), .val (.int r344), .val (.int r348), .val (.int u352_S0), .val (.int u358_S0), .val (.ref b363), .val (.ref b387), .val (.ref b394), .val (.int (1 : Int32)), .val (.int (0 : Int32)), .val (.int u352_S0), .val (.int (1 : Int32)), .val (.int (2147483647 : Int32)), .val (.int u358_S0), .val (.int (1 : Int32)), .unset] [(.ref b394), (.int r348), (.int p5), (.ref b387)] := (((k437.aload X401 hx (hb hby at_356) rfl rfl).iload X401 hx (hb hby at_358) rfl).iload X401 hx (hb hby at_360) rfl).aload X401 hx (hb hby at_362) rfl rfl
          have g_122 := g_115.keep Kq401 (by simp only [List.mem_cons, List.not_mem_nil, or_false, not_or]; exact g_114)
          have g_123 := g_117.keep Kq401 (by simp only [List.mem_cons, List.not_mem_nil, or_false, not_or]; exact g_116)
          have g_124 := g_118.keep Kq401
          obtain ⟨T439, v439, L439, X439, Q439, k439⟩ := k438.virt (y := (⟨"com/example/enact/enact/FeederAcceleration", "accelerate", "(II[I)Z"⟩ : MethodName)) (z := (⟨"com/example/enact/enact/FeederAcceleration", "accelerate", "(II[I)Z"⟩ : MethodName)) (Wd := 0) (cells' := 8) (slots' := 31) (argsL := [(.int p5), (.int r348), (.ref b394)]) (rest := []) X401 hx hZ hown (by rw [hml]; rfl) (hv 90 rfl) (hv 91 rfl) (notFace_of_selects (args := #[]) (mvT hZ (hv 93 rfl))) (hv 93 rfl) (hv 92 rfl) (hv 94 rfl) (hv 29 rfl) (hb hby at_364) (by decide) (rmac l Z a0 hw [] b387 p5 r348 b394 of_391 okf_391 c394 (own_e2 r337 (0 : Int32) r344 (1 : Int32) (0 : Int32)) (own_e2 r337 (0 : Int32) r344 (1 : Int32) (1 : Int32)) (own_e2 r337 (0 : Int32) r344 (1 : Int32) (2 : Int32)) (own_e2 r337 (0 : Int32) r344 (1 : Int32) (3 : Int32)) (2147483647 : Int32) u358_S0 h401 n0 Z401 g_122 g_123 q401_0 G394 g_116 g_114 hs348 (own_3e2 (Or.inl rfl) (Or.inr rfl)) (own_3e2 (Or.inl rfl) (Or.inr rfl)) (own_3e2 (Or.inl rfl) (Or.inr rfl)) (own_3e2 (Or.inl rfl) (Or.inr rfl))) e401 g_124 rfl rfl pd_rm0_2 rfl (Nat.le_of_eq rfl) (by decide) (by decide) rfl rfl (by decide) (by decide)
          obtain ⟨ro_439, d0_439, d1_439, rfl, Nq439, Kq439, p439_0, q439_0⟩ := Q439
          have N439 := Fr.app N401 Nq439
          obtain ⟨h439, e439⟩ : ∃ h, T439.heap = h := ⟨_, rfl⟩
          rw [e439] at Kq439 q439_0
          have Z439 : n0 ≤ h439.size := Nat.le_trans Z401 Kq439.1
          have k439 : Go p e below m W T439 367 #[.val (.int p1), .val (.int p2), .val (.int p3), .val (.int p4), .val (.int p5), .val (.int (1 : Int32)), .val (.int (1 : Int32)), .val (.int r337), .val (.int r344), .val (.int r348), .val (.int u352_S0), .val (.int u358_S0), .val (.ref b363), .val (.ref b387), .val (.ref b394), .val (.int (1 : Int32)), .val (.int (0 : Int32)), .val (.int u352_S0), .val (.int (1 : Int32)), .val (.int (2147483647 : Int32)), .val (.int u358_S0), .val (.int (1 : Int32)), .unset] [(.int ro_439)] := k439
          obtain ⟨ha440, hb440, hc440⟩ := own_acc0' p439_0 ((own_sel2 hs348).trans (own_p2a hc216_404 hs344.2)) rfl
          subst ro_439
          subst d0_439
          subst d1_439
          have k441 : Go p e below m W T439 369 #[.val (.int p1), .val (.int p2), .val (.int p3), .val (.int p4), .val (.int p5), .val (.int (1 : Int32)), .val (.int (1 : Int32)), .val (.int r337), .val (.int r344), .val (.int r348), .val (.int u352_S0), .val (.int u358_S0), .val (.ref b363), .val (.ref b387), .val (.ref b394), .val (.int (1 : Int32)), .val (.int (0 : Int32)), .val (.int u352_S0), .val (.int (1 : Int32)), .val (.int (2147483647 : Int32)), .val (.int u358_S0), .val (.int (1 : Int32)), .val (.int (0 : Int32))] [] := k439.istore X439 hx (hb hby at_367) rfl
          have k442 : Go p e below m W T439 382 #[.val (.int p1), .val (.int p2), .val (.int p3), .val (.int p4), .val (.int p5), .val (.int (1 : Int32)), .val (.int (1 : Int32)), .val (.int r337), .val (.int r344), .val (.int r348), .val (.int u352_S0), .val (.int u358_S0), .val (.ref b363), .val (.ref b387), .val (.ref b394), .val (.int (1 : Int32)), .val (.int (0 : Int32)), .val (.int u352_S0), .val (.int (1 : Int32)), .val (.int (2147483647 : Int32)), .val (.int u358_S0), .val (.int (1 : Int32)), .val (.int (0 : Int32))] [(.int (0 : Int32)), (.ref b394)] := (((((k441.iload X439 hx (hb hby at_369) rfl).ifNo X439 hx (hb hby at_371) (XT.i0_eq_f (by decide))).iload X439 hx (hb hby at_374) rfl).ifNo X439 hx (hb hby at_376) (XT.i0_ne_f (by decide))).aload X439 hx (hb hby at_379) rfl rfl).iconst X439 hx (hb hby at_381) (v := (0 : Int32)) rfl
          have k443 : Go p e below m W T439 391 #[.val (.int p1), .val (.int p2), .val (.int p3), .val (.int p4), .val (.int p5), .val (.int (1 : Int32)), .val (.int (1 : Int32)), .val (.int r337), .val (.int r344), .val (.int r348), .val (.int u352_S0), .val (.int u358_S0), .val (.ref b363), .val (.ref b387), .val (.ref b394), .val (.int (1 : Int32)), .val (.int (0 : Int32)), .val (.int u352_S0), .val (.int (1 : Int32)), .val (.int (2147483647 : Int32)), .val (.int u358_S0), .val (.int (1 : Int32)), .val (.int (0 : Int32))] [(.int (1 : Int32)), (.ref b394)] := ((((k442.iaload (i := 0) (n := 2) X439 hx hZ e439 q439_0 rfl rfl (by decide) (by decide) rfl (hb hby at_382)).iload X439 hx (hb hby at_383) rfl).icmpNo X439 hx (hb hby at_385) (XT.ii_ne_f (by decide))).aload X439 hx (hb hby at_388) rfl rfl).iconst X439 hx (hb hby at_390) (v := (1 : Int32)) rfl
          have k444 : Go p e below m W T439 402 #[.val (.int p1), .val (.int p2), .val (.int p3), .val (.int p4), .val (.int p5), .val (.int (1 : Int32)), .val (.int (1 : Int32)), .val (.int r337), .val (.int r344), .val (.int r348), .val (.int u352_S0), .val (.int u358_S0), .val (.ref b363), .val (.ref b387), .val (.ref b394), .val (.int (1 : Int32)), .val (.int (0 : Int32)), .val (.int u352_S0), .val (.int (1 : Int32)), .val (.int (2147483647 : Int32)), .val (.int u358_S0), .val (.int (1 : Int32)), .val (.int (0 : Int32))] [(.int (1 : Int32))] := ((((k443.iaload (i := 1) (n := 2) X439 hx hZ e439 q439_0 rfl rfl (by decide) (by decide) rfl (hb hby at_391)).iload X439 hx (hb hby at_392) rfl).icmpNo X439 hx (hb hby at_394) (XT.ii_ne_f rfl)).iconst X439 hx (hb hby at_397) (v := (1 : Int32)) rfl).goto X439 hx (hb hby at_398) (by decide) (by decide)
          exact k444.ireturnN X439 hx (t := .boolean) Bd.returns (by simp) rfl (hb hby at_402) (BodyLoose.notSynchronized Bd) (by rw [e439]; exact ⟨rfl, N439⟩) (by decide) (by decide)
      ·
        have k445 : Go p e below m W T401 232 #[.val (.int p1), .val (.int p2), .val (.int p3), .val (.int p4), .val (.int p5), .val (.int (1 : Int32)), .val (.int (1 : Int32)), .val (.int r337), .val (.int r344), .val (.int r348), .val (.int u352_S0), .val (.int u358_S0), .val (.ref b363), .val (.ref b387), .val (.ref b394), .val (.int ro_401), .unset, .unset, .unset, .unset, .unset, .unset, .unset] [(.int r348), (.int r344)] := ((((k403.icmpYes X401 hx (hb hby at_216) (XT.ii_ne_t hc216_404) (by decide) (by decide)).iload X401 hx (hb hby at_223) rfl).ifNo X401 hx (hb hby at_225) (XT.i0_eq_f (by decide))).iload X401 hx (hb hby at_228) rfl).iload X401 hx (hb hby at_230) rfl
        by_cases hc232_446 : r344 = r348
        ·
          have k447 : Go p e below m W T401 240 #[.val (.int p1), .val (.int p2), .val (.int p3), .val (.int p4), .val (.int p5), .val (.int (1 : Int32)), .val (.int (1 : Int32)), .val (.int r337), .val (.int r344), .val (.int r348), .val (.int u352_S0), .val (.int u358_S0), .val (.ref b363), .val (.ref b387), .val (.ref b394), .val (.int ro_401), .unset, .unset, .unset, .unset, .unset, .unset, .unset] [(.int (1 : Int32))] := ((k445.icmpNo X401 hx (hb hby at_232) (XT.ii_ne_f hc232_446)).iconst X401 hx (hb hby at_235) (v := (1 : Int32)) rfl).goto X401 hx (hb hby at_236) (by decide) (by decide)
          have hz448 := own_acc1 p401_0 ((own_sel2 hs348).trans (own_p2b hc232_446))
          rcases hz448 with ⟨hs449, q450, q451, q452⟩ | ⟨hs453, q454, q455, q456⟩
          ·
            subst ro_401
            subst d0_401
            subst d1_401
            have k457 : Go p e below m W T401 242 #[.val (.int p1), .val (.int p2), .val (.int p3), .val (.int p4), .val (.int p5), .val (.int (1 : Int32)), .val (.int (1 : Int32)), .val (.int r337), .val (.int r344), .val (.int r348), .val (.int u352_S0), .val (.int u358_S0), .val (.ref b363), .val (.ref b387), .val (.ref b394), .val (.int (0 : Int32)), .val (.int (1 : Int32)), .unset, .unset, .unset, .unset, .unset, .unset] [] := k447.istore X401 hx (hb hby at_240) rfl
            have k458 : Go p e below m W T401 266 #[.val (.int p1), .val (.int p2), .val (.int p3), .val (.int p4), .val (.int p5), .val (.int (1 : Int32)), .val (.int (1 : Int32)), .val (.int r337), .val (.int r344), .val (.int r348), .val (.int u352_S0), .val (.int u358_S0), .val (.ref b363), .val (.ref b387), .val (.ref b394), .val (.int (0 : Int32)), .val (.int (1 : Int32)), .val (.int u358_S0), .unset, .unset, .unset, .unset, .unset] [] := (((((((k457.iload X401 hx (hb hby at_242) rfl).ifYes X401 hx (hb hby at_244) (XT.i0_ne_t (by decide)) (by decide) (by decide)).iload X401 hx (hb hby at_252) rfl).iconst X401 hx (hb hby at_254) (v := (1 : Int32)) rfl).icmpNo X401 hx (hb hby at_255) (XT.ii_ne_f (by decide))).iload X401 hx (hb hby at_258) rfl).goto X401 hx (hb hby at_260) (by decide) (by decide)).istore X401 hx (hb hby at_264) rfl
            have k459 : Go p e below m W T401 285 #[.val (.int p1), .val (.int p2), .val (.int p3), .val (.int p4), .val (.int p5), .val (.int (1 : Int32)), .val (.int (1 : Int32)), .val (.int r337), .val (.int r344), .val (.int r348), .val (.int u352_S0), .val (.int u358_S0), .val (.ref b363), .val (.ref b387), .val (.ref b394), .val (.int (0 : Int32)), .val (.int (1 : Int32)), .val (.int u358_S0), .val (.int (0 : Int32)), .unset, .unset, .unset, .unset] [] := ((((((k458.iload X401 hx (hb hby at_266) rfl).ifNo X401 hx (hb hby at_268) (XT.i0_lt_f (by decide))).iload X401 hx (hb hby at_271) rfl).ldcI X401 hx hZ hown (hv 0 rfl) (hb hby at_273)).icmpYes X401 hx (hb hby at_275) (XT.ii_eq_t hs449) (by decide) (by decide)).iconst X401 hx (hb hby at_282) (v := (0 : Int32)) rfl).istore X401 hx (hb hby at_283) rfl
            have k460 : Go p e below m W T401 304 #[.val (.int p1), .val (.int p2), .val (.int p3), .val (.int p4), .val (.int p5), .val (.int (1 : Int32)), .val (.int (1 : Int32)), .val (.int r337), .val (.int r344), .val (.int r348), .val (.int u352_S0), .val (.int u358_S0), .val (.ref b363), .val (.ref b387), .val (.ref b394), .val (.int (0 : Int32)), .val (.int (1 : Int32)), .val (.int u358_S0), .val (.int (0 : Int32)), .val (.int u352_S0), .unset, .unset, .unset] [] := (((k459.iload X401 hx (hb hby at_285) rfl).ifYes X401 hx (hb hby at_287) (XT.i0_eq_t (by decide)) (by decide) (by decide)).iload X401 hx (hb hby at_300) rfl).istore X401 hx (hb hby at_302) rfl
            have k461 : Go p e below m W T401 324 #[.val (.int p1), .val (.int p2), .val (.int p3), .val (.int p4), .val (.int p5), .val (.int (1 : Int32)), .val (.int (1 : Int32)), .val (.int r337), .val (.int r344), .val (.int r348), .val (.int u352_S0), .val (.int u358_S0), .val (.ref b363), .val (.ref b387), .val (.ref b394), .val (.int (0 : Int32)), .val (.int (1 : Int32)), .val (.int u358_S0), .val (.int (0 : Int32)), .val (.int u352_S0), .val (.int u358_S0), .unset, .unset] [] := (((k460.iload X401 hx (hb hby at_304) rfl).ifYes X401 hx (hb hby at_306) (XT.i0_eq_t (by decide)) (by decide) (by decide)).iload X401 hx (hb hby at_320) rfl).istore X401 hx (hb hby at_322) rfl
            have k462 : Go p e below m W T401 334 #[.val (.int p1), .val (.int p2), .val (.int p3), .val (.int p4), .val (.int p5), .val (.int (1 : Int32)), .val (.int (1 : Int32)), .val (.int r337), .val (.int r344), .val (.int r348), .val (.int u352_S0), .val (.int u358_S0), .val (.ref b363), .val (.ref b387), .val (.ref b394), .val (.int (0 : Int32)), .val (.int (1 : Int32)), .val (.int u358_S0), .val (.int (0 : Int32)), .val (.int u352_S0), .val (.int u358_S0), .unset, .unset] [(.int (0 : Int32)), (.ref b394)] := ((((k461.iload X401 hx (hb hby at_324) rfl).iload X401 hx (hb hby at_326) rfl).icmpNo X401 hx (hb hby at_328) (XT.ii_ne_f (by decide))).aload X401 hx (hb hby at_331) rfl rfl).iconst X401 hx (hb hby at_333) (v := (0 : Int32)) rfl
            have k463 : Go p e below m W T401 343 #[.val (.int p1), .val (.int p2), .val (.int p3), .val (.int p4), .val (.int p5), .val (.int (1 : Int32)), .val (.int (1 : Int32)), .val (.int r337), .val (.int r344), .val (.int r348), .val (.int u352_S0), .val (.int u358_S0), .val (.ref b363), .val (.ref b387), .val (.ref b394), .val (.int (0 : Int32)), .val (.int (1 : Int32)), .val (.int u358_S0), .val (.int (0 : Int32)), .val (.int u352_S0), .val (.int u358_S0), .unset, .unset] [(.int (1 : Int32)), (.ref b394)] := ((((k462.iaload (i := 0) (n := 2) X401 hx hZ e401 q401_0 rfl rfl (by decide) (by decide) rfl (hb hby at_334)).iload X401 hx (hb hby at_335) rfl).icmpNo X401 hx (hb hby at_337) (XT.ii_ne_f rfl)).aload X401 hx (hb hby at_340) rfl rfl).iconst X401 hx (hb hby at_342) (v := (1 : Int32)) rfl
            have k464 : Go p e below m W T401 356 #[.val (.int p1), .val (.int p2), .val (.int p3), .val (.int p4), .val (.int p5), .val (.int (1 : Int32)), .val (.int (1 : Int32)), .val (.int r337), .val (.int r344), .val (.int r348), .val (.int u352_S0), .val (.int u358_S0), .val (.ref b363), .val (.ref b387), .val (.ref b394), .val (.int (0 : Int32)), .val (.int (1 : Int32)), .val (.int u358_S0), .val (.int (0 : Int32)), .val (.int u352_S0), .val (.int u358_S0), .val (.int (1 : Int32)), .unset] [] := (((((k463.iaload (i := 1) (n := 2) X401 hx hZ e401 q401_0 rfl rfl (by decide) (by decide) rfl (hb hby at_343)).iload X401 hx (hb hby at_344) rfl).icmpNo X401 hx (hb hby at_346) (XT.ii_ne_f rfl)).iconst X401 hx (hb hby at_349) (v := (1 : Int32)) rfl).goto X401 hx (hb hby at_350) (by decide) (by decide)).istore X401 hx (hb hby at_354) rfl
            have k465 : Go p e below m W T401 364 #[.val (.int p1), .val (.int p2), .val (.int p3), .val (.int p4), .val (.int p5), .val (.int (1 : Int32)), .val (.int (1 : Int32)), .val (.int r337), .val (.int r344), .val (.int r348), .val (.int u352_S0), .val (.int u358_S0), .val (.ref b363), .val (.ref b387), .val (.ref b394), .val (.int (0 : Int32)), .val (.int (1 : Int32)), .val (.int u358_S0), .val (.int (0 : Int32)), .val (.int u352_S0), .val (.int u358_S0), .val (.int (1 : Int32)), .unset] [(.ref b394), (.int r348), (.int p5), (.ref b387)] := (((k464.aload X401 hx (hb hby at_356) rfl rfl).iload X401 hx (hb hby at_358) rfl).iload X401 hx (hb hby at_360) rfl).aload X401 hx (hb hby at_362) rfl rfl
            have g_125 := g_115.keep Kq401 (by simp only [List.mem_cons, List.not_mem_nil, or_false, not_or]; exact g_114)
            have g_126 := g_117.keep Kq401 (by simp only [List.mem_cons, List.not_mem_nil, or_false, not_or]; exact g_116)
            have g_127 := g_118.keep Kq401
            obtain ⟨T466, v466, L466, X466, Q466, k466⟩ := k465.virt (y := (⟨"com/example/enact/enact/FeederAcceleration", "accelerate", "(II[I)Z"⟩ : MethodName)) (z := (⟨"com/example/enact/enact/FeederAcceleration", "accelerate", "(II[I)Z"⟩ : MethodName)) (Wd := 0) (cells' := 8) (slots' := 31) (argsL := [(.int p5), (.int r348), (.ref b394)]) (rest := []) X401 hx hZ hown (by rw [hml]; rfl) (hv 90 rfl) (hv 91 rfl) (notFace_of_selects (args := #[]) (mvT hZ (hv 93 rfl))) (hv 93 rfl) (hv 92 rfl) (hv 94 rfl) (hv 29 rfl) (hb hby at_364) (by decide) (rmac l Z a0 hw [] b387 p5 r348 b394 of_391 okf_391 c394 (own_e2 r337 (0 : Int32) r344 (1 : Int32) (0 : Int32)) (own_e2 r337 (0 : Int32) r344 (1 : Int32) (1 : Int32)) (own_e2 r337 (0 : Int32) r344 (1 : Int32) (2 : Int32)) (own_e2 r337 (0 : Int32) r344 (1 : Int32) (3 : Int32)) u352_S0 u358_S0 h401 n0 Z401 g_125 g_126 q401_0 G394 g_116 g_114 hs348 (own_3e2 (Or.inl rfl) (Or.inr rfl)) (own_3e2 (Or.inl rfl) (Or.inr rfl)) (own_3e2 (Or.inl rfl) (Or.inr rfl)) (own_3e2 (Or.inl rfl) (Or.inr rfl))) e401 g_127 rfl rfl pd_rm0_2 rfl (Nat.le_of_eq rfl) (by decide) (by decide) rfl rfl (by decide) (by decide)
            obtain ⟨ro_466, d0_466, d1_466, rfl, Nq466, Kq466, p466_0, q466_0⟩ := Q466
            have N466 := Fr.app N401 Nq466
            obtain ⟨h466, e466⟩ : ∃ h, T466.heap = h := ⟨_, rfl⟩
            rw [e466] at Kq466 q466_0
            have Z466 : n0 ≤ h466.size := Nat.le_trans Z401 Kq466.1
            have k466 : Go p e below m W T466 367 #[.val (.int p1), .val (.int p2), .val (.int p3), .val (.int p4), .val (.int p5), .val (.int (1 : Int32)), .val (.int (1 : Int32)), .val (.int r337), .val (.int r344), .val (.int r348), .val (.int u352_S0), .val (.int u358_S0), .val (.ref b363), .val (.ref b387), .val (.ref b394), .val (.int (0 : Int32)), .val (.int (1 : Int32)), .val (.int u358_S0), .val (.int (0 : Int32)), .val (.int u352_S0), .val (.int u358_S0), .val (.int (1 : Int32)), .unset] [(.int ro_466)] := k466
            obtain ⟨ha467, hb467, hc467⟩ := own_acc1' p466_0 ((own_sel2 hs348).trans (own_p2b hc232_446)) hs449
            subst ro_466
            subst d0_466
            subst d1_466
            have k468 : Go p e below m W T466 369 #[.val (.int p1), .val (.int p2), .val (.int p3), .val (.int p4), .val (.int p5), .val (.int (1 : Int32)), .val (.int (1 : Int32)), .val (.int r337), .val (.int r344), .val (.int r348), .val (.int u352_S0), .val (.int u358_S0), .val (.ref b363), .val (.ref b387), .val (.ref b394), .val (.int (0 : Int32)), .val (.int (1 : Int32)), .val (.int u358_S0), .val (.int (0 : Int32)), .val (.int u352_S0), .val (.int u358_S0), .val (.int (1 : Int32)), .val (.int (0 : Int32))] [] := k466.istore X466 hx (hb hby at_367) rfl
            have k469 : Go p e below m W T466 382 #[.val (.int p1), .val (.int p2), .val (.int p3), .val (.int p4), .val (.int p5), .val (.int (1 : Int32)), .val (.int (1 : Int32)), .val (.int r337), .val (.int r344), .val (.int r348), .val (.int u352_S0), .val (.int u358_S0), .val (.ref b363), .val (.ref b387), .val (.ref b394), .val (.int (0 : Int32)), .val (.int (1 : Int32)), .val (.int u358_S0), .val (.int (0 : Int32)), .val (.int u352_S0), .val (.int u358_S0), .val (.int (1 : Int32)), .val (.int (0 : Int32))] [(.int (0 : Int32)), (.ref b394)] := (((((k468.iload X466 hx (hb hby at_369) rfl).ifNo X466 hx (hb hby at_371) (XT.i0_eq_f (by decide))).iload X466 hx (hb hby at_374) rfl).ifNo X466 hx (hb hby at_376) (XT.i0_ne_f (by decide))).aload X466 hx (hb hby at_379) rfl rfl).iconst X466 hx (hb hby at_381) (v := (0 : Int32)) rfl
            have k470 : Go p e below m W T466 391 #[.val (.int p1), .val (.int p2), .val (.int p3), .val (.int p4), .val (.int p5), .val (.int (1 : Int32)), .val (.int (1 : Int32)), .val (.int r337), .val (.int r344), .val (.int r348), .val (.int u352_S0), .val (.int u358_S0), .val (.ref b363), .val (.ref b387), .val (.ref b394), .val (.int (0 : Int32)), .val (.int (1 : Int32)), .val (.int u358_S0), .val (.int (0 : Int32)), .val (.int u352_S0), .val (.int u358_S0), .val (.int (1 : Int32)), .val (.int (0 : Int32))] [(.int (1 : Int32)), (.ref b394)] := ((((k469.iaload (i := 0) (n := 2) X466 hx hZ e466 q466_0 rfl rfl (by decide) (by decide) rfl (hb hby at_382)).iload X466 hx (hb hby at_383) rfl).icmpNo X466 hx (hb hby at_385) (XT.ii_ne_f rfl)).aload X466 hx (hb hby at_388) rfl rfl).iconst X466 hx (hb hby at_390) (v := (1 : Int32)) rfl
            have k471 : Go p e below m W T466 402 #[.val (.int p1), .val (.int p2), .val (.int p3), .val (.int p4), .val (.int p5), .val (.int (1 : Int32)), .val (.int (1 : Int32)), .val (.int r337), .val (.int r344), .val (.int r348), .val (.int u352_S0), .val (.int u358_S0), .val (.ref b363), .val (.ref b387), .val (.ref b394), .val (.int (0 : Int32)), .val (.int (1 : Int32)), .val (.int u358_S0), .val (.int (0 : Int32)), .val (.int u352_S0), .val (.int u358_S0), .val (.int (1 : Int32)), .val (.int (0 : Int32))] [(.int (1 : Int32))] := ((((k470.iaload (i := 1) (n := 2) X466 hx hZ e466 q466_0 rfl rfl (by decide) (by decide) rfl (hb hby at_391)).iload X466 hx (hb hby at_392) rfl).icmpNo X466 hx (hb hby at_394) (XT.ii_ne_f rfl)).iconst X466 hx (hb hby at_397) (v := (1 : Int32)) rfl).goto X466 hx (hb hby at_398) (by decide) (by decide)
            exact k471.ireturnN X466 hx (t := .boolean) Bd.returns (by simp) rfl (hb hby at_402) (BodyLoose.notSynchronized Bd) (by rw [e466]; exact ⟨rfl, N466⟩) (by decide) (by decide)
          ·
            subst ro_401
            subst d0_401
            subst d1_401
            have k472 : Go p e below m W T401 242 #[.val (.int p1), .val (.int p2), .val (.int p3), .val (.int p4), .val (.int p5), .val (.int (1 : Int32)), .val (.int (1 : Int32)), .val (.int r337), .val (.int r344), .val (.int r348), .val (.int u352_S0), .val (.int u358_S0), .val (.ref b363), .val (.ref b387), .val (.ref b394), .val (.int (1 : Int32)), .val (.int (1 : Int32)), .unset, .unset, .unset, .unset, .unset, .unset] [] := k447.istore X401 hx (hb hby at_240) rfl
            have k473 : Go p e below m W T401 266 #[.val (.int p1), .val (.int p2), .val (.int p3), .val (.int p4), .val (.int p5), .val (.int (1 : Int32)), .val (.int (1 : Int32)), .val (.int r337), .val (.int r344), .val (.int r348), .val (.int u352_S0), .val (.int u358_S0), .val (.ref b363), .val (.ref b387), .val (.ref b394), .val (.int (1 : Int32)), .val (.int (1 : Int32)), .val (.int u358_S0), .unset, .unset, .unset, .unset, .unset] [] := (((((((k472.iload X401 hx (hb hby at_242) rfl).ifYes X401 hx (hb hby at_244) (XT.i0_ne_t (by decide)) (by decide) (by decide)).iload X401 hx (hb hby at_252) rfl).iconst X401 hx (hb hby at_254) (v := (1 : Int32)) rfl).icmpNo X401 hx (hb hby at_255) (XT.ii_ne_f (by decide))).iload X401 hx (hb hby at_258) rfl).goto X401 hx (hb hby at_260) (by decide) (by decide)).istore X401 hx (hb hby at_264) rfl
            have k474 : Go p e below m W T401 285 #[.val (.int p1), .val (.int p2), .val (.int p3), .val (.int p4), .val (.int p5), .val (.int (1 : Int32)), .val (.int (1 : Int32)), .val (.int r337), .val (.int r344), .val (.int r348), .val (.int u352_S0), .val (.int u358_S0), .val (.ref b363), .val (.ref b387), .val (.ref b394), .val (.int (1 : Int32)), .val (.int (1 : Int32)), .val (.int u358_S0), .val (.int (1 : Int32)), .unset, .unset, .unset, .unset] [] := (((((((k473.iload X401 hx (hb hby at_266) rfl).ifNo X401 hx (hb hby at_268) (XT.i0_lt_f (by decide))).iload X401 hx (hb hby at_271) rfl).ldcI X401 hx hZ hown (hv 0 rfl) (hb hby at_273)).icmpNo X401 hx (hb hby at_275) (XT.ii_eq_f hs453)).iconst X401 hx (hb hby at_278) (v := (1 : Int32)) rfl).goto X401 hx (hb hby at_279) (by decide) (by decide)).istore X401 hx (hb hby at_283) rfl
            have k475 : Go p e below m W T401 304 #[.val (.int p1), .val (.int p2), .val (.int p3), .val (.int p4), .val (.int p5), .val (.int (1 : Int32)), .val (.int (1 : Int32)), .val (.int r337), .val (.int r344), .val (.int r348), .val (.int u352_S0), .val (.int u358_S0), .val (.ref b363), .val (.ref b387), .val (.ref b394), .val (.int (1 : Int32)), .val (.int (1 : Int32)), .val (.int u358_S0), .val (.int (1 : Int32)), .val (.int u352_S0), .unset, .unset, .unset] [] := (((((k474.iload X401 hx (hb hby at_285) rfl).ifNo X401 hx (hb hby at_287) (XT.i0_eq_f (by decide))).iload X401 hx (hb hby at_290) rfl).ifYes X401 hx (hb hby at_292) (XT.i0_ne_t (by decide)) (by decide) (by decide)).iload X401 hx (hb hby at_300) rfl).istore X401 hx (hb hby at_302) rfl
            have k476 : Go p e below m W T401 324 #[.val (.int p1), .val (.int p2), .val (.int p3), .val (.int p4), .val (.int p5), .val (.int (1 : Int32)), .val (.int (1 : Int32)), .val (.int r337), .val (.int r344), .val (.int r348), .val (.int u352_S0), .val (.int u358_S0), .val (.ref b363), .val (.ref b387), .val (.ref b394), .val (.int (1 : Int32)), .val (.int (1 : Int32)), .val (.int u358_S0), .val (.int (1 : Int32)), .val (.int u352_S0), .val (.int (2147483647 : Int32)), .unset, .unset] [] := (((((((k475.iload X401 hx (hb hby at_304) rfl).ifNo X401 hx (hb hby at_306) (XT.i0_eq_f (by decide))).iload X401 hx (hb hby at_309) rfl).iconst X401 hx (hb hby at_311) (v := (1 : Int32)) rfl).icmpNo X401 hx (hb hby at_312) (XT.ii_ne_f (by decide))).ldcI X401 hx hZ hown (hv 0 rfl) (hb hby at_315)).goto X401 hx (hb hby at_317) (by decide) (by decide)).istore X401 hx (hb hby at_322) rfl
            have k477 : Go p e below m W T401 334 #[.val (.int p1), .val (.int p2), .val (.int p3), .val (.int p4), .val (.int p5), .val (.int (1 : Int32)), .val (.int (1 : Int32)), .val (.int r337), .val (.int r344), .val (.int r348), .val (.int u352_S0), .val (.int u358_S0), .val (.ref b363), .val (.ref b387), .val (.ref b394), .val (.int (1 : Int32)), .val (.int (1 : Int32)), .val (.int u358_S0), .val (.int (1 : Int32)), .val (.int u352_S0), .val (.int (2147483647 : Int32)), .unset, .unset] [(.int (0 : Int32)), (.ref b394)] := ((((k476.iload X401 hx (hb hby at_324) rfl).iload X401 hx (hb hby at_326) rfl).icmpNo X401 hx (hb hby at_328) (XT.ii_ne_f (by decide))).aload X401 hx (hb hby at_331) rfl rfl).iconst X401 hx (hb hby at_333) (v := (0 : Int32)) rfl
            have k478 : Go p e below m W T401 343 #[.val (.int p1), .val (.int p2), .val (.int p3), .val (.int p4), .val (.int p5), .val (.int (1 : Int32)), .val (.int (1 : Int32)), .val (.int r337), .val (.int r344), .val (.int r348), .val (.int u352_S0), .val (.int u358_S0), .val (.ref b363), .val (.ref b387), .val (.ref b394), .val (.int (1 : Int32)), .val (.int (1 : Int32)), .val (.int u358_S0), .val (.int (1 : Int32)), .val (.int u352_S0), .val (.int (2147483647 : Int32)), .unset, .unset] [(.int (1 : Int32)), (.ref b394)] := ((((k477.iaload (i := 0) (n := 2) X401 hx hZ e401 q401_0 rfl rfl (by decide) (by decide) rfl (hb hby at_334)).iload X401 hx (hb hby at_335) rfl).icmpNo X401 hx (hb hby at_337) (XT.ii_ne_f rfl)).aload X401 hx (hb hby at_340) rfl rfl).iconst X401 hx (hb hby at_342) (v := (1 : Int32)) rfl
            have k479 : Go p e below m W T401 356 #[.val (.int p1), .val (.int p2), .val (.int p3), .val (.int p4), .val (.int p5), .val (.int (1 : Int32)), .val (.int (1 : Int32)), .val (.int r337), .val (.int r344), .val (.int r348), .val (.int u352_S0), .val (.int u358_S0), .val (.ref b363), .val (.ref b387), .val (.ref b394), .val (.int (1 : Int32)), .val (.int (1 : Int32)), .val (.int u358_S0), .val (.int (1 : Int32)), .val (.int u352_S0), .val (.int (2147483647 : Int32)), .val (.int (1 : Int32)), .unset] [] := (((((k478.iaload (i := 1) (n := 2) X401 hx hZ e401 q401_0 rfl rfl (by decide) (by decide) rfl (hb hby at_343)).iload X401 hx (hb hby at_344) rfl).icmpNo X401 hx (hb hby at_346) (XT.ii_ne_f (by decide))).iconst X401 hx (hb hby at_349) (v := (1 : Int32)) rfl).goto X401 hx (hb hby at_350) (by decide) (by decide)).istore X401 hx (hb hby at_354) rfl
            have k480 : Go p e below m W T401 364 #[.val (.int p1), .val (.int p2), .val (.int p3), .val (.int p4), .val (.int p5), .val (.int (1 : Int32)), .val (.int (1 : Int32)), .val (.int r337), .val (.int r344), .val (.int r348), .val (.int u352_S0), .val (.int u358_S0), .val (.ref b363), .val (.ref b387), .val (.ref b394), .val (.int (1 : Int32)), .val (.int (1 : Int32)), .val (.int u358_S0), .val (.int (1 : Int32)), .val (.int u352_S0), .val (.int (2147483647 : Int32)), .val (.int (1 : Int32)), .unset] [(.ref b394), (.int r348), (.int p5), (.ref b387)] := (((k479.aload X401 hx (hb hby at_356) rfl rfl).iload X401 hx (hb hby at_358) rfl).iload X401 hx (hb hby at_360) rfl).aload X401 hx (hb hby at_362) rfl rfl
            have g_128 := g_115.keep Kq401 (by simp only [List.mem_cons, List.not_mem_nil, or_false, not_or]; exact g_114)
            have g_129 := g_117.keep Kq401 (by simp only [List.mem_cons, List.not_mem_nil, or_false, not_or]; exact g_116)
            have g_130 := g_118.keep Kq401
            obtain ⟨T481, v481, L481, X481, Q481, k481⟩ := k480.virt (y := (⟨"com/example/enact/enact/FeederAcceleration", "accelerate", "(II[I)Z"⟩ : MethodName)) (z := (⟨"com/example/enact/enact/FeederAcceleration", "accelerate", "(II[I)Z"⟩ : MethodName)) (Wd := 0) (cells' := 8) (slots' := 31) (argsL := [(.int p5), (.int r348), (.ref b394)]) (rest := []) X401 hx hZ hown (by rw [hml]; rfl) (hv 90 rfl) (hv 91 rfl) (notFace_of_selects (args := #[]) (mvT hZ (hv 93 rfl))) (hv 93 rfl) (hv 92 rfl) (hv 94 rfl) (hv 29 rfl) (hb hby at_364) (by decide) (rmac l Z a0 hw [] b387 p5 r348 b394 of_391 okf_391 c394 (own_e2 r337 (0 : Int32) r344 (1 : Int32) (0 : Int32)) (own_e2 r337 (0 : Int32) r344 (1 : Int32) (1 : Int32)) (own_e2 r337 (0 : Int32) r344 (1 : Int32) (2 : Int32)) (own_e2 r337 (0 : Int32) r344 (1 : Int32) (3 : Int32)) u352_S0 (2147483647 : Int32) h401 n0 Z401 g_128 g_129 q401_0 G394 g_116 g_114 hs348 (own_3e2 (Or.inl rfl) (Or.inr rfl)) (own_3e2 (Or.inl rfl) (Or.inr rfl)) (own_3e2 (Or.inl rfl) (Or.inr rfl)) (own_3e2 (Or.inl rfl) (Or.inr rfl))) e401 g_130 rfl rfl pd_rm0_2 rfl (Nat.le_of_eq rfl) (by decide) (by decide) rfl rfl (by decide) (by decide)
            obtain ⟨ro_481, d0_481, d1_481, rfl, Nq481, Kq481, p481_0, q481_0⟩ := Q481
            have N481 := Fr.app N401 Nq481
            obtain ⟨h481, e481⟩ : ∃ h, T481.heap = h := ⟨_, rfl⟩
            rw [e481] at Kq481 q481_0
            have Z481 : n0 ≤ h481.size := Nat.le_trans Z401 Kq481.1
            have k481 : Go p e below m W T481 367 #[.val (.int p1), .val (.int p2), .val (.int p3), .val (.int p4), .val (.int p5), .val (.int (1 : Int32)), .val (.int (1 : Int32)), .val (.int r337), .val (.int r344), .val (.int r348), .val (.int u352_S0), .val (.int u358_S0), .val (.ref b363), .val (.ref b387), .val (.ref b394), .val (.int (1 : Int32)), .val (.int (1 : Int32)), .val (.int u358_S0), .val (.int (1 : Int32)), .val (.int u352_S0), .val (.int (2147483647 : Int32)), .val (.int (1 : Int32)), .unset] [(.int ro_481)] := k481
            obtain ⟨ha482, hb482, hc482⟩ := own_acc1' p481_0 ((own_sel2 hs348).trans (own_p2b hc232_446)) rfl
            subst ro_481
            subst d0_481
            subst d1_481
            have k483 : Go p e below m W T481 369 #[.val (.int p1), .val (.int p2), .val (.int p3), .val (.int p4), .val (.int p5), .val (.int (1 : Int32)), .val (.int (1 : Int32)), .val (.int r337), .val (.int r344), .val (.int r348), .val (.int u352_S0), .val (.int u358_S0), .val (.ref b363), .val (.ref b387), .val (.ref b394), .val (.int (1 : Int32)), .val (.int (1 : Int32)), .val (.int u358_S0), .val (.int (1 : Int32)), .val (.int u352_S0), .val (.int (2147483647 : Int32)), .val (.int (1 : Int32)), .val (.int (0 : Int32))] [] := k481.istore X481 hx (hb hby at_367) rfl
            have k484 : Go p e below m W T481 382 #[.val (.int p1), .val (.int p2), .val (.int p3), .val (.int p4), .val (.int p5), .val (.int (1 : Int32)), .val (.int (1 : Int32)), .val (.int r337), .val (.int r344), .val (.int r348), .val (.int u352_S0), .val (.int u358_S0), .val (.ref b363), .val (.ref b387), .val (.ref b394), .val (.int (1 : Int32)), .val (.int (1 : Int32)), .val (.int u358_S0), .val (.int (1 : Int32)), .val (.int u352_S0), .val (.int (2147483647 : Int32)), .val (.int (1 : Int32)), .val (.int (0 : Int32))] [(.int (0 : Int32)), (.ref b394)] := (((((k483.iload X481 hx (hb hby at_369) rfl).ifNo X481 hx (hb hby at_371) (XT.i0_eq_f (by decide))).iload X481 hx (hb hby at_374) rfl).ifNo X481 hx (hb hby at_376) (XT.i0_ne_f (by decide))).aload X481 hx (hb hby at_379) rfl rfl).iconst X481 hx (hb hby at_381) (v := (0 : Int32)) rfl
            have k485 : Go p e below m W T481 391 #[.val (.int p1), .val (.int p2), .val (.int p3), .val (.int p4), .val (.int p5), .val (.int (1 : Int32)), .val (.int (1 : Int32)), .val (.int r337), .val (.int r344), .val (.int r348), .val (.int u352_S0), .val (.int u358_S0), .val (.ref b363), .val (.ref b387), .val (.ref b394), .val (.int (1 : Int32)), .val (.int (1 : Int32)), .val (.int u358_S0), .val (.int (1 : Int32)), .val (.int u352_S0), .val (.int (2147483647 : Int32)), .val (.int (1 : Int32)), .val (.int (0 : Int32))] [(.int (1 : Int32)), (.ref b394)] := ((((k484.iaload (i := 0) (n := 2) X481 hx hZ e481 q481_0 rfl rfl (by decide) (by decide) rfl (hb hby at_382)).iload X481 hx (hb hby at_383) rfl).icmpNo X481 hx (hb hby at_385) (XT.ii_ne_f rfl)).aload X481 hx (hb hby at_388) rfl rfl).iconst X481 hx (hb hby at_390) (v := (1 : Int32)) rfl
            have k486 : Go p e below m W T481 402 #[.val (.int p1), .val (.int p2), .val (.int p3), .val (.int p4), .val (.int p5), .val (.int (1 : Int32)), .val (.int (1 : Int32)), .val (.int r337), .val (.int r344), .val (.int r348), .val (.int u352_S0), .val (.int u358_S0), .val (.ref b363), .val (.ref b387), .val (.ref b394), .val (.int (1 : Int32)), .val (.int (1 : Int32)), .val (.int u358_S0), .val (.int (1 : Int32)), .val (.int u352_S0), .val (.int (2147483647 : Int32)), .val (.int (1 : Int32)), .val (.int (0 : Int32))] [(.int (1 : Int32))] := ((((k485.iaload (i := 1) (n := 2) X481 hx hZ e481 q481_0 rfl rfl (by decide) (by decide) rfl (hb hby at_391)).iload X481 hx (hb hby at_392) rfl).icmpNo X481 hx (hb hby at_394) (XT.ii_ne_f (by decide))).iconst X481 hx (hb hby at_397) (v := (1 : Int32)) rfl).goto X481 hx (hb hby at_398) (by decide) (by decide)
            exact k486.ireturnN X481 hx (t := .boolean) Bd.returns (by simp) rfl (hb hby at_402) (BodyLoose.notSynchronized Bd) (by rw [e481]; exact ⟨rfl, N481⟩) (by decide) (by decide)
        ·
          have k487 : Go p e below m W T401 240 #[.val (.int p1), .val (.int p2), .val (.int p3), .val (.int p4), .val (.int p5), .val (.int (1 : Int32)), .val (.int (1 : Int32)), .val (.int r337), .val (.int r344), .val (.int r348), .val (.int u352_S0), .val (.int u358_S0), .val (.ref b363), .val (.ref b387), .val (.ref b394), .val (.int ro_401), .unset, .unset, .unset, .unset, .unset, .unset, .unset] [(.int (-1 : Int32))] := (k445.icmpYes X401 hx (hb hby at_232) (XT.ii_ne_t hc232_446) (by decide) (by decide)).iconst X401 hx (hb hby at_239) (v := (-1 : Int32)) rfl
          obtain ⟨ha488, hb488, hc488⟩ := own_accN p401_0 ((own_sel2 hs348).trans (own_p2c hc216_404 hc232_446))
          subst ro_401
          subst d0_401
          subst d1_401
          have k489 : Go p e below m W T401 242 #[.val (.int p1), .val (.int p2), .val (.int p3), .val (.int p4), .val (.int p5), .val (.int (1 : Int32)), .val (.int (1 : Int32)), .val (.int r337), .val (.int r344), .val (.int r348), .val (.int u352_S0), .val (.int u358_S0), .val (.ref b363), .val (.ref b387), .val (.ref b394), .val (.int (0 : Int32)), .val (.int (-1 : Int32)), .unset, .unset, .unset, .unset, .unset, .unset] [] := k487.istore X401 hx (hb hby at_240) rfl
          have k490 : Go p e below m W T401 266 #[.val (.int p1), .val (.int p2), .val (.int p3), .val (.int p4), .val (.int p5), .val (.int (1 : Int32)), .val (.int (1 : Int32)), .val (.int r337), .val (.int r344), .val (.int r348), .val (.int u352_S0), .val (.int u358_S0), .val (.ref b363), .val (.ref b387), .val (.ref b394), .val (.int (0 : Int32)), .val (.int (-1 : Int32)), .val (.int (0 : Int32)), .unset, .unset, .unset, .unset, .unset] [] := ((((((k489.iload X401 hx (hb hby at_242) rfl).ifYes X401 hx (hb hby at_244) (XT.i0_ne_t (by decide)) (by decide) (by decide)).iload X401 hx (hb hby at_252) rfl).iconst X401 hx (hb hby at_254) (v := (1 : Int32)) rfl).icmpYes X401 hx (hb hby at_255) (XT.ii_ne_t (by decide)) (by decide) (by decide)).iconst X401 hx (hb hby at_263) (v := (0 : Int32)) rfl).istore X401 hx (hb hby at_264) rfl
          have k491 : Go p e below m W T401 285 #[.val (.int p1), .val (.int p2), .val (.int p3), .val (.int p4), .val (.int p5), .val (.int (1 : Int32)), .val (.int (1 : Int32)), .val (.int r337), .val (.int r344), .val (.int r348), .val (.int u352_S0), .val (.int u358_S0), .val (.ref b363), .val (.ref b387), .val (.ref b394), .val (.int (0 : Int32)), .val (.int (-1 : Int32)), .val (.int (0 : Int32)), .val (.int (0 : Int32)), .unset, .unset, .unset, .unset] [] := (((k490.iload X401 hx (hb hby at_266) rfl).ifYes X401 hx (hb hby at_268) (XT.i0_lt_t (by decide)) (by decide) (by decide)).iconst X401 hx (hb hby at_282) (v := (0 : Int32)) rfl).istore X401 hx (hb hby at_283) rfl
          have k492 : Go p e below m W T401 304 #[.val (.int p1), .val (.int p2), .val (.int p3), .val (.int p4), .val (.int p5), .val (.int (1 : Int32)), .val (.int (1 : Int32)), .val (.int r337), .val (.int r344), .val (.int r348), .val (.int u352_S0), .val (.int u358_S0), .val (.ref b363), .val (.ref b387), .val (.ref b394), .val (.int (0 : Int32)), .val (.int (-1 : Int32)), .val (.int (0 : Int32)), .val (.int (0 : Int32)), .val (.int u352_S0), .unset, .unset, .unset] [] := (((k491.iload X401 hx (hb hby at_285) rfl).ifYes X401 hx (hb hby at_287) (XT.i0_eq_t (by decide)) (by decide) (by decide)).iload X401 hx (hb hby at_300) rfl).istore X401 hx (hb hby at_302) rfl
          have k493 : Go p e below m W T401 324 #[.val (.int p1), .val (.int p2), .val (.int p3), .val (.int p4), .val (.int p5), .val (.int (1 : Int32)), .val (.int (1 : Int32)), .val (.int r337), .val (.int r344), .val (.int r348), .val (.int u352_S0), .val (.int u358_S0), .val (.ref b363), .val (.ref b387), .val (.ref b394), .val (.int (0 : Int32)), .val (.int (-1 : Int32)), .val (.int (0 : Int32)), .val (.int (0 : Int32)), .val (.int u352_S0), .val (.int u358_S0), .unset, .unset] [] := (((k492.iload X401 hx (hb hby at_304) rfl).ifYes X401 hx (hb hby at_306) (XT.i0_eq_t (by decide)) (by decide) (by decide)).iload X401 hx (hb hby at_320) rfl).istore X401 hx (hb hby at_322) rfl
          have k494 : Go p e below m W T401 334 #[.val (.int p1), .val (.int p2), .val (.int p3), .val (.int p4), .val (.int p5), .val (.int (1 : Int32)), .val (.int (1 : Int32)), .val (.int r337), .val (.int r344), .val (.int r348), .val (.int u352_S0), .val (.int u358_S0), .val (.ref b363), .val (.ref b387), .val (.ref b394), .val (.int (0 : Int32)), .val (.int (-1 : Int32)), .val (.int (0 : Int32)), .val (.int (0 : Int32)), .val (.int u352_S0), .val (.int u358_S0), .unset, .unset] [(.int (0 : Int32)), (.ref b394)] := ((((k493.iload X401 hx (hb hby at_324) rfl).iload X401 hx (hb hby at_326) rfl).icmpNo X401 hx (hb hby at_328) (XT.ii_ne_f (by decide))).aload X401 hx (hb hby at_331) rfl rfl).iconst X401 hx (hb hby at_333) (v := (0 : Int32)) rfl
          have k495 : Go p e below m W T401 343 #[.val (.int p1), .val (.int p2), .val (.int p3), .val (.int p4), .val (.int p5), .val (.int (1 : Int32)), .val (.int (1 : Int32)), .val (.int r337), .val (.int r344), .val (.int r348), .val (.int u352_S0), .val (.int u358_S0), .val (.ref b363), .val (.ref b387), .val (.ref b394), .val (.int (0 : Int32)), .val (.int (-1 : Int32)), .val (.int (0 : Int32)), .val (.int (0 : Int32)), .val (.int u352_S0), .val (.int u358_S0), .unset, .unset] [(.int (1 : Int32)), (.ref b394)] := ((((k494.iaload (i := 0) (n := 2) X401 hx hZ e401 q401_0 rfl rfl (by decide) (by decide) rfl (hb hby at_334)).iload X401 hx (hb hby at_335) rfl).icmpNo X401 hx (hb hby at_337) (XT.ii_ne_f rfl)).aload X401 hx (hb hby at_340) rfl rfl).iconst X401 hx (hb hby at_342) (v := (1 : Int32)) rfl
          have k496 : Go p e below m W T401 356 #[.val (.int p1), .val (.int p2), .val (.int p3), .val (.int p4), .val (.int p5), .val (.int (1 : Int32)), .val (.int (1 : Int32)), .val (.int r337), .val (.int r344), .val (.int r348), .val (.int u352_S0), .val (.int u358_S0), .val (.ref b363), .val (.ref b387), .val (.ref b394), .val (.int (0 : Int32)), .val (.int (-1 : Int32)), .val (.int (0 : Int32)), .val (.int (0 : Int32)), .val (.int u352_S0), .val (.int u358_S0), .val (.int (1 : Int32)), .unset] [] := (((((k495.iaload (i := 1) (n := 2) X401 hx hZ e401 q401_0 rfl rfl (by decide) (by decide) rfl (hb hby at_343)).iload X401 hx (hb hby at_344) rfl).icmpNo X401 hx (hb hby at_346) (XT.ii_ne_f rfl)).iconst X401 hx (hb hby at_349) (v := (1 : Int32)) rfl).goto X401 hx (hb hby at_350) (by decide) (by decide)).istore X401 hx (hb hby at_354) rfl
          have k497 : Go p e below m W T401 364 #[.val (.int p1), .val (.int p2), .val (.int p3), .val (.int p4), .val (.int p5), .val (.int (1 : Int32)), .val (.int (1 : Int32)), .val (.int r337), .val (.int r344), .val (.int r348), .val (.int u352_S0), .val (.int u358_S0), .val (.ref b363), .val (.ref b387), .val (.ref b394), .val (.int (0 : Int32)), .val (.int (-1 : Int32)), .val (.int (0 : Int32)), .val (.int (0 : Int32)), .val (.int u352_S0), .val (.int u358_S0), .val (.int (1 : Int32)), .unset] [(.ref b394), (.int r348), (.int p5), (.ref b387)] := (((k496.aload X401 hx (hb hby at_356) rfl rfl).iload X401 hx (hb hby at_358) rfl).iload X401 hx (hb hby at_360) rfl).aload X401 hx (hb hby at_362) rfl rfl
          have g_131 := g_115.keep Kq401 (by simp only [List.mem_cons, List.not_mem_nil, or_false, not_or]; exact g_114)
          have g_132 := g_117.keep Kq401 (by simp only [List.mem_cons, List.not_mem_nil, or_false, not_or]; exact g_116)
          have g_133 := g_118.keep Kq401
          obtain ⟨T498, v498, L498, X498, Q498, k498⟩ := k497.virt (y := (⟨"com/example/enact/enact/FeederAcceleration", "accelerate", "(II[I)Z"⟩ : MethodName)) (z := (⟨"com/example/enact/enact/FeederAcceleration", "accelerate", "(II[I)Z"⟩ : MethodName)) (Wd := 0) (cells' := 8) (slots' := 31) (argsL := [(.int p5), (.int r348), (.ref b394)]) (rest := []) X401 hx hZ hown (by rw [hml]; rfl) (hv 90 rfl) (hv 91 rfl) (notFace_of_selects (args := #[]) (mvT hZ (hv 93 rfl))) (hv 93 rfl) (hv 92 rfl) (hv 94 rfl) (hv 29 rfl) (hb hby at_364) (by decide) (rmac l Z a0 hw [] b387 p5 r348 b394 of_391 okf_391 c394 (own_e2 r337 (0 : Int32) r344 (1 : Int32) (0 : Int32)) (own_e2 r337 (0 : Int32) r344 (1 : Int32) (1 : Int32)) (own_e2 r337 (0 : Int32) r344 (1 : Int32) (2 : Int32)) (own_e2 r337 (0 : Int32) r344 (1 : Int32) (3 : Int32)) u352_S0 u358_S0 h401 n0 Z401 g_131 g_132 q401_0 G394 g_116 g_114 hs348 (own_3e2 (Or.inl rfl) (Or.inr rfl)) (own_3e2 (Or.inl rfl) (Or.inr rfl)) (own_3e2 (Or.inl rfl) (Or.inr rfl)) (own_3e2 (Or.inl rfl) (Or.inr rfl))) e401 g_133 rfl rfl pd_rm0_2 rfl (Nat.le_of_eq rfl) (by decide) (by decide) rfl rfl (by decide) (by decide)
          obtain ⟨ro_498, d0_498, d1_498, rfl, Nq498, Kq498, p498_0, q498_0⟩ := Q498
          have N498 := Fr.app N401 Nq498
          obtain ⟨h498, e498⟩ : ∃ h, T498.heap = h := ⟨_, rfl⟩
          rw [e498] at Kq498 q498_0
          have Z498 : n0 ≤ h498.size := Nat.le_trans Z401 Kq498.1
          have k498 : Go p e below m W T498 367 #[.val (.int p1), .val (.int p2), .val (.int p3), .val (.int p4), .val (.int p5), .val (.int (1 : Int32)), .val (.int (1 : Int32)), .val (.int r337), .val (.int r344), .val (.int r348), .val (.int u352_S0), .val (.int u358_S0), .val (.ref b363), .val (.ref b387), .val (.ref b394), .val (.int (0 : Int32)), .val (.int (-1 : Int32)), .val (.int (0 : Int32)), .val (.int (0 : Int32)), .val (.int u352_S0), .val (.int u358_S0), .val (.int (1 : Int32)), .unset] [(.int ro_498)] := k498
          obtain ⟨ha499, hb499, hc499⟩ := own_accN p498_0 ((own_sel2 hs348).trans (own_p2c hc216_404 hc232_446))
          subst ro_498
          subst d0_498
          subst d1_498
          have k500 : Go p e below m W T498 369 #[.val (.int p1), .val (.int p2), .val (.int p3), .val (.int p4), .val (.int p5), .val (.int (1 : Int32)), .val (.int (1 : Int32)), .val (.int r337), .val (.int r344), .val (.int r348), .val (.int u352_S0), .val (.int u358_S0), .val (.ref b363), .val (.ref b387), .val (.ref b394), .val (.int (0 : Int32)), .val (.int (-1 : Int32)), .val (.int (0 : Int32)), .val (.int (0 : Int32)), .val (.int u352_S0), .val (.int u358_S0), .val (.int (1 : Int32)), .val (.int (0 : Int32))] [] := k498.istore X498 hx (hb hby at_367) rfl
          have k501 : Go p e below m W T498 382 #[.val (.int p1), .val (.int p2), .val (.int p3), .val (.int p4), .val (.int p5), .val (.int (1 : Int32)), .val (.int (1 : Int32)), .val (.int r337), .val (.int r344), .val (.int r348), .val (.int u352_S0), .val (.int u358_S0), .val (.ref b363), .val (.ref b387), .val (.ref b394), .val (.int (0 : Int32)), .val (.int (-1 : Int32)), .val (.int (0 : Int32)), .val (.int (0 : Int32)), .val (.int u352_S0), .val (.int u358_S0), .val (.int (1 : Int32)), .val (.int (0 : Int32))] [(.int (0 : Int32)), (.ref b394)] := (((((k500.iload X498 hx (hb hby at_369) rfl).ifNo X498 hx (hb hby at_371) (XT.i0_eq_f (by decide))).iload X498 hx (hb hby at_374) rfl).ifNo X498 hx (hb hby at_376) (XT.i0_ne_f (by decide))).aload X498 hx (hb hby at_379) rfl rfl).iconst X498 hx (hb hby at_381) (v := (0 : Int32)) rfl
          have k502 : Go p e below m W T498 391 #[.val (.int p1), .val (.int p2), .val (.int p3), .val (.int p4), .val (.int p5), .val (.int (1 : Int32)), .val (.int (1 : Int32)), .val (.int r337), .val (.int r344), .val (.int r348), .val (.int u352_S0), .val (.int u358_S0), .val (.ref b363), .val (.ref b387), .val (.ref b394), .val (.int (0 : Int32)), .val (.int (-1 : Int32)), .val (.int (0 : Int32)), .val (.int (0 : Int32)), .val (.int u352_S0), .val (.int u358_S0), .val (.int (1 : Int32)), .val (.int (0 : Int32))] [(.int (1 : Int32)), (.ref b394)] := ((((k501.iaload (i := 0) (n := 2) X498 hx hZ e498 q498_0 rfl rfl (by decide) (by decide) rfl (hb hby at_382)).iload X498 hx (hb hby at_383) rfl).icmpNo X498 hx (hb hby at_385) (XT.ii_ne_f rfl)).aload X498 hx (hb hby at_388) rfl rfl).iconst X498 hx (hb hby at_390) (v := (1 : Int32)) rfl
          have k503 : Go p e below m W T498 402 #[.val (.int p1), .val (.int p2), .val (.int p3), .val (.int p4), .val (.int p5), .val (.int (1 : Int32)), .val (.int (1 : Int32)), .val (.int r337), .val (.int r344), .val (.int r348), .val (.int u352_S0), .val (.int u358_S0), .val (.ref b363), .val (.ref b387), .val (.ref b394), .val (.int (0 : Int32)), .val (.int (-1 : Int32)), .val (.int (0 : Int32)), .val (.int (0 : Int32)), .val (.int u352_S0), .val (.int u358_S0), .val (.int (1 : Int32)), .val (.int (0 : Int32))] [(.int (1 : Int32))] := ((((k502.iaload (i := 1) (n := 2) X498 hx hZ e498 q498_0 rfl rfl (by decide) (by decide) rfl (hb hby at_391)).iload X498 hx (hb hby at_392) rfl).icmpNo X498 hx (hb hby at_394) (XT.ii_ne_f rfl)).iconst X498 hx (hb hby at_397) (v := (1 : Int32)) rfl).goto X498 hx (hb hby at_398) (by decide) (by decide)
          exact k503.ireturnN X498 hx (t := .boolean) Bd.returns (by simp) rfl (hb hby at_402) (BodyLoose.notSynchronized Bd) (by rw [e498]; exact ⟨rfl, N498⟩) (by decide) (by decide)

set_option maxRecDepth 65536 in
set_option maxHeartbeats 40000000 in
theorem comes_1 {Post : Tables → Env → Array Value → State → Outcome → State → Prop} (hpost : ∀ tb e args s v u, (limb_1_1.after args s (.returned v) u = true ∧ limb_1_2.after args s (.returned v) u = true ∧ True) → FrameEnd s (.returned v) u (Jvm.fieldLocs frame_1_writes args s ++ Jvm.arrayLocs frame_1_arrays args s ++ Jvm.staticLocs frame_1_statics s) 24 128 → Post tb e args s (.returned v) u) :
    ArmFor flags0 classFile x code maxLocals ret World_1 tables_1 room_1 Calls_1 rest_1 Pre_1 Post := by
  intro l hfl _ _ p e ha hc hk s m args below hf hA hF happ hP
  obtain ⟨hcalls, hrest, hpre⟩ := hP
  obtain ⟨-, -, -, hnamed, -, -, -, hat⟩ := (Spec.applies_iff hf).mp happ
  obtain ⟨hg, hn⟩ := and_e (Cond.before_iff.mp (show (Jvm.Cond.and given_1 narrow_1).before args s = true from hpre))
  obtain ⟨ga, gb⟩ := and_e hg
  obtain ⟨w0, w1, w2, w3, w4, rfl⟩ : ∃ w0 w1 w2 w3 w4 : Value, args = #[w0, w1, w2, w3, w4] := by
    have hs : args.size = 5 := by simpa [Cond.value, given_1] using ga
    obtain ⟨L⟩ := args
    match L, hs with
    | [w0, w1, w2, w3, w4], _ => exact ⟨w0, w1, w2, w3, w4, rfl⟩
  have hw := fun d (hd : d ∈ tables_1) => atoms_spec (ws := Jvm.Cond.code x code maxLocals ret :: tables_1) hat d (List.mem_cons_of_mem _ hd)
  have hv : ∀ (i : Nat) {d : Jvm.Cond}, tables_1[i]? = some d → d.before _ s = true := fun i d q => hw d (List.mem_of_getElem? q)
  have hfit : Fit s := fun {y c} hc i hi => by
    obtain ⟨ha, rfl⟩ := Array.getElem?_eq_some_iff.mp hc
    have q := List.all_eq_true.mp ((Array.all_eq_true_iff_forall_mem.mp hF) _ (Array.getElem_mem ha)) i (List.mem_range.mpr hi)
    simpa [Array.getElem?_eq_getElem hi] using q
  obtain ⟨gi0, gr0⟩ := and_e gb
  obtain ⟨i0, ei0⟩ := is_v gi0
  obtain rfl : w0 = (.int i0) := Option.some.inj ei0
  obtain ⟨gi1, gr1⟩ := and_e gr0
  obtain ⟨i1, ei1⟩ := is_v gi1
  obtain rfl : w1 = (.int i1) := Option.some.inj ei1
  obtain ⟨gi2, gr2⟩ := and_e gr1
  obtain ⟨i2, ei2⟩ := is_v gi2
  obtain rfl : w2 = (.int i2) := Option.some.inj ei2
  obtain ⟨gi3, gr3⟩ := and_e gr2
  obtain ⟨i3, ei3⟩ := is_v gi3
  obtain rfl : w3 = (.int i3) := Option.some.inj ei3
  obtain ⟨i4, ei4⟩ := is_v gr3
  obtain rfl : w4 = (.int i4) := Option.some.inj ei4
  have O0 : Old s s.heap.size s.heap := Old.start s
  obtain ⟨hsets, hown0⟩ := atoms_of _ (rest_1_c_eq ▸ (show rest_1_c.before _ s = true from hrest))
  obtain ⟨de, ede⟩ := arr_v (Cond.before_iff.mp (hsets _ (List.mem_of_getElem? (i := 6) rfl)))
  obtain ⟨cd, Ad⟩ := Arr.start ede (Cond.before_iff.mp (hsets _ (List.mem_of_getElem? (i := 6) rfl)))
  have eld := own_eqi (Cond.before_iff.mp (hsets _ (List.mem_of_getElem? (i := 8) rfl)))
  obtain ⟨hlt, hle⟩ := own_len ede Ad eld
  have SD : Sta s s.heap "java/util/ArrayList" "DEFAULTCAPACITY_EMPTY_ELEMENTDATA" "[Ljava/lang/Object;" (.ref de) := Sta.start ede (Or.inr ⟨(hv 3 rfl), (hsets _ (List.mem_of_getElem? (i := 2) rfl))⟩)
  have VD : Arv s s.heap de cd.cls (.object "java/lang/Object") (0 : Int32) [] .null := Arv.start hfit Ad hlt hle (by decide) rfl trivial
  have ED : Exa s s.heap de "[Ljava/lang/Object;" := Exa.start ede (Cond.before_iff.mp (hsets _ (List.mem_of_getElem? (i := 7) rfl)))
  obtain ⟨n, o, h1, h2, h3, _, L, rfl, ⟨rfl, N⟩, hq⟩ := rm0 l s _ hw tables_1 i0 i1 i2 i3 i4 de cd.cls s.heap s.heap.size (Nat.le_refl _) O0 SD VD ED p e ha hc hk s m _ below hf ((Spec.applies_iff_loose hf).mp happ).1 ⟨rfl, State.Warmed39.refl s, rfl⟩ trivial
  refine ⟨n, _, h1, h2, h3, hpost _ _ _ _ _ _ ⟨Cond.after_iff.mpr rfl, Cond.after_iff.mpr (eq_i res_at (Term.int_eval (1)) rfl), trivial⟩ ⟨hq.1, hq.2.1, (hq.2.2.sift fun y hy => Or.inr (N y hy)).mono (by decide) (by decide)⟩⟩
theorem main_1_1 : Claimed_1_1 := comes_1 fun _ _ _ _ _ _ h hF => ⟨h.1, hF⟩
theorem main_1_2 : Claimed_1_2 := comes_1 fun _ _ _ _ _ _ h hF => ⟨h.2.1, hF⟩
end Jvm.Pilot.@@N@@
namespace Jvm.Pilot.@@N@@
open Jvm Jvm.ClassFile Sem Op Lib Jvm.Free Jvm.Stand Jvm.Pilot.@@N@@.Jvm.D
/-! MADE BY PROGRAM (witnessworld.py) out of the Statement's table words and the real class files: 26 classes; the members and pool entries that the words name. The judged class is class 1, her method 1. -/
namespace start1
open Jvm.ClassFile
def u (s : String) : CpInfo := .utf8 (stringToUtf16 s)
/-- a pool by its gaps: so many unusable entries, then the entry; so many at the end -/
def gap : Nat → List CpInfo → List CpInfo
  | 0, r => r
  | n + 1, r => .unusable :: gap n r
def poolList (es : List (Nat × CpInfo)) (last : Nat) : List CpInfo := es.foldr (fun e r => gap e.1 (e.2 :: r)) (gap last [])
def pool (es : List (Nat × CpInfo)) (last : Nat) : Array CpInfo := ⟨poolList es last⟩
def fileOf (pool : Array CpInfo) (this : Nat) (attrs : Array Attribute := #[]) (ms : Array MethodInfo := #[]) (fl : Nat := 33) (sup : Nat := 0) (ifs : Array Nat := #[]) (fds : Array FieldInfo := #[]) : ClassFile where
  minorVersion := 0
  majorVersion := 65
  constantPool := pool
  accessFlags := fl
  thisClass := this
  superClass := sup
  interfaces := ifs
  fields := fds
  methods := ms
  attributes := attrs
def plain (name : String) (sup : Option ClassId) : Class where
  name := name
  kind := .ordinary
  loader := none
  accessFlags := 33
  super := sup
  interfaces := #[]
  cf := none
  fields := #[]
  methods := #[]
  instanceTypes := #[]
  staticTypes := #[]
  resolved := #[]
  callSites := []
  init := .initialized
  statics := none
  mirror := none

def pool0 : Array CpInfo := pool [(5, u "<init>"), (0, u "()V"), (1, .class_ 10), (1, u "java/lang/Object")] 113

def k0c0 : Code := { maxStack := 0, maxLocals := 1, code := object_method_1_code, exceptionTable := #[], attributes := #[] }
def k0m0 : Method := { name := "<init>", desc := "()V", sig := { parameters := [], returnType := none }, accessFlags := 1, code := some k0c0 }
/-- java/lang/Object -/
def k0 : Class := { plain "java/lang/Object" none with
  accessFlags := 33
  interfaces := #[]
  cf := some (fileOf pool0 8 #[] #[{ accessFlags := 1, nameIndex := 5, descriptorIndex := 6, attributes := #[] }] 33 0 #[] #[])
  fields := #[]
  methods := #[k0m0]
  instanceTypes := #[]
  staticTypes := #[]
  resolved := Array.replicate 124 none
  statics := none }

def pool1 : Array CpInfo := pool [(2, .class_ 4), (0, .nameAndType 5 6), (0, u "java/lang/Object"), (0, u "<init>"), (0, u "()V"), (0, .integer 2147483647), (2, .class_ 11), (0, u "java/util/ArrayList"), (0, .methodref 10 3), (0, .class_ 14), (0, u "com/example/enact/enact/Classification$Flat"), (0, .methodref 13 16), (0, .nameAndType 5 17), (0, u "(III)V"), (0, .interfaceMethodref 19 20), (0, .class_ 21), (0, .nameAndType 22 23), (0, u "java/util/List"), (0, u "add"), (0, u "(Ljava/lang/Object;)Z"), (0, .class_ 25), (0, u "com/example/enact/enact/FeederAcceleration"), (0, .methodref 24 27), (0, .nameAndType 5 28), (0, u "(ILjava/util/List;)V"), (0, .methodref 24 30), (0, .nameAndType 31 32), (0, u "accelerate"), (0, u "(II[I)Z"), (0, .class_ 34), (0, u "com/example/enact/enact/FeederAccelerationAcceleratePinLaw"), (2, u "law"), (0, u "(IIIII)Z")] 9

def k1m0 : Method := { name := "<init>", desc := "()V", sig := { parameters := [], returnType := none }, accessFlags := 1, code := none }
def k1c1 : Code := { maxStack := 7, maxLocals := 23, code := code, exceptionTable := #[], attributes := #[] }
def k1m1 : Method := { name := "law", desc := "(IIIII)Z", sig := { parameters := [.int, .int, .int, .int, .int], returnType := some .boolean }, accessFlags := 9, code := some k1c1 }
/-- com/example/enact/enact/FeederAccelerationAcceleratePinLaw -/
def k1 : Class := { plain "com/example/enact/enact/FeederAccelerationAcceleratePinLaw" (some 0) with
  accessFlags := 49
  interfaces := #[]
  cf := some (fileOf pool1 33 #[] #[{ accessFlags := 1, nameIndex := 5, descriptorIndex := 6, attributes := #[] }, { accessFlags := 9, nameIndex := 37, descriptorIndex := 38, attributes := #[] }] 49 2 #[] #[])
  fields := #[]
  methods := #[k1m0, k1m1]
  instanceTypes := #[]
  staticTypes := #[]
  resolved := Array.replicate 48 none
  statics := none }

def pool2 : Array CpInfo := pool [(8, .class_ 10), (1, u "java/lang/Iterable"), (24, .class_ 36), (0, u "java/lang/Object")] 25

/-- java/lang/Iterable -/
def k2 : Class := { plain "java/lang/Iterable" (some 0) with
  accessFlags := 1537
  interfaces := #[]
  cf := some (fileOf pool2 8 #[] #[] 1537 35 #[] #[])
  fields := #[]
  methods := #[]
  instanceTypes := #[]
  staticTypes := #[]
  resolved := Array.replicate 62 none
  statics := none }

def pool3 : Array CpInfo := pool [(10, .class_ 12), (1, u "java/util/Collection"), (47, .class_ 61), (0, u "java/lang/Object"), (0, .class_ 63), (0, u "java/lang/Iterable")] 51

/-- java/util/Collection -/
def k3 : Class := { plain "java/util/Collection" (some 0) with
  accessFlags := 1537
  interfaces := #[2]
  cf := some (fileOf pool3 10 #[] #[] 1537 60 #[62] #[])
  fields := #[]
  methods := #[]
  instanceTypes := #[]
  staticTypes := #[]
  resolved := Array.replicate 115 none
  statics := none }

def pool4 : Array CpInfo := pool [(1, .methodref 2 3), (0, .class_ 4), (0, .nameAndType 5 6), (0, u "java/lang/Object"), (0, u "<init>"), (0, u "()V"), (1, .class_ 10), (1, u "java/util/AbstractCollection"), (66, .class_ 78), (0, u "java/util/Collection")] 81

def k4c0 : Code := { maxStack := 1, maxLocals := 1, code := jdk_22_method_1_code, exceptionTable := #[], attributes := #[] }
def k4m0 : Method := { name := "<init>", desc := "()V", sig := { parameters := [], returnType := none }, accessFlags := 4, code := some k4c0 }
/-- java/util/AbstractCollection -/
def k4 : Class := { plain "java/util/AbstractCollection" (some 0) with
  accessFlags := 1057
  interfaces := #[3]
  cf := some (fileOf pool4 8 #[] #[{ accessFlags := 4, nameIndex := 5, descriptorIndex := 6, attributes := #[] }] 1057 2 #[77] #[])
  fields := #[]
  methods := #[k4m0]
  instanceTypes := #[]
  staticTypes := #[]
  resolved := Array.replicate 160 none
  statics := none }

def pool5 : Array CpInfo := pool [(8, .class_ 10), (1, u "java/util/SequencedCollection"), (15, .class_ 27), (0, u "java/lang/Object"), (0, .class_ 29), (0, u "java/util/Collection")] 27

/-- java/util/SequencedCollection -/
def k5 : Class := { plain "java/util/SequencedCollection" (some 0) with
  accessFlags := 1537
  interfaces := #[3]
  cf := some (fileOf pool5 8 #[] #[] 1537 26 #[28] #[])
  fields := #[]
  methods := #[]
  instanceTypes := #[]
  staticTypes := #[]
  resolved := Array.replicate 57 none
  statics := none }

def pool6 : Array CpInfo := pool [(8, .class_ 10), (1, u "java/util/List"), (7, u "()Z"), (41, u "add"), (3, u "(Ljava/lang/Object;)Z"), (2, u "isEmpty"), (35, .class_ 104), (0, u "java/lang/Object"), (15, .class_ 121), (0, u "java/util/SequencedCollection"), (1, u "iterator"), (0, u "()Ljava/util/Iterator;")] 126

def k6m0 : Method := { name := "isEmpty", desc := "()Z", sig := { parameters := [], returnType := some .boolean }, accessFlags := 1025, code := none }
def k6m1 : Method := { name := "iterator", desc := "()Ljava/util/Iterator;", sig := { parameters := [], returnType := some (.object "java/util/Iterator") }, accessFlags := 1025, code := none }
def k6m2 : Method := { name := "add", desc := "(Ljava/lang/Object;)Z", sig := { parameters := [(.object "java/lang/Object")], returnType := some .boolean }, accessFlags := 1025, code := none }
/-- java/util/List -/
def k6 : Class := { plain "java/util/List" (some 0) with
  accessFlags := 1537
  interfaces := #[5]
  cf := some (fileOf pool6 8 #[] #[{ accessFlags := 1025, nameIndex := 67, descriptorIndex := 18, attributes := #[] }, { accessFlags := 1025, nameIndex := 123, descriptorIndex := 124, attributes := #[] }, { accessFlags := 1025, nameIndex := 60, descriptorIndex := 64, attributes := #[] }] 1537 103 #[120] #[])
  fields := #[]
  methods := #[k6m0, k6m1, k6m2]
  instanceTypes := #[]
  staticTypes := #[]
  resolved := Array.replicate 251 none
  statics := none }

def pool7 : Array CpInfo := pool [(1, .methodref 2 3), (0, .class_ 4), (0, .nameAndType 5 6), (0, u "java/util/AbstractCollection"), (0, u "<init>"), (0, u "()V"), (0, .fieldref 8 9), (0, .class_ 10), (0, .nameAndType 11 12), (0, u "java/util/AbstractList"), (0, u "modCount"), (0, u "I"), (64, .class_ 78), (0, u "java/util/AbstractList$Itr"), (3, .class_ 83), (0, u "java/util/AbstractList$ListItr"), (9, .class_ 94), (0, u "java/util/AbstractList$RandomAccessSubList"), (3, .class_ 99), (0, u "java/util/AbstractList$SubList"), (33, .class_ 134), (0, u "java/util/List"), (73, .class_ 209), (0, u "java/util/AbstractList$SubList$1"), (0, .class_ 211), (0, u "java/util/AbstractList$RandomAccessSpliterator")] 6

def k7c0 : Code := { maxStack := 2, maxLocals := 1, code := jdk_39_method_1_code, exceptionTable := #[], attributes := #[] }
def k7m0 : Method := { name := "<init>", desc := "()V", sig := { parameters := [], returnType := none }, accessFlags := 4, code := some k7c0 }
/-- java/util/AbstractList -/
def k7 : Class := { plain "java/util/AbstractList" (some 4) with
  accessFlags := 1057
  interfaces := #[6]
  cf := some (fileOf pool7 8 #[.nestMembers #[93, 98, 208, 210, 82, 77]] #[{ accessFlags := 4, nameIndex := 5, descriptorIndex := 6, attributes := #[] }] 1057 2 #[133] #[{ accessFlags := 132, nameIndex := 11, descriptorIndex := 12, attributes := #[] }])
  fields := #[{ name := "modCount", type := .int, accessFlags := 132, slot := 0, constantValue := 0 }]
  methods := #[k7m0]
  instanceTypes := #[.int]
  staticTypes := #[]
  resolved := Array.replicate 218 none
  statics := none }

def pool8 : Array CpInfo := pool [(1, .class_ 2), (0, u "java/util/RandomAccess"), (0, .class_ 4), (0, u "java/lang/Object")] 2

/-- java/util/RandomAccess -/
def k8 : Class := { plain "java/util/RandomAccess" (some 0) with
  accessFlags := 1537
  interfaces := #[]
  cf := some (fileOf pool8 1 #[] #[] 1537 3 #[] #[])
  fields := #[]
  methods := #[]
  instanceTypes := #[]
  staticTypes := #[]
  resolved := Array.replicate 7 none
  statics := none }

def pool9 : Array CpInfo := pool [(1, .class_ 2), (0, u "java/lang/Cloneable"), (0, .class_ 4), (0, u "java/lang/Object")] 2

/-- java/lang/Cloneable -/
def k9 : Class := { plain "java/lang/Cloneable" (some 0) with
  accessFlags := 1537
  interfaces := #[]
  cf := some (fileOf pool9 1 #[] #[] 1537 3 #[] #[])
  fields := #[]
  methods := #[]
  instanceTypes := #[]
  staticTypes := #[]
  resolved := Array.replicate 7 none
  statics := none }

def pool10 : Array CpInfo := pool [(1, .class_ 2), (0, u "java/io/Serializable"), (0, .class_ 4), (0, u "java/lang/Object")] 2

/-- java/io/Serializable -/
def k10 : Class := { plain "java/io/Serializable" (some 0) with
  accessFlags := 1537
  interfaces := #[]
  cf := some (fileOf pool10 1 #[] #[] 1537 3 #[] #[])
  fields := #[]
  methods := #[]
  instanceTypes := #[]
  staticTypes := #[]
  resolved := Array.replicate 7 none
  statics := none }

def pool11 : Array CpInfo := pool [(1, .methodref 2 3), (0, .class_ 4), (0, .nameAndType 5 6), (0, u "java/util/AbstractList"), (0, u "<init>"), (0, u "()V"), (0, .class_ 8), (0, u "java/lang/Object"), (0, .fieldref 10 11), (0, .class_ 12), (0, .nameAndType 13 14), (0, u "java/util/ArrayList"), (0, u "elementData"), (0, u "[Ljava/lang/Object;"), (2, u "EMPTY_ELEMENTDATA"), (21, .fieldref 10 40), (0, .nameAndType 41 14), (0, u "DEFAULTCAPACITY_EMPTY_ELEMENTDATA"), (5, u "()[Ljava/lang/Object;"), (0, .fieldref 10 49), (0, .nameAndType 50 51), (0, u "size"), (0, u "I"), (11, .fieldref 10 64), (0, .nameAndType 65 51), (0, u "modCount"), (3, .methodref 10 70), (0, .nameAndType 71 72), (0, u "grow"), (0, u "(I)[Ljava/lang/Object;"), (6, .methodref 80 81), (0, .class_ 82), (0, .nameAndType 83 84), (0, u "java/lang/Math"), (0, u "max"), (0, u "(II)I"), (11, u "(Ljava/lang/Object;)Z"), (32, .methodref 10 130), (0, .nameAndType 71 47), (0, .methodref 10 132), (0, .nameAndType 133 134), (0, u "add"), (0, u "(Ljava/lang/Object;[Ljava/lang/Object;I)V"), (13, .class_ 149), (0, u "java/util/List"), (16, u "iterator"), (0, u "()Ljava/util/Iterator;"), (5, u "()Z"), (88, .class_ 263), (0, u "java/util/ArrayList$ListItr"), (3, .class_ 268), (0, u "java/util/ArrayList$Itr"), (0, .methodref 267 270), (0, .nameAndType 5 271), (0, u "(Ljava/util/ArrayList;)V"), (4, .class_ 277), (0, u "java/util/ArrayList$SubList"), (12, .class_ 291), (0, u "java/util/ArrayList$ArrayListSpliterator"), (37, .class_ 330), (0, u "java/util/RandomAccess"), (0, .class_ 332), (0, u "java/lang/Cloneable"), (0, .class_ 334), (0, u "java/io/Serializable"), (0, u "serialVersionUID"), (0, u "J"), (3, u "DEFAULT_CAPACITY"), (22, u "isEmpty"), (136, .class_ 501), (0, u "java/util/ArrayList$SubList$2"), (0, .class_ 503), (0, u "java/util/ArrayList$SubList$1")] 5

def k11c0 : Code := { maxStack := 2, maxLocals := 1, code := jdk_38_method_2_code, exceptionTable := #[], attributes := #[] }
def k11m0 : Method := { name := "<init>", desc := "()V", sig := { parameters := [], returnType := none }, accessFlags := 1, code := some k11c0 }
def k11c1 : Code := { maxStack := 4, maxLocals := 4, code := jdk_38_method_6_code, exceptionTable := #[], attributes := #[] }
def k11m1 : Method := { name := "grow", desc := "(I)[Ljava/lang/Object;", sig := { parameters := [.int], returnType := some (.array (.object "java/lang/Object")) }, accessFlags := 2, code := some k11c1 }
def k11c2 : Code := { maxStack := 3, maxLocals := 1, code := jdk_38_method_7_code, exceptionTable := #[], attributes := #[] }
def k11m2 : Method := { name := "grow", desc := "()[Ljava/lang/Object;", sig := { parameters := [], returnType := some (.array (.object "java/lang/Object")) }, accessFlags := 2, code := some k11c2 }
def k11c3 : Code := { maxStack := 1, maxLocals := 1, code := jdk_38_method_9_code, exceptionTable := #[], attributes := #[] }
def k11m3 : Method := { name := "isEmpty", desc := "()Z", sig := { parameters := [], returnType := some .boolean }, accessFlags := 1, code := some k11c3 }
def k11c4 : Code := { maxStack := 3, maxLocals := 4, code := jdk_38_method_24_code, exceptionTable := #[], attributes := #[] }
def k11m4 : Method := { name := "add", desc := "(Ljava/lang/Object;[Ljava/lang/Object;I)V", sig := { parameters := [(.object "java/lang/Object"), (.array (.object "java/lang/Object")), .int], returnType := none }, accessFlags := 2, code := some k11c4 }
def k11c5 : Code := { maxStack := 4, maxLocals := 2, code := jdk_38_method_25_code, exceptionTable := #[], attributes := #[] }
def k11m5 : Method := { name := "add", desc := "(Ljava/lang/Object;)Z", sig := { parameters := [(.object "java/lang/Object")], returnType := some .boolean }, accessFlags := 1, code := some k11c5 }
def k11c6 : Code := { maxStack := 3, maxLocals := 1, code := jdk_38_method_55_code, exceptionTable := #[], attributes := #[] }
def k11m6 : Method := { name := "iterator", desc := "()Ljava/util/Iterator;", sig := { parameters := [], returnType := some (.object "java/util/Iterator") }, accessFlags := 1, code := some k11c6 }
/-- java/util/ArrayList -/
def k11 : Class := { plain "java/util/ArrayList" (some 7) with
  accessFlags := 33
  interfaces := #[6, 8, 9, 10]
  cf := some (fileOf pool11 10 #[.nestMembers #[290, 276, 500, 502, 262, 267]] #[{ accessFlags := 1, nameIndex := 5, descriptorIndex := 6, attributes := #[] }, { accessFlags := 2, nameIndex := 71, descriptorIndex := 72, attributes := #[] }, { accessFlags := 2, nameIndex := 71, descriptorIndex := 47, attributes := #[] }, { accessFlags := 1, nameIndex := 363, descriptorIndex := 173, attributes := #[] }, { accessFlags := 2, nameIndex := 133, descriptorIndex := 134, attributes := #[] }, { accessFlags := 1, nameIndex := 133, descriptorIndex := 96, attributes := #[] }, { accessFlags := 1, nameIndex := 166, descriptorIndex := 167, attributes := #[] }] 33 2 #[148, 329, 331, 333] #[{ accessFlags := 26, nameIndex := 335, descriptorIndex := 336, attributes := #[] }, { accessFlags := 26, nameIndex := 340, descriptorIndex := 51, attributes := #[] }, { accessFlags := 26, nameIndex := 17, descriptorIndex := 14, attributes := #[] }, { accessFlags := 26, nameIndex := 41, descriptorIndex := 14, attributes := #[] }, { accessFlags := 128, nameIndex := 13, descriptorIndex := 14, attributes := #[] }, { accessFlags := 2, nameIndex := 50, descriptorIndex := 51, attributes := #[] }])
  fields := #[{ name := "serialVersionUID", type := .long, accessFlags := 26, slot := 0, constantValue := 0 }, { name := "DEFAULT_CAPACITY", type := .int, accessFlags := 26, slot := 1, constantValue := 0 }, { name := "EMPTY_ELEMENTDATA", type := (.array (.object "java/lang/Object")), accessFlags := 26, slot := 2, constantValue := 0 }, { name := "DEFAULTCAPACITY_EMPTY_ELEMENTDATA", type := (.array (.object "java/lang/Object")), accessFlags := 26, slot := 3, constantValue := 0 }, { name := "elementData", type := (.array (.object "java/lang/Object")), accessFlags := 128, slot := 1, constantValue := 0 }, { name := "size", type := .int, accessFlags := 2, slot := 2, constantValue := 0 }]
  methods := #[k11m0, k11m1, k11m2, k11m3, k11m4, k11m5, k11m6]
  instanceTypes := #[.int, (.array (.object "java/lang/Object")), .int]
  staticTypes := #[.long, .int, (.array (.object "java/lang/Object")), (.array (.object "java/lang/Object"))]
  resolved := Array.replicate 509 none
  statics := some 0 }

def pool12 : Array CpInfo := pool [(49, .class_ 50), (0, u "com/example/enact/enact/Acceleration"), (0, .class_ 52), (0, u "java/lang/Object"), (18, .class_ 72), (0, u "com/example/enact/enact/Acceleration$Search")] 3

/-- com/example/enact/enact/Acceleration -/
def k12 : Class := { plain "com/example/enact/enact/Acceleration" (some 0) with
  accessFlags := 1536
  interfaces := #[]
  cf := some (fileOf pool12 49 #[.nestMembers #[71]] #[] 1536 51 #[] #[])
  fields := #[]
  methods := #[]
  instanceTypes := #[]
  staticTypes := #[]
  resolved := Array.replicate 76 none
  statics := none }

def pool13 : Array CpInfo := pool [(1, .class_ 2), (0, u "com/example/enact/enact/Acceleration$Search"), (0, .class_ 4), (0, u "java/lang/Object"), (7, .class_ 13), (0, u "com/example/enact/enact/Acceleration")] 10

/-- com/example/enact/enact/Acceleration$Search -/
def k13 : Class := { plain "com/example/enact/enact/Acceleration$Search" (some 0) with
  accessFlags := 1537
  interfaces := #[]
  cf := some (fileOf pool13 1 #[.nestHost 12] #[] 1537 3 #[] #[])
  fields := #[]
  methods := #[]
  instanceTypes := #[]
  staticTypes := #[]
  resolved := Array.replicate 24 none
  statics := none }

def pool14 : Array CpInfo := pool [(1, .methodref 2 3), (0, .class_ 4), (0, .nameAndType 5 6), (0, u "java/lang/Object"), (0, u "<init>"), (0, u "()V"), (0, .fieldref 8 9), (0, .class_ 10), (0, .nameAndType 11 12), (0, u "com/example/enact/enact/FeederAcceleration"), (0, u "fed"), (0, u "[I"), (0, .methodref 14 15), (0, .class_ 16), (0, .nameAndType 17 18), (0, u "java/util/Arrays"), (0, u "fill"), (0, u "([II)V"), (0, .interfaceMethodref 20 21), (0, .class_ 22), (0, .nameAndType 23 24), (0, u "java/util/List"), (0, u "iterator"), (0, u "()Ljava/util/Iterator;"), (0, .interfaceMethodref 26 27), (0, .class_ 28), (0, .nameAndType 29 30), (0, u "java/util/Iterator"), (0, u "hasNext"), (0, u "()Z"), (0, .interfaceMethodref 26 32), (0, .nameAndType 33 34), (0, u "next"), (0, u "()Ljava/lang/Object;"), (0, .class_ 36), (0, u "com/example/enact/enact/Classification$Flat"), (0, .methodref 35 38), (0, .nameAndType 39 40), (0, u "feeder"), (0, u "()I"), (0, .methodref 35 42), (0, .nameAndType 43 40), (0, u "place"), (0, .interfaceMethodref 20 45), (0, .nameAndType 46 30), (0, u "isEmpty"), (0, .fieldref 8 48), (0, .nameAndType 49 50), (0, u "accelerates"), (0, u "Z"), (2, .integer 2147483647), (0, .class_ 55), (0, u "com/example/enact/enact/Acceleration"), (0, .class_ 57), (0, u "com/example/enact/enact/Acceleration$Search"), (0, u "(ILjava/util/List;)V"), (12, u "accelerate"), (0, u "(II[I)Z")] 7

def k14c0 : Code := { maxStack := 3, maxLocals := 5, code := prog_36_method_1_code, exceptionTable := #[], attributes := #[] }
def k14m0 : Method := { name := "<init>", desc := "(ILjava/util/List;)V", sig := { parameters := [.int, (.object "java/util/List")], returnType := none }, accessFlags := 0, code := some k14c0 }
def k14c1 : Code := { maxStack := 3, maxLocals := 6, code := prog_36_method_7_code, exceptionTable := #[], attributes := #[] }
def k14m1 : Method := { name := "accelerate", desc := "(II[I)Z", sig := { parameters := [.int, .int, (.array .int)], returnType := some .boolean }, accessFlags := 1, code := some k14c1 }
/-- com/example/enact/enact/FeederAcceleration -/
def k14 : Class := { plain "com/example/enact/enact/FeederAcceleration" (some 0) with
  accessFlags := 48
  interfaces := #[12, 13]
  cf := some (fileOf pool14 8 #[] #[{ accessFlags := 0, nameIndex := 5, descriptorIndex := 58, attributes := #[] }, { accessFlags := 1, nameIndex := 71, descriptorIndex := 72, attributes := #[] }] 48 2 #[54, 56] #[{ accessFlags := 18, nameIndex := 11, descriptorIndex := 12, attributes := #[] }, { accessFlags := 18, nameIndex := 49, descriptorIndex := 50, attributes := #[] }])
  fields := #[{ name := "fed", type := (.array .int), accessFlags := 18, slot := 0, constantValue := 0 }, { name := "accelerates", type := .boolean, accessFlags := 18, slot := 1, constantValue := 0 }]
  methods := #[k14m0, k14m1]
  instanceTypes := #[(.array .int), .boolean]
  staticTypes := #[]
  resolved := Array.replicate 80 none
  statics := none }

def pool15 : Array CpInfo := pool [(2, .class_ 4), (1, u "java/lang/Object"), (0, u "<init>"), (0, u "()V"), (7, .class_ 16), (1, u "java/util/Arrays"), (57, .class_ 76), (1, u "java/util/Arrays$NaturalOrder"), (36, .class_ 115), (1, u "java/util/Arrays$LegacyMergeSort"), (1, u "Z"), (257, .class_ 376), (0, u "java/util/Arrays$ArrayList"), (68, u "$assertionsDisabled"), (269, u "MIN_ARRAY_SORT_GRAN"), (0, u "I"), (2, u "INSERTIONSORT_THRESHOLD"), (120, u "fill"), (4, u "([II)V"), (129, .class_ 976), (0, u "java/util/Arrays$ArrayItr")] 52

def k15m0 : Method := { name := "<init>", desc := "()V", sig := { parameters := [], returnType := none }, accessFlags := 2, code := none }
def k15c1 : Code := { maxStack := 3, maxLocals := 4, code := jdk_65_method_103_code, exceptionTable := #[], attributes := #[] }
def k15m1 : Method := { name := "fill", desc := "([II)V", sig := { parameters := [(.array .int), .int], returnType := none }, accessFlags := 9, code := some k15c1 }
/-- java/util/Arrays -/
def k15 : Class := { plain "java/util/Arrays" (some 0) with
  accessFlags := 49
  interfaces := #[]
  cf := some (fileOf pool15 14 #[.nestMembers #[975, 375, 113, 74]] #[{ accessFlags := 2, nameIndex := 5, descriptorIndex := 6, attributes := #[] }, { accessFlags := 9, nameIndex := 840, descriptorIndex := 845, attributes := #[] }] 49 2 #[] #[{ accessFlags := 26, nameIndex := 715, descriptorIndex := 716, attributes := #[] }, { accessFlags := 26, nameIndex := 719, descriptorIndex := 716, attributes := #[] }, { accessFlags := 4120, nameIndex := 445, descriptorIndex := 117, attributes := #[] }])
  fields := #[{ name := "MIN_ARRAY_SORT_GRAN", type := .int, accessFlags := 26, slot := 0, constantValue := 0 }, { name := "INSERTIONSORT_THRESHOLD", type := .int, accessFlags := 26, slot := 1, constantValue := 0 }, { name := "$assertionsDisabled", type := .boolean, accessFlags := 4120, slot := 2, constantValue := 0 }]
  methods := #[k15m0, k15m1]
  instanceTypes := #[]
  staticTypes := #[.int, .int, .boolean]
  resolved := Array.replicate 1029 none
  statics := none }

def pool16 : Array CpInfo := pool [(16, .class_ 18), (1, u "java/util/Iterator"), (0, u "hasNext"), (0, u "()Z"), (2, u "next"), (0, u "()Ljava/lang/Object;"), (6, .class_ 32), (0, u "java/lang/Object")] 20

def k16m0 : Method := { name := "hasNext", desc := "()Z", sig := { parameters := [], returnType := some .boolean }, accessFlags := 1025, code := none }
def k16m1 : Method := { name := "next", desc := "()Ljava/lang/Object;", sig := { parameters := [], returnType := some (.object "java/lang/Object") }, accessFlags := 1025, code := none }
/-- java/util/Iterator -/
def k16 : Class := { plain "java/util/Iterator" (some 0) with
  accessFlags := 1537
  interfaces := #[]
  cf := some (fileOf pool16 16 #[] #[{ accessFlags := 1025, nameIndex := 19, descriptorIndex := 20, attributes := #[] }, { accessFlags := 1025, nameIndex := 23, descriptorIndex := 24, attributes := #[] }] 1537 31 #[] #[])
  fields := #[]
  methods := #[k16m0, k16m1]
  instanceTypes := #[]
  staticTypes := #[]
  resolved := Array.replicate 53 none
  statics := none }

def pool17 : Array CpInfo := pool [(1, .fieldref 2 3), (0, .class_ 4), (0, .nameAndType 5 6), (0, u "java/util/ArrayList$Itr"), (0, u "this$0"), (0, u "Ljava/util/ArrayList;"), (0, .methodref 8 9), (0, .class_ 10), (0, .nameAndType 11 12), (0, u "java/lang/Object"), (0, u "<init>"), (0, u "()V"), (0, .fieldref 2 14), (0, .nameAndType 15 16), (0, u "lastRet"), (0, u "I"), (0, .fieldref 18 19), (0, .class_ 20), (0, .nameAndType 21 16), (0, u "java/util/ArrayList"), (0, u "modCount"), (0, .fieldref 2 23), (0, .nameAndType 24 16), (0, u "expectedModCount"), (0, .fieldref 2 26), (0, .nameAndType 27 16), (0, u "cursor"), (0, .fieldref 18 29), (0, .nameAndType 30 16), (0, u "size"), (0, .methodref 2 32), (0, .nameAndType 33 12), (0, u "checkForComodification"), (3, .fieldref 18 38), (0, .nameAndType 39 40), (0, u "elementData"), (0, u "[Ljava/lang/Object;"), (28, .class_ 70), (0, u "java/util/Iterator"), (0, u "(Ljava/util/ArrayList;)V"), (8, u "hasNext"), (0, u "()Z"), (1, u "next"), (0, u "()Ljava/lang/Object;")] 19

def k17c0 : Code := { maxStack := 2, maxLocals := 2, code := jdk_49_method_1_code, exceptionTable := #[], attributes := #[] }
def k17m0 : Method := { name := "<init>", desc := "(Ljava/util/ArrayList;)V", sig := { parameters := [(.object "java/util/ArrayList")], returnType := none }, accessFlags := 0, code := some k17c0 }
def k17c1 : Code := { maxStack := 2, maxLocals := 1, code := jdk_49_method_2_code, exceptionTable := #[], attributes := #[] }
def k17m1 : Method := { name := "hasNext", desc := "()Z", sig := { parameters := [], returnType := some .boolean }, accessFlags := 1, code := some k17c1 }
def k17c2 : Code := { maxStack := 4, maxLocals := 3, code := jdk_49_method_3_code, exceptionTable := #[], attributes := #[] }
def k17m2 : Method := { name := "next", desc := "()Ljava/lang/Object;", sig := { parameters := [], returnType := some (.object "java/lang/Object") }, accessFlags := 1, code := some k17c2 }
def k17c3 : Code := { maxStack := 2, maxLocals := 1, code := jdk_49_method_6_code, exceptionTable := #[], attributes := #[] }
def k17m3 : Method := { name := "checkForComodification", desc := "()V", sig := { parameters := [], returnType := none }, accessFlags := 16, code := some k17c3 }
/-- java/util/ArrayList$Itr -/
def k17 : Class := { plain "java/util/ArrayList$Itr" (some 0) with
  accessFlags := 32
  interfaces := #[16]
  cf := some (fileOf pool17 2 #[.nestHost 18] #[{ accessFlags := 0, nameIndex := 11, descriptorIndex := 71, attributes := #[] }, { accessFlags := 1, nameIndex := 80, descriptorIndex := 81, attributes := #[] }, { accessFlags := 1, nameIndex := 83, descriptorIndex := 84, attributes := #[] }, { accessFlags := 16, nameIndex := 33, descriptorIndex := 12, attributes := #[] }] 32 8 #[69] #[{ accessFlags := 0, nameIndex := 27, descriptorIndex := 16, attributes := #[] }, { accessFlags := 0, nameIndex := 15, descriptorIndex := 16, attributes := #[] }, { accessFlags := 0, nameIndex := 24, descriptorIndex := 16, attributes := #[] }, { accessFlags := 4112, nameIndex := 5, descriptorIndex := 6, attributes := #[] }])
  fields := #[{ name := "cursor", type := .int, accessFlags := 0, slot := 0, constantValue := 0 }, { name := "lastRet", type := .int, accessFlags := 0, slot := 1, constantValue := 0 }, { name := "expectedModCount", type := .int, accessFlags := 0, slot := 2, constantValue := 0 }, { name := "this$0", type := (.object "java/util/ArrayList"), accessFlags := 4112, slot := 3, constantValue := 0 }]
  methods := #[k17m0, k17m1, k17m2, k17m3]
  instanceTypes := #[.int, .int, .int, (.object "java/util/ArrayList")]
  staticTypes := #[]
  resolved := Array.replicate 104 none
  statics := none }

def pool18 : Array CpInfo := pool [(1, .methodref 2 3), (0, .class_ 4), (0, .nameAndType 5 6), (0, u "java/lang/Object"), (0, u "<init>"), (0, u "()V"), (0, .class_ 8), (0, u "java/lang/Record")] 13

def k18c0 : Code := { maxStack := 1, maxLocals := 1, code := jdk_30_method_1_code, exceptionTable := #[], attributes := #[] }
def k18m0 : Method := { name := "<init>", desc := "()V", sig := { parameters := [], returnType := none }, accessFlags := 4, code := some k18c0 }
/-- java/lang/Record -/
def k18 : Class := { plain "java/lang/Record" (some 0) with
  accessFlags := 1057
  interfaces := #[]
  cf := some (fileOf pool18 7 #[] #[{ accessFlags := 4, nameIndex := 5, descriptorIndex := 6, attributes := #[] }] 1057 2 #[] #[])
  fields := #[]
  methods := #[k18m0]
  instanceTypes := #[]
  staticTypes := #[]
  resolved := Array.replicate 22 none
  statics := none }

def pool19 : Array CpInfo := pool [(1, .methodref 2 3), (0, .class_ 4), (0, .nameAndType 5 6), (0, u "java/lang/Record"), (0, u "<init>"), (0, u "()V"), (0, .fieldref 8 9), (0, .class_ 10), (0, .nameAndType 11 12), (0, u "com/example/enact/enact/Classification$Flat"), (0, u "place"), (0, u "I"), (0, .fieldref 8 14), (0, .nameAndType 15 12), (0, u "feeder"), (0, .fieldref 8 17), (0, .nameAndType 18 12), (0, u "drainer"), (12, u "(III)V"), (4, u "()I"), (4, .class_ 42), (0, u "com/example/enact/enact/Classification")] 21

def k19c0 : Code := { maxStack := 2, maxLocals := 4, code := prog_6_method_1_code, exceptionTable := #[], attributes := #[] }
def k19m0 : Method := { name := "<init>", desc := "(III)V", sig := { parameters := [.int, .int, .int], returnType := none }, accessFlags := 1, code := some k19c0 }
def k19c1 : Code := { maxStack := 1, maxLocals := 1, code := prog_6_method_5_code, exceptionTable := #[], attributes := #[] }
def k19m1 : Method := { name := "place", desc := "()I", sig := { parameters := [], returnType := some .int }, accessFlags := 1, code := some k19c1 }
def k19c2 : Code := { maxStack := 1, maxLocals := 1, code := prog_6_method_6_code, exceptionTable := #[], attributes := #[] }
def k19m2 : Method := { name := "feeder", desc := "()I", sig := { parameters := [], returnType := some .int }, accessFlags := 1, code := some k19c2 }
/-- com/example/enact/enact/Classification$Flat -/
def k19 : Class := { plain "com/example/enact/enact/Classification$Flat" (some 18) with
  accessFlags := 49
  interfaces := #[]
  cf := some (fileOf pool19 8 #[.nestHost 41] #[{ accessFlags := 1, nameIndex := 5, descriptorIndex := 31, attributes := #[] }, { accessFlags := 1, nameIndex := 11, descriptorIndex := 36, attributes := #[] }, { accessFlags := 1, nameIndex := 15, descriptorIndex := 36, attributes := #[] }] 49 2 #[] #[{ accessFlags := 18, nameIndex := 11, descriptorIndex := 12, attributes := #[] }, { accessFlags := 18, nameIndex := 15, descriptorIndex := 12, attributes := #[] }, { accessFlags := 18, nameIndex := 18, descriptorIndex := 12, attributes := #[] }])
  fields := #[{ name := "place", type := .int, accessFlags := 18, slot := 0, constantValue := 0 }, { name := "feeder", type := .int, accessFlags := 18, slot := 1, constantValue := 0 }, { name := "drainer", type := .int, accessFlags := 18, slot := 2, constantValue := 0 }]
  methods := #[k19m0, k19m1, k19m2]
  instanceTypes := #[.int, .int, .int]
  staticTypes := #[]
  resolved := Array.replicate 64 none
  statics := none }

def pool20 : Array CpInfo := pool [(1, .class_ 2), (0, u "java/lang/Math"), (1, .class_ 6), (1, u "java/lang/Object"), (0, u "<init>"), (0, u "()V"), (89, .class_ 100), (1, u "java/lang/Math$RandomNumberGeneratorHolder"), (71, u "negativeZeroFloatBits"), (0, u "J"), (2, u "negativeZeroDoubleBits"), (21, u "max"), (46, u "$assertionsDisabled"), (0, u "Z"), (88, u "(II)I"), (2, u "twoToTheDoubleScaleDown"), (0, u "D"), (4, u "twoToTheDoubleScaleUp"), (9, u "E"), (3, u "PI"), (2, u "TAU"), (2, u "DEGREES_TO_RADIANS"), (0, u "RADIANS_TO_DEGREES")] 94

def k20m0 : Method := { name := "<init>", desc := "()V", sig := { parameters := [], returnType := none }, accessFlags := 2, code := none }
def k20c1 : Code := { maxStack := 2, maxLocals := 2, code := jdk_29_method_65_code, exceptionTable := #[], attributes := #[] }
def k20m1 : Method := { name := "max", desc := "(II)I", sig := { parameters := [.int, .int], returnType := some .int }, accessFlags := 9, code := some k20c1 }
/-- java/lang/Math -/
def k20 : Class := { plain "java/lang/Math" (some 0) with
  accessFlags := 49
  interfaces := #[]
  cf := some (fileOf pool20 1 #[.nestMembers #[98]] #[{ accessFlags := 2, nameIndex := 7, descriptorIndex := 8, attributes := #[] }, { accessFlags := 9, nameIndex := 198, descriptorIndex := 335, attributes := #[] }] 49 4 #[] #[{ accessFlags := 25, nameIndex := 354, descriptorIndex := 339, attributes := #[] }, { accessFlags := 25, nameIndex := 358, descriptorIndex := 339, attributes := #[] }, { accessFlags := 25, nameIndex := 361, descriptorIndex := 339, attributes := #[] }, { accessFlags := 26, nameIndex := 364, descriptorIndex := 339, attributes := #[] }, { accessFlags := 26, nameIndex := 365, descriptorIndex := 339, attributes := #[] }, { accessFlags := 26, nameIndex := 172, descriptorIndex := 173, attributes := #[] }, { accessFlags := 26, nameIndex := 176, descriptorIndex := 173, attributes := #[] }, { accessFlags := 8, nameIndex := 344, descriptorIndex := 339, attributes := #[] }, { accessFlags := 8, nameIndex := 338, descriptorIndex := 339, attributes := #[] }, { accessFlags := 4120, nameIndex := 245, descriptorIndex := 246, attributes := #[] }])
  fields := #[{ name := "E", type := .double, accessFlags := 25, slot := 0, constantValue := 0 }, { name := "PI", type := .double, accessFlags := 25, slot := 1, constantValue := 0 }, { name := "TAU", type := .double, accessFlags := 25, slot := 2, constantValue := 0 }, { name := "DEGREES_TO_RADIANS", type := .double, accessFlags := 26, slot := 3, constantValue := 0 }, { name := "RADIANS_TO_DEGREES", type := .double, accessFlags := 26, slot := 4, constantValue := 0 }, { name := "negativeZeroFloatBits", type := .long, accessFlags := 26, slot := 5, constantValue := 0 }, { name := "negativeZeroDoubleBits", type := .long, accessFlags := 26, slot := 6, constantValue := 0 }, { name := "twoToTheDoubleScaleUp", type := .double, accessFlags := 8, slot := 7, constantValue := 0 }, { name := "twoToTheDoubleScaleDown", type := .double, accessFlags := 8, slot := 8, constantValue := 0 }, { name := "$assertionsDisabled", type := .boolean, accessFlags := 4120, slot := 9, constantValue := 0 }]
  methods := #[k20m0, k20m1]
  instanceTypes := #[]
  staticTypes := #[.double, .double, .double, .double, .double, .long, .long, .double, .double, .boolean]
  resolved := Array.replicate 460 none
  statics := none }

/-- the primitive byte -/
def k21 : Class := { plain "byte" none with kind := .primitive 'B', accessFlags := 0x411 }
/-- [B -/
def k22 : Class := { plain "[B" (some 0) with kind := .array 21 .byte, interfaces := #[9, 10], accessFlags := 1041 }

/-- the primitive int -/
def k23 : Class := { plain "int" none with kind := .primitive 'I', accessFlags := 0x411 }
/-- [I -/
def k24 : Class := { plain "[I" (some 0) with kind := .array 23 .int, interfaces := #[9, 10], accessFlags := 1041 }

/-- [Ljava/lang/Object; -/
def k25 : Class := { plain "[Ljava/lang/Object;" (some 0) with kind := .array 0 (.object "java/lang/Object"), interfaces := #[9, 10], accessFlags := 1041 }

def heap : Heap := #[{ cls := 11, slots := #[.long 0, .int 0, .ref 1, .ref 2], vm := .statics 11 },
  { cls := 25, slots := #[], vm := .none },
  { cls := 25, slots := #[], vm := .none }]
def classes : Array Class := #[k0, k1, k2, k3, k4, k5, k6, k7, k8, k9, k10, k11, k12, k13, k14, k15, k16, k17, k18, k19, k20, k21, k22, k23, k24, k25]
def interned : List (Array UInt16 × Addr) := []
def slotsUsed : Nat := 4
def theMethod : MethodId := ⟨1, 1⟩
def args0 : Array Value := #[.int 5, .int 1, .int 2, .int 3, .int 4]
def aboutOver (below : List Frame) : State where
  vm := { classes := classes, interned := interned.toArray }
  heap := heap
  slotsUsed := slotsUsed
  threads := #[{ frames := .invoking theMethod args0 :: below }]
def below0 : List Frame := [.native { method := ⟨0, 0⟩, args := #[] }]
def about1 : State := aboutOver below0
def p0 : Program := .bare "" "" ""
def e0 : Env := launch0.env 0 0 0
theorem w_frames : about1.frames = Frame.invoking theMethod args0 :: below0 := rfl
set_option maxRecDepth 65536 in
theorem w_args : argsFit about1.vm theMethod args0 = true := by decide +kernel
set_option maxRecDepth 65536 in
theorem w_heap : heapFits about1 = true := by decide +kernel
set_option maxRecDepth 65536 in
theorem w_runnable : about1.curStatus? = some .runnable := by decide +kernel
set_option maxRecDepth 65536 in
theorem w_alone : about1.alone = true := by decide +kernel
set_option maxRecDepth 65536 in
theorem w_named : about1.methodNamed? x = some theMethod := by decide +kernel
set_option maxRecDepth 65536 in
theorem w_hears : about1.hears theMethod below0 = true := by decide +kernel
set_option maxRecDepth 65536 in
theorem w_ripe : about1.ripe theMethod args0 below0 = true := by decide +kernel
theorem w_running : about1.status = .running := rfl
set_option maxRecDepth 65536 in
theorem w_room : about1.hasRoom e0.platform room_1 = true :=
  launch0.hasRoom_least _ room_1 (by decide +kernel) (by decide +kernel) (by decide +kernel) (by decide +kernel) (by decide +kernel) (by decide +kernel)
theorem allAtoms_all (ts : List Jvm.Cond) (a : Array Jvm.Value) (st : Jvm.State) : (allAtoms ts).before a st = ts.all (fun c => c.before a st) := by
  induction ts with
  | nil => rfl
  | cons c t ih =>
    show (Jvm.Cond.and c (allAtoms t)).before a st = _
    rw [Jvm.Cond.before_and, ih, List.all_cons]
def words1 : List Jvm.Cond := Jvm.Cond.code x code maxLocals ret :: tables_1
/-- a 'code' word, met by the world's own term for the bytes: nothing is compared byte by byte -/
theorem code_word {y : MethodName} {bytes : ByteArray} {mx : Nat} {rt : Option FieldType} {a : Array Value} {s : State} {m : MethodId} {meth : Method} {c : Code} (h1 : s.methodNamed? y = some m) (h2 : s.vm.method? m = some meth) (h3 : meth.code = some c) (h4 : c.code = bytes)
    (h5 : (c.maxLocals == mx && c.exceptionTable.isEmpty && decide (c.maxStack ≤ mostOperands) && decide (meth.sig.returnType = rt) && !meth.locks && decide (parseMethodDescriptor y.desc = some meth.sig)) = true) : (Jvm.Cond.code y bytes mx rt).before a s = true := by
  simp only [Bool.and_eq_true, beq_iff_eq, Bool.not_eq_true', decide_eq_true_eq] at h5
  obtain ⟨⟨⟨⟨⟨g1, g2⟩, g3⟩, g4⟩, g5⟩, g6⟩ := h5
  simp [Cond.before, Cond.holds, Cond.value, h1, h2, h3, h4, g1, g2, g3, g4, g5, g6]
def isCode : Jvm.Cond → Bool
  | .code _ _ _ _ => true
  | _ => false
theorem all_split {L : List Jvm.Cond} {P : Jvm.Cond → Bool} (h1 : L.all (fun c => isCode c || P c) = true) (h2 : ∀ c ∈ L.filter isCode, P c = true) : L.all P = true := by
  refine List.all_eq_true.mpr fun c hc => ?_
  have h := List.all_eq_true.mp h1 c hc
  rcases Bool.eq_false_or_eq_true (isCode c) with hi | hi
  · exact h2 c (List.mem_filter.mpr ⟨hc, hi⟩)
  · simpa [hi] using h
set_option maxRecDepth 65536 in
theorem w_c0 : (Jvm.Cond.code x code maxLocals ret).before args0 about1 = true := code_word (m := ⟨1, 1⟩) (meth := k1m1) (c := k1c1) (by decide +kernel) rfl rfl rfl (by decide +kernel)
set_option maxRecDepth 65536 in
theorem w_c1 : (Jvm.Cond.code ({ cls := "java/util/ArrayList", name := "<init>", desc := "()V" } : Jvm.MethodName) jdk_38_method_2_code (1 : Nat) (Option.none : Option Jvm.ClassFile.FieldType)).before args0 about1 = true := code_word (m := ⟨11, 0⟩) (meth := k11m0) (c := k11c0) (by decide +kernel) rfl rfl rfl (by decide +kernel)
set_option maxRecDepth 65536 in
theorem w_c2 : (Jvm.Cond.code ({ cls := "java/util/AbstractList", name := "<init>", desc := "()V" } : Jvm.MethodName) jdk_39_method_1_code (1 : Nat) (Option.none : Option Jvm.ClassFile.FieldType)).before args0 about1 = true := code_word (m := ⟨7, 0⟩) (meth := k7m0) (c := k7c0) (by decide +kernel) rfl rfl rfl (by decide +kernel)
set_option maxRecDepth 65536 in
theorem w_c3 : (Jvm.Cond.code ({ cls := "java/util/AbstractCollection", name := "<init>", desc := "()V" } : Jvm.MethodName) jdk_22_method_1_code (1 : Nat) (Option.none : Option Jvm.ClassFile.FieldType)).before args0 about1 = true := code_word (m := ⟨4, 0⟩) (meth := k4m0) (c := k4c0) (by decide +kernel) rfl rfl rfl (by decide +kernel)
set_option maxRecDepth 65536 in
theorem w_c4 : (Jvm.Cond.code ({ cls := "java/lang/Object", name := "<init>", desc := "()V" } : Jvm.MethodName) object_method_1_code (1 : Nat) (Option.none : Option Jvm.ClassFile.FieldType)).before args0 about1 = true := code_word (m := ⟨0, 0⟩) (meth := k0m0) (c := k0c0) (by decide +kernel) rfl rfl rfl (by decide +kernel)
set_option maxRecDepth 65536 in
theorem w_c5 : (Jvm.Cond.code ({ cls := "com/example/enact/enact/FeederAcceleration", name := "<init>", desc := "(ILjava/util/List;)V" } : Jvm.MethodName) prog_36_method_1_code (5 : Nat) (Option.none : Option Jvm.ClassFile.FieldType)).before args0 about1 = true := code_word (m := ⟨14, 0⟩) (meth := k14m0) (c := k14c0) (by decide +kernel) rfl rfl rfl (by decide +kernel)
set_option maxRecDepth 65536 in
theorem w_c6 : (Jvm.Cond.code ({ cls := "java/util/Arrays", name := "fill", desc := "([II)V" } : Jvm.MethodName) jdk_65_method_103_code (4 : Nat) (Option.none : Option Jvm.ClassFile.FieldType)).before args0 about1 = true := code_word (m := ⟨15, 1⟩) (meth := k15m1) (c := k15c1) (by decide +kernel) rfl rfl rfl (by decide +kernel)
set_option maxRecDepth 65536 in
theorem w_c7 : (Jvm.Cond.code ({ cls := "java/util/ArrayList", name := "iterator", desc := "()Ljava/util/Iterator;" } : Jvm.MethodName) jdk_38_method_55_code (1 : Nat) (Option.some (Jvm.ClassFile.FieldType.object "java/util/Iterator"))).before args0 about1 = true := code_word (m := ⟨11, 6⟩) (meth := k11m6) (c := k11c6) (by decide +kernel) rfl rfl rfl (by decide +kernel)
set_option maxRecDepth 65536 in
theorem w_c8 : (Jvm.Cond.code ({ cls := "java/util/ArrayList$Itr", name := "<init>", desc := "(Ljava/util/ArrayList;)V" } : Jvm.MethodName) jdk_49_method_1_code (2 : Nat) (Option.none : Option Jvm.ClassFile.FieldType)).before args0 about1 = true := code_word (m := ⟨17, 0⟩) (meth := k17m0) (c := k17c0) (by decide +kernel) rfl rfl rfl (by decide +kernel)
set_option maxRecDepth 65536 in
theorem w_c9 : (Jvm.Cond.code ({ cls := "java/util/ArrayList$Itr", name := "hasNext", desc := "()Z" } : Jvm.MethodName) jdk_49_method_2_code (1 : Nat) (Option.some Jvm.ClassFile.FieldType.boolean)).before args0 about1 = true := code_word (m := ⟨17, 1⟩) (meth := k17m1) (c := k17c1) (by decide +kernel) rfl rfl rfl (by decide +kernel)
set_option maxRecDepth 65536 in
theorem w_c10 : (Jvm.Cond.code ({ cls := "java/util/ArrayList", name := "isEmpty", desc := "()Z" } : Jvm.MethodName) jdk_38_method_9_code (1 : Nat) (Option.some Jvm.ClassFile.FieldType.boolean)).before args0 about1 = true := code_word (m := ⟨11, 3⟩) (meth := k11m3) (c := k11c3) (by decide +kernel) rfl rfl rfl (by decide +kernel)
set_option maxRecDepth 65536 in
theorem w_c11 : (Jvm.Cond.code ({ cls := "com/example/enact/enact/FeederAcceleration", name := "accelerate", desc := "(II[I)Z" } : Jvm.MethodName) prog_36_method_7_code (6 : Nat) (Option.some Jvm.ClassFile.FieldType.boolean)).before args0 about1 = true := code_word (m := ⟨14, 1⟩) (meth := k14m1) (c := k14c1) (by decide +kernel) rfl rfl rfl (by decide +kernel)
set_option maxRecDepth 65536 in
theorem w_c12 : (Jvm.Cond.code ({ cls := "com/example/enact/enact/Classification$Flat", name := "<init>", desc := "(III)V" } : Jvm.MethodName) prog_6_method_1_code (4 : Nat) (Option.none : Option Jvm.ClassFile.FieldType)).before args0 about1 = true := code_word (m := ⟨19, 0⟩) (meth := k19m0) (c := k19c0) (by decide +kernel) rfl rfl rfl (by decide +kernel)
set_option maxRecDepth 65536 in
theorem w_c13 : (Jvm.Cond.code ({ cls := "java/lang/Record", name := "<init>", desc := "()V" } : Jvm.MethodName) jdk_30_method_1_code (1 : Nat) (Option.none : Option Jvm.ClassFile.FieldType)).before args0 about1 = true := code_word (m := ⟨18, 0⟩) (meth := k18m0) (c := k18c0) (by decide +kernel) rfl rfl rfl (by decide +kernel)
set_option maxRecDepth 65536 in
theorem w_c14 : (Jvm.Cond.code ({ cls := "java/util/ArrayList", name := "add", desc := "(Ljava/lang/Object;)Z" } : Jvm.MethodName) jdk_38_method_25_code (2 : Nat) (Option.some Jvm.ClassFile.FieldType.boolean)).before args0 about1 = true := code_word (m := ⟨11, 5⟩) (meth := k11m5) (c := k11c5) (by decide +kernel) rfl rfl rfl (by decide +kernel)
set_option maxRecDepth 65536 in
theorem w_c15 : (Jvm.Cond.code ({ cls := "java/util/ArrayList", name := "add", desc := "(Ljava/lang/Object;[Ljava/lang/Object;I)V" } : Jvm.MethodName) jdk_38_method_24_code (4 : Nat) (Option.none : Option Jvm.ClassFile.FieldType)).before args0 about1 = true := code_word (m := ⟨11, 4⟩) (meth := k11m4) (c := k11c4) (by decide +kernel) rfl rfl rfl (by decide +kernel)
set_option maxRecDepth 65536 in
theorem w_c16 : (Jvm.Cond.code ({ cls := "java/util/ArrayList", name := "grow", desc := "()[Ljava/lang/Object;" } : Jvm.MethodName) jdk_38_method_7_code (1 : Nat) (Option.some (Jvm.ClassFile.FieldType.array (Jvm.ClassFile.FieldType.object "java/lang/Object")))).before args0 about1 = true := code_word (m := ⟨11, 2⟩) (meth := k11m2) (c := k11c2) (by decide +kernel) rfl rfl rfl (by decide +kernel)
set_option maxRecDepth 65536 in
theorem w_c17 : (Jvm.Cond.code ({ cls := "java/util/ArrayList", name := "grow", desc := "(I)[Ljava/lang/Object;" } : Jvm.MethodName) jdk_38_method_6_code (4 : Nat) (Option.some (Jvm.ClassFile.FieldType.array (Jvm.ClassFile.FieldType.object "java/lang/Object")))).before args0 about1 = true := code_word (m := ⟨11, 1⟩) (meth := k11m1) (c := k11c1) (by decide +kernel) rfl rfl rfl (by decide +kernel)
set_option maxRecDepth 65536 in
theorem w_c18 : (Jvm.Cond.code ({ cls := "java/lang/Math", name := "max", desc := "(II)I" } : Jvm.MethodName) jdk_29_method_65_code (2 : Nat) (Option.some Jvm.ClassFile.FieldType.int)).before args0 about1 = true := code_word (m := ⟨20, 1⟩) (meth := k20m1) (c := k20c1) (by decide +kernel) rfl rfl rfl (by decide +kernel)
set_option maxRecDepth 65536 in
theorem w_c19 : (Jvm.Cond.code ({ cls := "java/util/ArrayList$Itr", name := "next", desc := "()Ljava/lang/Object;" } : Jvm.MethodName) jdk_49_method_3_code (3 : Nat) (Option.some (Jvm.ClassFile.FieldType.object "java/lang/Object"))).before args0 about1 = true := code_word (m := ⟨17, 2⟩) (meth := k17m2) (c := k17c2) (by decide +kernel) rfl rfl rfl (by decide +kernel)
set_option maxRecDepth 65536 in
theorem w_c20 : (Jvm.Cond.code ({ cls := "java/util/ArrayList$Itr", name := "checkForComodification", desc := "()V" } : Jvm.MethodName) jdk_49_method_6_code (1 : Nat) (Option.none : Option Jvm.ClassFile.FieldType)).before args0 about1 = true := code_word (m := ⟨17, 3⟩) (meth := k17m3) (c := k17c3) (by decide +kernel) rfl rfl rfl (by decide +kernel)
set_option maxRecDepth 65536 in
theorem w_c21 : (Jvm.Cond.code ({ cls := "com/example/enact/enact/Classification$Flat", name := "feeder", desc := "()I" } : Jvm.MethodName) prog_6_method_6_code (1 : Nat) (Option.some Jvm.ClassFile.FieldType.int)).before args0 about1 = true := code_word (m := ⟨19, 2⟩) (meth := k19m2) (c := k19c2) (by decide +kernel) rfl rfl rfl (by decide +kernel)
set_option maxRecDepth 65536 in
theorem w_c22 : (Jvm.Cond.code ({ cls := "com/example/enact/enact/Classification$Flat", name := "place", desc := "()I" } : Jvm.MethodName) prog_6_method_5_code (1 : Nat) (Option.some Jvm.ClassFile.FieldType.int)).before args0 about1 = true := code_word (m := ⟨19, 1⟩) (meth := k19m1) (c := k19c1) (by decide +kernel) rfl rfl rfl (by decide +kernel)
def codes1 : List Jvm.Cond := [Jvm.Cond.code x code maxLocals ret, Jvm.Cond.code ({ cls := "java/util/ArrayList", name := "<init>", desc := "()V" } : Jvm.MethodName) jdk_38_method_2_code (1 : Nat) (Option.none : Option Jvm.ClassFile.FieldType), Jvm.Cond.code ({ cls := "java/util/AbstractList", name := "<init>", desc := "()V" } : Jvm.MethodName) jdk_39_method_1_code (1 : Nat) (Option.none : Option Jvm.ClassFile.FieldType), Jvm.Cond.code ({ cls := "java/util/AbstractCollection", name := "<init>", desc := "()V" } : Jvm.MethodName) jdk_22_method_1_code (1 : Nat) (Option.none : Option Jvm.ClassFile.FieldType), Jvm.Cond.code ({ cls := "java/lang/Object", name := "<init>", desc := "()V" } : Jvm.MethodName) object_method_1_code (1 : Nat) (Option.none : Option Jvm.ClassFile.FieldType), Jvm.Cond.code ({ cls := "com/example/enact/enact/FeederAcceleration", name := "<init>", desc := "(ILjava/util/List;)V" } : Jvm.MethodName) prog_36_method_1_code (5 : Nat) (Option.none : Option Jvm.ClassFile.FieldType), Jvm.Cond.code ({ cls := "java/util/Arrays", name := "fill", desc := "([II)V" } : Jvm.MethodName) jdk_65_method_103_code (4 : Nat) (Option.none : Option Jvm.ClassFile.FieldType), Jvm.Cond.code ({ cls := "java/util/ArrayList", name := "iterator", desc := "()Ljava/util/Iterator;" } : Jvm.MethodName) jdk_38_method_55_code (1 : Nat) (Option.some (Jvm.ClassFile.FieldType.object "java/util/Iterator")), Jvm.Cond.code ({ cls := "java/util/ArrayList$Itr", name := "<init>", desc := "(Ljava/util/ArrayList;)V" } : Jvm.MethodName) jdk_49_method_1_code (2 : Nat) (Option.none : Option Jvm.ClassFile.FieldType), Jvm.Cond.code ({ cls := "java/util/ArrayList$Itr", name := "hasNext", desc := "()Z" } : Jvm.MethodName) jdk_49_method_2_code (1 : Nat) (Option.some Jvm.ClassFile.FieldType.boolean), Jvm.Cond.code ({ cls := "java/util/ArrayList", name := "isEmpty", desc := "()Z" } : Jvm.MethodName) jdk_38_method_9_code (1 : Nat) (Option.some Jvm.ClassFile.FieldType.boolean), Jvm.Cond.code ({ cls := "com/example/enact/enact/FeederAcceleration", name := "accelerate", desc := "(II[I)Z" } : Jvm.MethodName) prog_36_method_7_code (6 : Nat) (Option.some Jvm.ClassFile.FieldType.boolean), Jvm.Cond.code ({ cls := "com/example/enact/enact/Classification$Flat", name := "<init>", desc := "(III)V" } : Jvm.MethodName) prog_6_method_1_code (4 : Nat) (Option.none : Option Jvm.ClassFile.FieldType), Jvm.Cond.code ({ cls := "java/lang/Record", name := "<init>", desc := "()V" } : Jvm.MethodName) jdk_30_method_1_code (1 : Nat) (Option.none : Option Jvm.ClassFile.FieldType), Jvm.Cond.code ({ cls := "java/util/ArrayList", name := "add", desc := "(Ljava/lang/Object;)Z" } : Jvm.MethodName) jdk_38_method_25_code (2 : Nat) (Option.some Jvm.ClassFile.FieldType.boolean), Jvm.Cond.code ({ cls := "java/util/ArrayList", name := "add", desc := "(Ljava/lang/Object;[Ljava/lang/Object;I)V" } : Jvm.MethodName) jdk_38_method_24_code (4 : Nat) (Option.none : Option Jvm.ClassFile.FieldType), Jvm.Cond.code ({ cls := "java/util/ArrayList", name := "grow", desc := "()[Ljava/lang/Object;" } : Jvm.MethodName) jdk_38_method_7_code (1 : Nat) (Option.some (Jvm.ClassFile.FieldType.array (Jvm.ClassFile.FieldType.object "java/lang/Object"))), Jvm.Cond.code ({ cls := "java/util/ArrayList", name := "grow", desc := "(I)[Ljava/lang/Object;" } : Jvm.MethodName) jdk_38_method_6_code (4 : Nat) (Option.some (Jvm.ClassFile.FieldType.array (Jvm.ClassFile.FieldType.object "java/lang/Object"))), Jvm.Cond.code ({ cls := "java/lang/Math", name := "max", desc := "(II)I" } : Jvm.MethodName) jdk_29_method_65_code (2 : Nat) (Option.some Jvm.ClassFile.FieldType.int), Jvm.Cond.code ({ cls := "java/util/ArrayList$Itr", name := "next", desc := "()Ljava/lang/Object;" } : Jvm.MethodName) jdk_49_method_3_code (3 : Nat) (Option.some (Jvm.ClassFile.FieldType.object "java/lang/Object")), Jvm.Cond.code ({ cls := "java/util/ArrayList$Itr", name := "checkForComodification", desc := "()V" } : Jvm.MethodName) jdk_49_method_6_code (1 : Nat) (Option.none : Option Jvm.ClassFile.FieldType), Jvm.Cond.code ({ cls := "com/example/enact/enact/Classification$Flat", name := "feeder", desc := "()I" } : Jvm.MethodName) prog_6_method_6_code (1 : Nat) (Option.some Jvm.ClassFile.FieldType.int), Jvm.Cond.code ({ cls := "com/example/enact/enact/Classification$Flat", name := "place", desc := "()I" } : Jvm.MethodName) prog_6_method_5_code (1 : Nat) (Option.some Jvm.ClassFile.FieldType.int)]
set_option maxRecDepth 65536 in
theorem codes_eq : words1.filter isCode = codes1 := rfl
theorem w_codes : ∀ c ∈ words1.filter isCode, c.before args0 about1 = true := by
  rw [codes_eq]
  intro c hc
  simp only [codes1, List.mem_cons, List.not_mem_nil, or_false] at hc
  rcases hc with rfl | rfl | rfl | rfl | rfl | rfl | rfl | rfl | rfl | rfl | rfl | rfl | rfl | rfl | rfl | rfl | rfl | rfl | rfl | rfl | rfl | rfl | rfl
  · exact w_c0
  · exact w_c1
  · exact w_c2
  · exact w_c3
  · exact w_c4
  · exact w_c5
  · exact w_c6
  · exact w_c7
  · exact w_c8
  · exact w_c9
  · exact w_c10
  · exact w_c11
  · exact w_c12
  · exact w_c13
  · exact w_c14
  · exact w_c15
  · exact w_c16
  · exact w_c17
  · exact w_c18
  · exact w_c19
  · exact w_c20
  · exact w_c21
  · exact w_c22
set_option maxRecDepth 65536 in
theorem w_t1 : (words1.take 24).all (fun c => isCode c || c.before args0 about1) = true := by decide +kernel
set_option maxRecDepth 65536 in
theorem w_t2 : ((words1.drop 24).take 24).all (fun c => isCode c || c.before args0 about1) = true := by decide +kernel
set_option maxRecDepth 65536 in
theorem w_t3 : (((words1.drop 24).drop 24).take 24).all (fun c => isCode c || c.before args0 about1) = true := by decide +kernel
set_option maxRecDepth 65536 in
theorem w_t4 : ((((words1.drop 24).drop 24).drop 24).take 24).all (fun c => isCode c || c.before args0 about1) = true := by decide +kernel
set_option maxRecDepth 65536 in
theorem w_t5 : (((((words1.drop 24).drop 24).drop 24).drop 24).take 24).all (fun c => isCode c || c.before args0 about1) = true := by decide +kernel
set_option maxRecDepth 65536 in
theorem w_t6 : ((((((words1.drop 24).drop 24).drop 24).drop 24).drop 24).take 24).all (fun c => isCode c || c.before args0 about1) = true := by decide +kernel
set_option maxRecDepth 65536 in
theorem w_t7 : (((((((words1.drop 24).drop 24).drop 24).drop 24).drop 24).drop 24).take 24).all (fun c => isCode c || c.before args0 about1) = true := by decide +kernel
set_option maxRecDepth 65536 in
theorem w_t8 : (((((((words1.drop 24).drop 24).drop 24).drop 24).drop 24).drop 24).drop 24).all (fun c => isCode c || c.before args0 about1) = true := by decide +kernel
theorem w_tables : (allAtoms (Jvm.Cond.code x code maxLocals ret :: tables_1)).before args0 about1 = true := by
  rw [allAtoms_all]
  show words1.all (fun c => c.before args0 about1) = true
  refine all_split ?_ w_codes
  rw [← List.take_append_drop 24 words1, List.all_append, w_t1, ← List.take_append_drop 24 (words1.drop 24), List.all_append, w_t2, ← List.take_append_drop 24 ((words1.drop 24).drop 24), List.all_append, w_t3, ← List.take_append_drop 24 (((words1.drop 24).drop 24).drop 24), List.all_append, w_t4, ← List.take_append_drop 24 ((((words1.drop 24).drop 24).drop 24).drop 24), List.all_append, w_t5, ← List.take_append_drop 24 (((((words1.drop 24).drop 24).drop 24).drop 24).drop 24), List.all_append, w_t6, ← List.take_append_drop 24 ((((((words1.drop 24).drop 24).drop 24).drop 24).drop 24).drop 24), List.all_append, w_t7, w_t8]
  rfl
set_option maxRecDepth 65536 in
theorem w_rest : rest_1_c.before args0 about1 = true := by decide +kernel
set_option maxRecDepth 65536 in
theorem w_case : (Jvm.Cond.and given_1 narrow_1).before args0 about1 = true := by decide +kernel
theorem w_applies : (headSpec (Jvm.Cond.code x code maxLocals ret :: tables_1) room_1).applies x e0.platform about1 = true :=
  (Spec.applies_iff w_frames).mpr ⟨w_running, w_runnable, w_alone, w_named, w_hears, w_ripe, w_room, w_tables⟩
theorem atStart : AtStart classFile x code maxLocals ret World_1 tables_1 room_1 Calls_1 rest_1 Pre_1 launch0 p0 e0 about1 theMethod args0 below0 :=
  ⟨lists_1, trivial, launch0.admits_env _ _ _, launch0.least_env, fairChoices_fair.cas, fairChoices_fair.clock, w_frames, w_args, w_heap, w_applies, trivial, w_rest, w_case⟩
end start1
theorem witness_1 : WitnessClaimed_1 := ⟨start1.p0, start1.e0, start1.about1, start1.theMethod, start1.args0, start1.below0, start1.atStart⟩
end Jvm.Pilot.@@N@@
