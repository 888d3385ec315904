import JvmDerived
import JvmDerived.Pilot.@@N@@Statement
import JvmDerived.Pilot.@@N@@Code
set_option linter.unusedVariables false
set_option linter.unusedSimpArgs false
namespace Jvm.Own
open Sem ClassFile Op Lib Jvm.Stand Jvm.Free Jvm.LawKit Jvm.RoadKit
section Steps
variable {p : Program} {l : Launch} {e : Env} {R : Room} {s : State} {m : MethodId} {args : Array Value} {below : List Frame} {meth : Method} {c : Code} {T t : State} {locs : List Loc} {cells slots : Nat} {pc : Nat} {Ls Ls' : Array Slot} {S : List Value}
theorem iloadN (X : Stand p l e R s m args below meth c T locs cells slots) (hx : p.tables.exec = Jvm.exec) {k : Fin 4} {v : Int32} (hd : decode c.code pc = .ok (.iload_n k, 1)) (hl : Ls[k.val]? = some (.val (.int v))) (hr : Steps p.tables e below (T.setTop (mkF m (pc + 1) Ls (.int v :: S))) t) : Steps p.tables e below (T.setTop (mkF m pc Ls S)) t := XS.iloadN X.here hx rfl hd hl hr
theorem iload (X : Stand p l e R s m args below meth c T locs cells slots) (hx : p.tables.exec = Jvm.exec) {k : Nat} {v : Int32} (hd : decode c.code pc = .ok (.iload k, 2)) (hl : Ls[k]? = some (.val (.int v))) (hr : Steps p.tables e below (T.setTop (mkF m (pc + 2) Ls (.int v :: S))) t) : Steps p.tables e below (T.setTop (mkF m pc Ls S)) t := XS.iload X.here hx rfl hd hl hr
theorem istoreN (X : Stand p l e R s m args below meth c T locs cells slots) (hx : p.tables.exec = Jvm.exec) {k : Fin 4} {v : Int32} (Ls' : Array Slot) (hd : decode c.code pc = .ok (.istore_n k, 1)) (hl : storeLocals Ls k.val (.int v) = some Ls') (hr : Steps p.tables e below (T.setTop (mkF m (pc + 1) Ls' S)) t) : Steps p.tables e below (T.setTop (mkF m pc Ls (.int v :: S))) t := XS.istoreN X.here hx rfl hd rfl hl hr
theorem istore (X : Stand p l e R s m args below meth c T locs cells slots) (hx : p.tables.exec = Jvm.exec) {k : Nat} {v : Int32} (Ls' : Array Slot) (hd : decode c.code pc = .ok (.istore k, 2)) (hl : storeLocals Ls k (.int v) = some Ls') (hr : Steps p.tables e below (T.setTop (mkF m (pc + 2) Ls' S)) t) : Steps p.tables e below (T.setTop (mkF m pc Ls (.int v :: S))) t := XS.istore X.here hx rfl hd rfl hl hr
theorem lloadN (X : Stand p l e R s m args below meth c T locs cells slots) (hx : p.tables.exec = Jvm.exec) {k : Fin 4} {v : Int64} (hd : decode c.code pc = .ok (.lload_n k, 1)) (hl : Ls[k.val]? = some (.val (.long v))) (hr : Steps p.tables e below (T.setTop (mkF m (pc + 1) Ls (.long v :: S))) t) : Steps p.tables e below (T.setTop (mkF m pc Ls S)) t := XS.lloadN X.here hx rfl hd hl hr
theorem lload (X : Stand p l e R s m args below meth c T locs cells slots) (hx : p.tables.exec = Jvm.exec) {k : Nat} {v : Int64} (hd : decode c.code pc = .ok (.lload k, 2)) (hl : Ls[k]? = some (.val (.long v))) (hr : Steps p.tables e below (T.setTop (mkF m (pc + 2) Ls (.long v :: S))) t) : Steps p.tables e below (T.setTop (mkF m pc Ls S)) t := XS.lload X.here hx rfl hd hl hr
theorem lstoreN (X : Stand p l e R s m args below meth c T locs cells slots) (hx : p.tables.exec = Jvm.exec) {k : Fin 4} {v : Int64} (Ls' : Array Slot) (hd : decode c.code pc = .ok (.lstore_n k, 1)) (hl : storeLocals Ls k.val (.long v) = some Ls') (hr : Steps p.tables e below (T.setTop (mkF m (pc + 1) Ls' S)) t) : Steps p.tables e below (T.setTop (mkF m pc Ls (.long v :: S))) t := XS.lstoreN X.here hx rfl hd rfl hl hr
theorem lstore (X : Stand p l e R s m args below meth c T locs cells slots) (hx : p.tables.exec = Jvm.exec) {k : Nat} {v : Int64} (Ls' : Array Slot) (hd : decode c.code pc = .ok (.lstore k, 2)) (hl : storeLocals Ls k (.long v) = some Ls') (hr : Steps p.tables e below (T.setTop (mkF m (pc + 2) Ls' S)) t) : Steps p.tables e below (T.setTop (mkF m pc Ls (.long v :: S))) t := XS.lstore X.here hx rfl hd rfl hl hr
theorem aloadN (X : Stand p l e R s m args below meth c T locs cells slots) (hx : p.tables.exec = Jvm.exec) {k : Fin 4} {v : Value} (hd : decode c.code pc = .ok (.aload_n k, 1)) (hl : Ls[k.val]? = some (.val v)) (hv : v.isRef = true) (hr : Steps p.tables e below (T.setTop (mkF m (pc + 1) Ls (v :: S))) t) : Steps p.tables e below (T.setTop (mkF m pc Ls S)) t := XS.aloadN X.here hx rfl hd hl hv hr
theorem aload (X : Stand p l e R s m args below meth c T locs cells slots) (hx : p.tables.exec = Jvm.exec) {k : Nat} {v : Value} (hd : decode c.code pc = .ok (.aload k, 2)) (hl : Ls[k]? = some (.val v)) (hv : v.isRef = true) (hr : Steps p.tables e below (T.setTop (mkF m (pc + 2) Ls (v :: S))) t) : Steps p.tables e below (T.setTop (mkF m pc Ls S)) t := XS.aload X.here hx rfl hd hl hv hr
theorem astoreN (X : Stand p l e R s m args below meth c T locs cells slots) (hx : p.tables.exec = Jvm.exec) {k : Fin 4} {v : Value} (Ls' : Array Slot) (hd : decode c.code pc = .ok (.astore_n k, 1)) (hv : v.isRef = true) (hl : storeLocals Ls k.val v = some Ls') (hr : Steps p.tables e below (T.setTop (mkF m (pc + 1) Ls' S)) t) : Steps p.tables e below (T.setTop (mkF m pc Ls (v :: S))) t := XS.astoreN X.here hx rfl hd rfl hv hl hr
theorem astore (X : Stand p l e R s m args below meth c T locs cells slots) (hx : p.tables.exec = Jvm.exec) {k : Nat} {v : Value} (Ls' : Array Slot) (hd : decode c.code pc = .ok (.astore k, 2)) (hv : v.isRef = true) (hl : storeLocals Ls k v = some Ls') (hr : Steps p.tables e below (T.setTop (mkF m (pc + 2) Ls' S)) t) : Steps p.tables e below (T.setTop (mkF m pc Ls (v :: S))) t := XS.astore X.here hx rfl hd rfl hv hl hr
theorem iconst (X : Stand p l e R s m args below meth c T locs cells slots) (hx : p.tables.exec = Jvm.exec) {i : Int} (v : Int32) (hd : decode c.code pc = .ok (.iconst i, 1)) (hv : Int32.ofInt i = v) (hr : Steps p.tables e below (T.setTop (mkF m (pc + 1) Ls (.int v :: S))) t) : Steps p.tables e below (T.setTop (mkF m pc Ls S)) t := XS.iconst X.here hx rfl hd (hv ▸ hr)
theorem bipush (X : Stand p l e R s m args below meth c T locs cells slots) (hx : p.tables.exec = Jvm.exec) {i : Int} (v : Int32) (hd : decode c.code pc = .ok (.bipush i, 2)) (hv : (Int8.ofInt i).toInt32 = v) (hr : Steps p.tables e below (T.setTop (mkF m (pc + 2) Ls (.int v :: S))) t) : Steps p.tables e below (T.setTop (mkF m pc Ls S)) t := XS.bipush X.here hx rfl hd (hv ▸ hr)
theorem sipush (X : Stand p l e R s m args below meth c T locs cells slots) (hx : p.tables.exec = Jvm.exec) {i : Int} (v : Int32) (hd : decode c.code pc = .ok (.sipush i, 3)) (hv : (Int16.ofInt i).toInt32 = v) (hr : Steps p.tables e below (T.setTop (mkF m (pc + 3) Ls (.int v :: S))) t) : Steps p.tables e below (T.setTop (mkF m pc Ls S)) t := XS.sipush X.here hx rfl hd (hv ▸ hr)
theorem lconst (X : Stand p l e R s m args below meth c T locs cells slots) (hx : p.tables.exec = Jvm.exec) {k : Fin 2} (v : Int64) (hd : decode c.code pc = .ok (.lconst k, 1)) (hv : Int64.ofNat k = v) (hr : Steps p.tables e below (T.setTop (mkF m (pc + 1) Ls (.long v :: S))) t) : Steps p.tables e below (T.setTop (mkF m pc Ls S)) t := XS.lconst X.here hx rfl hd (hv ▸ hr)
theorem aconstNull (X : Stand p l e R s m args below meth c T locs cells slots) (hx : p.tables.exec = Jvm.exec)  (hd : decode c.code pc = .ok (.aconst_null, 1)) (hr : Steps p.tables e below (T.setTop (mkF m (pc + 1) Ls (.null :: S))) t) : Steps p.tables e below (T.setTop (mkF m pc Ls S)) t := XS.aconstNull X.here hx rfl hd hr
theorem iadd (X : Stand p l e R s m args below meth c T locs cells slots) (hx : p.tables.exec = Jvm.exec) {x y : Int32} (hd : decode c.code pc = .ok (.iadd, 1)) (hr : Steps p.tables e below (T.setTop (mkF m (pc + 1) Ls (.int (x + y) :: S))) t) : Steps p.tables e below (T.setTop (mkF m pc Ls (.int y :: .int x :: S))) t := XS.iadd X.here hx rfl hd rfl hr
theorem isub (X : Stand p l e R s m args below meth c T locs cells slots) (hx : p.tables.exec = Jvm.exec) {x y : Int32} (hd : decode c.code pc = .ok (.isub, 1)) (hr : Steps p.tables e below (T.setTop (mkF m (pc + 1) Ls (.int (x - y) :: S))) t) : Steps p.tables e below (T.setTop (mkF m pc Ls (.int y :: .int x :: S))) t := XS.isub X.here hx rfl hd rfl hr
theorem imul (X : Stand p l e R s m args below meth c T locs cells slots) (hx : p.tables.exec = Jvm.exec) {x y : Int32} (hd : decode c.code pc = .ok (.imul, 1)) (hr : Steps p.tables e below (T.setTop (mkF m (pc + 1) Ls (.int (x * y) :: S))) t) : Steps p.tables e below (T.setTop (mkF m pc Ls (.int y :: .int x :: S))) t := XS.imul X.here hx rfl hd rfl hr
theorem iand (X : Stand p l e R s m args below meth c T locs cells slots) (hx : p.tables.exec = Jvm.exec) {x y : Int32} (hd : decode c.code pc = .ok (.iand, 1)) (hr : Steps p.tables e below (T.setTop (mkF m (pc + 1) Ls (.int (x &&& y) :: S))) t) : Steps p.tables e below (T.setTop (mkF m pc Ls (.int y :: .int x :: S))) t := XS.iand X.here hx rfl hd rfl hr
theorem ior (X : Stand p l e R s m args below meth c T locs cells slots) (hx : p.tables.exec = Jvm.exec) {x y : Int32} (hd : decode c.code pc = .ok (.ior, 1)) (hr : Steps p.tables e below (T.setTop (mkF m (pc + 1) Ls (.int (x ||| y) :: S))) t) : Steps p.tables e below (T.setTop (mkF m pc Ls (.int y :: .int x :: S))) t := XS.ior X.here hx rfl hd rfl hr
theorem ixor (X : Stand p l e R s m args below meth c T locs cells slots) (hx : p.tables.exec = Jvm.exec) {x y : Int32} (hd : decode c.code pc = .ok (.ixor, 1)) (hr : Steps p.tables e below (T.setTop (mkF m (pc + 1) Ls (.int (x ^^^ y) :: S))) t) : Steps p.tables e below (T.setTop (mkF m pc Ls (.int y :: .int x :: S))) t := XS.ixor X.here hx rfl hd rfl hr
theorem ishl (X : Stand p l e R s m args below meth c T locs cells slots) (hx : p.tables.exec = Jvm.exec) {x y : Int32} (hd : decode c.code pc = .ok (.ishl, 1)) (hr : Steps p.tables e below (T.setTop (mkF m (pc + 1) Ls (.int (x <<< (y &&& 31)) :: S))) t) : Steps p.tables e below (T.setTop (mkF m pc Ls (.int y :: .int x :: S))) t := XS.ishl X.here hx rfl hd rfl hr
theorem ishr (X : Stand p l e R s m args below meth c T locs cells slots) (hx : p.tables.exec = Jvm.exec) {x y : Int32} (hd : decode c.code pc = .ok (.ishr, 1)) (hr : Steps p.tables e below (T.setTop (mkF m (pc + 1) Ls (.int (x >>> (y &&& 31)) :: S))) t) : Steps p.tables e below (T.setTop (mkF m pc Ls (.int y :: .int x :: S))) t := XS.ishr X.here hx rfl hd rfl hr
theorem iushr (X : Stand p l e R s m args below meth c T locs cells slots) (hx : p.tables.exec = Jvm.exec) {x y : Int32} (hd : decode c.code pc = .ok (.iushr, 1)) (hr : Steps p.tables e below (T.setTop (mkF m (pc + 1) Ls (.int ((x.toUInt32 >>> (y &&& 31).toUInt32).toInt32) :: S))) t) : Steps p.tables e below (T.setTop (mkF m pc Ls (.int y :: .int x :: S))) t := XS.iushr X.here hx rfl hd rfl hr
theorem ladd (X : Stand p l e R s m args below meth c T locs cells slots) (hx : p.tables.exec = Jvm.exec) {x y : Int64} (hd : decode c.code pc = .ok (.ladd, 1)) (hr : Steps p.tables e below (T.setTop (mkF m (pc + 1) Ls (.long (x + y) :: S))) t) : Steps p.tables e below (T.setTop (mkF m pc Ls (.long y :: .long x :: S))) t := XS.ladd X.here hx rfl hd rfl hr
theorem lsub (X : Stand p l e R s m args below meth c T locs cells slots) (hx : p.tables.exec = Jvm.exec) {x y : Int64} (hd : decode c.code pc = .ok (.lsub, 1)) (hr : Steps p.tables e below (T.setTop (mkF m (pc + 1) Ls (.long (x - y) :: S))) t) : Steps p.tables e below (T.setTop (mkF m pc Ls (.long y :: .long x :: S))) t := XS.lsub X.here hx rfl hd rfl hr
theorem lmul (X : Stand p l e R s m args below meth c T locs cells slots) (hx : p.tables.exec = Jvm.exec) {x y : Int64} (hd : decode c.code pc = .ok (.lmul, 1)) (hr : Steps p.tables e below (T.setTop (mkF m (pc + 1) Ls (.long (x * y) :: S))) t) : Steps p.tables e below (T.setTop (mkF m pc Ls (.long y :: .long x :: S))) t := XS.lmul X.here hx rfl hd rfl hr
theorem land (X : Stand p l e R s m args below meth c T locs cells slots) (hx : p.tables.exec = Jvm.exec) {x y : Int64} (hd : decode c.code pc = .ok (.land, 1)) (hr : Steps p.tables e below (T.setTop (mkF m (pc + 1) Ls (.long (x &&& y) :: S))) t) : Steps p.tables e below (T.setTop (mkF m pc Ls (.long y :: .long x :: S))) t := XS.land X.here hx rfl hd rfl hr
theorem lor (X : Stand p l e R s m args below meth c T locs cells slots) (hx : p.tables.exec = Jvm.exec) {x y : Int64} (hd : decode c.code pc = .ok (.lor, 1)) (hr : Steps p.tables e below (T.setTop (mkF m (pc + 1) Ls (.long (x ||| y) :: S))) t) : Steps p.tables e below (T.setTop (mkF m pc Ls (.long y :: .long x :: S))) t := XS.lor X.here hx rfl hd rfl hr
theorem lxor (X : Stand p l e R s m args below meth c T locs cells slots) (hx : p.tables.exec = Jvm.exec) {x y : Int64} (hd : decode c.code pc = .ok (.lxor, 1)) (hr : Steps p.tables e below (T.setTop (mkF m (pc + 1) Ls (.long (x ^^^ y) :: S))) t) : Steps p.tables e below (T.setTop (mkF m pc Ls (.long y :: .long x :: S))) t := XS.lxor X.here hx rfl hd rfl hr
theorem lshl (X : Stand p l e R s m args below meth c T locs cells slots) (hx : p.tables.exec = Jvm.exec) {x : Int64} {y : Int32} (hd : decode c.code pc = .ok (.lshl, 1)) (hr : Steps p.tables e below (T.setTop (mkF m (pc + 1) Ls (.long (x <<< (y &&& 0x3f).toInt64) :: S))) t) : Steps p.tables e below (T.setTop (mkF m pc Ls (.int y :: .long x :: S))) t := XS.lshl X.here hx rfl hd rfl hr
theorem lshr (X : Stand p l e R s m args below meth c T locs cells slots) (hx : p.tables.exec = Jvm.exec) {x : Int64} {y : Int32} (hd : decode c.code pc = .ok (.lshr, 1)) (hr : Steps p.tables e below (T.setTop (mkF m (pc + 1) Ls (.long (x >>> (y &&& 0x3f).toInt64) :: S))) t) : Steps p.tables e below (T.setTop (mkF m pc Ls (.int y :: .long x :: S))) t := XS.lshr X.here hx rfl hd rfl hr
theorem lushr (X : Stand p l e R s m args below meth c T locs cells slots) (hx : p.tables.exec = Jvm.exec) {x : Int64} {y : Int32} (hd : decode c.code pc = .ok (.lushr, 1)) (hr : Steps p.tables e below (T.setTop (mkF m (pc + 1) Ls (.long ((x.toUInt64 >>> (y &&& 0x3f).toInt64.toUInt64).toInt64) :: S))) t) : Steps p.tables e below (T.setTop (mkF m pc Ls (.int y :: .long x :: S))) t := XS.lushr X.here hx rfl hd rfl hr
theorem idiv (X : Stand p l e R s m args below meth c T locs cells slots) (hx : p.tables.exec = Jvm.exec) {x y : Int32} (hd : decode c.code pc = .ok (.idiv, 1)) (hy : y ≠ 0) (hr : Steps p.tables e below (T.setTop (mkF m (pc + 1) Ls (.int (x / y) :: S))) t) : Steps p.tables e below (T.setTop (mkF m pc Ls (.int y :: .int x :: S))) t := XS.idiv X.here hx rfl hd rfl hy hr
theorem irem (X : Stand p l e R s m args below meth c T locs cells slots) (hx : p.tables.exec = Jvm.exec) {x y : Int32} (hd : decode c.code pc = .ok (.irem, 1)) (hy : y ≠ 0) (hr : Steps p.tables e below (T.setTop (mkF m (pc + 1) Ls (.int (x % y) :: S))) t) : Steps p.tables e below (T.setTop (mkF m pc Ls (.int y :: .int x :: S))) t := iremM X hx rfl hd rfl hy hr
theorem ldiv (X : Stand p l e R s m args below meth c T locs cells slots) (hx : p.tables.exec = Jvm.exec) {x y : Int64} (hd : decode c.code pc = .ok (.ldiv, 1)) (hy : y ≠ 0) (hr : Steps p.tables e below (T.setTop (mkF m (pc + 1) Ls (.long (x / y) :: S))) t) : Steps p.tables e below (T.setTop (mkF m pc Ls (.long y :: .long x :: S))) t := XS.ldiv X.here hx rfl hd rfl hy hr
theorem lrem (X : Stand p l e R s m args below meth c T locs cells slots) (hx : p.tables.exec = Jvm.exec) {x y : Int64} (hd : decode c.code pc = .ok (.lrem, 1)) (hy : y ≠ 0) (hr : Steps p.tables e below (T.setTop (mkF m (pc + 1) Ls (.long (x - (x / y) * y) :: S))) t) : Steps p.tables e below (T.setTop (mkF m pc Ls (.long y :: .long x :: S))) t := XS.lrem X.here hx rfl hd rfl hy hr
theorem ineg (X : Stand p l e R s m args below meth c T locs cells slots) (hx : p.tables.exec = Jvm.exec) {x : Int32} (hd : decode c.code pc = .ok (.ineg, 1)) (hr : Steps p.tables e below (T.setTop (mkF m (pc + 1) Ls (.int (-x) :: S))) t) : Steps p.tables e below (T.setTop (mkF m pc Ls (.int x :: S))) t := XS.ineg X.here hx rfl hd rfl hr
theorem i2b (X : Stand p l e R s m args below meth c T locs cells slots) (hx : p.tables.exec = Jvm.exec) {x : Int32} (hd : decode c.code pc = .ok (.i2b, 1)) (hr : Steps p.tables e below (T.setTop (mkF m (pc + 1) Ls (.int (x.toInt8.toInt32) :: S))) t) : Steps p.tables e below (T.setTop (mkF m pc Ls (.int x :: S))) t := XS.i2b X.here hx rfl hd rfl hr
theorem i2c (X : Stand p l e R s m args below meth c T locs cells slots) (hx : p.tables.exec = Jvm.exec) {x : Int32} (hd : decode c.code pc = .ok (.i2c, 1)) (hr : Steps p.tables e below (T.setTop (mkF m (pc + 1) Ls (.int (x.toUInt32.toUInt16.toUInt32.toInt32) :: S))) t) : Steps p.tables e below (T.setTop (mkF m pc Ls (.int x :: S))) t := XS.i2c X.here hx rfl hd rfl hr
theorem i2s (X : Stand p l e R s m args below meth c T locs cells slots) (hx : p.tables.exec = Jvm.exec) {x : Int32} (hd : decode c.code pc = .ok (.i2s, 1)) (hr : Steps p.tables e below (T.setTop (mkF m (pc + 1) Ls (.int (x.toInt16.toInt32) :: S))) t) : Steps p.tables e below (T.setTop (mkF m pc Ls (.int x :: S))) t := XS.i2s X.here hx rfl hd rfl hr
theorem i2l (X : Stand p l e R s m args below meth c T locs cells slots) (hx : p.tables.exec = Jvm.exec) {x : Int32} (hd : decode c.code pc = .ok (.i2l, 1)) (hr : Steps p.tables e below (T.setTop (mkF m (pc + 1) Ls (.long (x.toInt64) :: S))) t) : Steps p.tables e below (T.setTop (mkF m pc Ls (.int x :: S))) t := XS.i2l X.here hx rfl hd rfl hr
theorem l2i (X : Stand p l e R s m args below meth c T locs cells slots) (hx : p.tables.exec = Jvm.exec) {x : Int64} (hd : decode c.code pc = .ok (.l2i, 1)) (hr : Steps p.tables e below (T.setTop (mkF m (pc + 1) Ls (.int (x.toInt32) :: S))) t) : Steps p.tables e below (T.setTop (mkF m pc Ls (.long x :: S))) t := XS.l2i X.here hx rfl hd rfl hr
theorem lneg (X : Stand p l e R s m args below meth c T locs cells slots) (hx : p.tables.exec = Jvm.exec) {x : Int64} (hd : decode c.code pc = .ok (.lneg, 1)) (hr : Steps p.tables e below (T.setTop (mkF m (pc + 1) Ls (.long (-x) :: S))) t) : Steps p.tables e below (T.setTop (mkF m pc Ls (.long x :: S))) t := XS.lneg X.here hx rfl hd rfl hr
theorem iinc (X : Stand p l e R s m args below meth c T locs cells slots) (hx : p.tables.exec = Jvm.exec) {k : Nat} {cst : Int} {x : Int32} (v : Int32) (Ls' : Array Slot) (hd : decode c.code pc = .ok (.iinc k cst, 3)) (hl : Ls[k]? = some (.val (.int x))) (hv : x + Int32.ofInt cst = v) (hl' : storeLocals Ls k (.int v) = some Ls') (hr : Steps p.tables e below (T.setTop (mkF m (pc + 3) Ls' S)) t) : Steps p.tables e below (T.setTop (mkF m pc Ls S)) t := XS.iinc X.here hx rfl hd hl (hv ▸ hl') hr
theorem dup (X : Stand p l e R s m args below meth c T locs cells slots) (hx : p.tables.exec = Jvm.exec) {v : Value} (hd : decode c.code pc = .ok (.dup, 1)) (hc : v.category = 1) (hr : Steps p.tables e below (T.setTop (mkF m (pc + 1) Ls (v :: v :: S))) t) : Steps p.tables e below (T.setTop (mkF m pc Ls (v :: S))) t := XS.dup X.here hx rfl hd rfl hc hr
theorem dupX1 (X : Stand p l e R s m args below meth c T locs cells slots) (hx : p.tables.exec = Jvm.exec) {v w : Value} (hd : decode c.code pc = .ok (.dup_x1, 1)) (hc : v.category = 1) (hc2 : w.category = 1) (hr : Steps p.tables e below (T.setTop (mkF m (pc + 1) Ls (v :: w :: v :: S))) t) : Steps p.tables e below (T.setTop (mkF m pc Ls (v :: w :: S))) t := XS.dupX1 X.here hx rfl hd rfl hc hc2 hr
theorem pop (X : Stand p l e R s m args below meth c T locs cells slots) (hx : p.tables.exec = Jvm.exec) {v : Value} (hd : decode c.code pc = .ok (.pop, 1)) (hc : v.category = 1) (hr : Steps p.tables e below (T.setTop (mkF m (pc + 1) Ls S)) t) : Steps p.tables e below (T.setTop (mkF m pc Ls (v :: S))) t := XS.pop X.here hx rfl hd rfl hc hr
theorem goto (X : Stand p l e R s m args below meth c T locs cells slots) (hx : p.tables.exec = Jvm.exec) {o : Int} (pc' : Nat) (hd : decode c.code pc = .ok (.goto o, 3)) (ho : 0 ≤ (pc : Int) + o) (hp : ((pc : Int) + o).toNat = pc') (hr : Steps p.tables e below (T.setTop (mkF m pc' Ls S)) t) : Steps p.tables e below (T.setTop (mkF m pc Ls S)) t := XS.goto X.here hx rfl rfl hd ho hp hr
theorem ifYes (X : Stand p l e R s m args below meth c T locs cells slots) (hx : p.tables.exec = Jvm.exec) {cd : ClassFile.Cond} {o : Int} {x : Int32} (pc' : Nat) (hd : decode c.code pc = .ok (.ifCond cd o, 3)) (hc : ifCond.holds cd x = true) (ho : 0 ≤ (pc : Int) + o) (hp : ((pc : Int) + o).toNat = pc') (hr : Steps p.tables e below (T.setTop (mkF m pc' Ls S)) t) : Steps p.tables e below (T.setTop (mkF m pc Ls (.int x :: S))) t := XS.ifYes X.here hx rfl rfl hd rfl hc ho hp hr
theorem ifNo (X : Stand p l e R s m args below meth c T locs cells slots) (hx : p.tables.exec = Jvm.exec) {cd : ClassFile.Cond} {o : Int} {x : Int32} (hd : decode c.code pc = .ok (.ifCond cd o, 3)) (hc : ifCond.holds cd x = false) (hr : Steps p.tables e below (T.setTop (mkF m (pc + 3) Ls S)) t) : Steps p.tables e below (T.setTop (mkF m pc Ls (.int x :: S))) t := XS.ifNo X.here hx rfl hd rfl hc hr
theorem icmpYes (X : Stand p l e R s m args below meth c T locs cells slots) (hx : p.tables.exec = Jvm.exec) {cd : ClassFile.Cond} {o : Int} {x y : Int32} (pc' : Nat) (hd : decode c.code pc = .ok (.if_icmp cd o, 3)) (hc : if_icmp.holds cd x y = true) (ho : 0 ≤ (pc : Int) + o) (hp : ((pc : Int) + o).toNat = pc') (hr : Steps p.tables e below (T.setTop (mkF m pc' Ls S)) t) : Steps p.tables e below (T.setTop (mkF m pc Ls (.int y :: .int x :: S))) t := XS.icmpYes X.here hx rfl rfl hd rfl hc ho hp hr
theorem icmpNo (X : Stand p l e R s m args below meth c T locs cells slots) (hx : p.tables.exec = Jvm.exec) {cd : ClassFile.Cond} {o : Int} {x y : Int32} (hd : decode c.code pc = .ok (.if_icmp cd o, 3)) (hc : if_icmp.holds cd x y = false) (hr : Steps p.tables e below (T.setTop (mkF m (pc + 3) Ls S)) t) : Steps p.tables e below (T.setTop (mkF m pc Ls (.int y :: .int x :: S))) t := XS.icmpNo X.here hx rfl hd rfl hc hr
theorem lcmp (X : Stand p l e R s m args below meth c T locs cells slots) (hx : p.tables.exec = Jvm.exec) {x y : Int64} (hd : decode c.code pc = .ok (.lcmp, 1)) (hr : Steps p.tables e below (T.setTop (mkF m (pc + 1) Ls (.int (lcmpW x y) :: S))) t) : Steps p.tables e below (T.setTop (mkF m pc Ls (.long y :: .long x :: S))) t := XS.lcmp X.here hx rfl hd rfl hr
theorem ifnullYes (X : Stand p l e R s m args below meth c T locs cells slots) (hx : p.tables.exec = Jvm.exec) {o : Int}  (pc' : Nat) (hd : decode c.code pc = .ok (.ifnull o, 3)) (ho : 0 ≤ (pc : Int) + o) (hp : ((pc : Int) + o).toNat = pc') (hr : Steps p.tables e below (T.setTop (mkF m pc' Ls S)) t) : Steps p.tables e below (T.setTop (mkF m pc Ls (.null :: S))) t := XS.ifnullYes X.here hx rfl rfl hd rfl ho hp hr
theorem ifnonnullYes (X : Stand p l e R s m args below meth c T locs cells slots) (hx : p.tables.exec = Jvm.exec) {o : Int} {b : Addr} (pc' : Nat) (hd : decode c.code pc = .ok (.ifnonnull o, 3)) (ho : 0 ≤ (pc : Int) + o) (hp : ((pc : Int) + o).toNat = pc') (hr : Steps p.tables e below (T.setTop (mkF m pc' Ls S)) t) : Steps p.tables e below (T.setTop (mkF m pc Ls (.ref b :: S))) t := XS.ifnonnullYes X.here hx rfl rfl hd rfl ho hp hr
theorem ifnullNo (X : Stand p l e R s m args below meth c T locs cells slots) (hx : p.tables.exec = Jvm.exec) {o : Int} {b : Addr} (hd : decode c.code pc = .ok (.ifnull o, 3)) (hr : Steps p.tables e below (T.setTop (mkF m (pc + 3) Ls S)) t) : Steps p.tables e below (T.setTop (mkF m pc Ls (.ref b :: S))) t := XS.ifnullNo X.here hx rfl hd rfl hr
theorem ifnonnullNo (X : Stand p l e R s m args below meth c T locs cells slots) (hx : p.tables.exec = Jvm.exec) {o : Int}  (hd : decode c.code pc = .ok (.ifnonnull o, 3)) (hr : Steps p.tables e below (T.setTop (mkF m (pc + 3) Ls S)) t) : Steps p.tables e below (T.setTop (mkF m pc Ls (.null :: S))) t := XS.ifnonnullNo X.here hx rfl hd rfl hr
theorem acmp (X : Stand p l e R s m args below meth c T locs cells slots) (hx : p.tables.exec = Jvm.exec) {cd : ACond} {x y : Value} {o : Int} (h1 : x.isRef = true) (h2 : y.isRef = true) (pc' : Nat) (same : Bool) (hd : decode c.code pc = .ok (.if_acmp cd o, 3)) (hq : decide (x = y) = same) (ho : 0 ≤ (pc : Int) + o) (hp : pc' = if acV cd same = true then ((pc : Int) + o).toNat else pc + 3) (hr : Steps p.tables e below (T.setTop (mkF m pc' Ls S)) t) : Steps p.tables e below (T.setTop (mkF m pc Ls (y :: x :: S))) t := Jvm.RoadKit.acmp (g := mkF m pc Ls (y :: x :: S)) X hx rfl h1 h2 (pc0 := pc) rfl hd rfl hq ho hp hr
theorem ldcI (X : Stand p l e R s m args below meth c T locs cells slots) (hx : p.tables.exec = Jvm.exec) {Z : State} {a0 : Array Value} {own : String} {index : Nat} (v : Int32) (hZ : Z.Warmed39 s.vm) (hown : s.vm.findClass own = some m.cls) (w : (Cond.constant own index v).before a0 Z = true) (hd : decode c.code pc = .ok (.ldc index, 2)) (hr : Steps p.tables e below (T.setTop (mkF m (pc + 2) Ls (.int v :: S))) t) : Steps p.tables e below (T.setTop (mkF m pc Ls S)) t := Jvm.Stand.ldcI (g := mkF m pc Ls S) X hx hown (mv hZ w) rfl hd hr
theorem ldc2J (X : Stand p l e R s m args below meth c T locs cells slots) (hx : p.tables.exec = Jvm.exec) {Z : State} {a0 : Array Value} {own : String} {index : Nat} (v : Int64) (hZ : Z.Warmed39 s.vm) (hown : s.vm.findClass own = some m.cls) (w : (Cond.constantLong own index v).before a0 Z = true) (hd : decode c.code pc = .ok (.ldc2_w index, 3)) (hr : Steps p.tables e below (T.setTop (mkF m (pc + 3) Ls (.long v :: S))) t) : Steps p.tables e below (T.setTop (mkF m pc Ls S)) t := Jvm.Stand.ldc2J (g := mkF m pc Ls S) X hx hown (mv hZ w) rfl hd hr
theorem iaload (X : Stand p l e R s m args below meth c T locs cells slots) (hx : p.tables.exec = Jvm.exec) {Z : State} {h : Heap} {a : Addr} {cl : Cell} {j : Int32} (v : Value) (hZ : Z.Warmed39 s.vm) (eT : T.heap = h) (A : Arr Z h a cl .int) (hin : ¬ (j < 0 ∨ cl.slots.size ≤ j.toNatClampNeg)) (hat : cl.slots[j.toNatClampNeg]? = some v) (hd : decode c.code pc = .ok (.iaload, 1)) (hr : Steps p.tables e below (T.setTop (mkF m (pc + 1) Ls (v :: S))) t) : Steps p.tables e below (T.setTop (mkF m pc Ls (.int j :: .ref a :: S))) t := X.iaload hx (j := j) (v := v) (by rw [eT]; exact A.1) (State.isArrayOf_alike hZ.alike A.2.1) A.2.2 hin hat (g := mkF m pc Ls (.int j :: .ref a :: S)) rfl rfl hd _ hr
theorem caload (X : Stand p l e R s m args below meth c T locs cells slots) (hx : p.tables.exec = Jvm.exec) {Z : State} {h : Heap} {a : Addr} {cl : Cell} {j : Int32} (v : Value) (hZ : Z.Warmed39 s.vm) (eT : T.heap = h) (A : Arr Z h a cl .char) (hin : ¬ (j < 0 ∨ cl.slots.size ≤ j.toNatClampNeg)) (hat : cl.slots[j.toNatClampNeg]? = some v) (hd : decode c.code pc = .ok (.caload, 1)) (hr : Steps p.tables e below (T.setTop (mkF m (pc + 1) Ls (v :: S))) t) : Steps p.tables e below (T.setTop (mkF m pc Ls (.int j :: .ref a :: S))) t := X.caload hx (j := j) (v := v) (by rw [eT]; exact A.1) (State.isArrayOf_alike hZ.alike A.2.1) A.2.2 hin hat (g := mkF m pc Ls (.int j :: .ref a :: S)) rfl rfl hd _ hr
theorem baload (X : Stand p l e R s m args below meth c T locs cells slots) (hx : p.tables.exec = Jvm.exec) {Z : State} {h : Heap} {a : Addr} {cl : Cell} {j : Int32} (v : Value) (hZ : Z.Warmed39 s.vm) (eT : T.heap = h) (A : Arr Z h a cl .byte) (hin : ¬ (j < 0 ∨ cl.slots.size ≤ j.toNatClampNeg)) (hat : cl.slots[j.toNatClampNeg]? = some v) (hd : decode c.code pc = .ok (.baload, 1)) (hr : Steps p.tables e below (T.setTop (mkF m (pc + 1) Ls (v :: S))) t) : Steps p.tables e below (T.setTop (mkF m pc Ls (.int j :: .ref a :: S))) t := X.baloadBytes hx (j := j) (v := v) (by rw [eT]; exact A.1) (State.isArrayOf_alike hZ.alike A.2.1) A.2.2 hin hat (g := mkF m pc Ls (.int j :: .ref a :: S)) rfl rfl hd _ hr
theorem laload (X : Stand p l e R s m args below meth c T locs cells slots) (hx : p.tables.exec = Jvm.exec) {Z : State} {h : Heap} {a : Addr} {cl : Cell} {j : Int32} (v : Value) (hZ : Z.Warmed39 s.vm) (eT : T.heap = h) (A : Arr Z h a cl .long) (hin : ¬ (j < 0 ∨ cl.slots.size ≤ j.toNatClampNeg)) (hat : cl.slots[j.toNatClampNeg]? = some v) (hd : decode c.code pc = .ok (.laload, 1)) (hr : Steps p.tables e below (T.setTop (mkF m (pc + 1) Ls (v :: S))) t) : Steps p.tables e below (T.setTop (mkF m pc Ls (.int j :: .ref a :: S))) t := X.laload hx (j := j) (v := v) (by rw [eT]; exact A.1) (State.isArrayOf_alike hZ.alike A.2.1) A.2.2 hin hat (g := mkF m pc Ls (.int j :: .ref a :: S)) rfl rfl hd _ hr
theorem arraylength (X : Stand p l e R s m args below meth c T locs cells slots) (hx : p.tables.exec = Jvm.exec) {Z : State} {h : Heap} {a : Addr} {cl : Cell} {ty : FieldType} (n : Int32) (hZ : Z.Warmed39 s.vm) (eT : T.heap = h) (A : Arr Z h a cl ty) (hn : cl.slots.size.toInt32 = n) (hd : decode c.code pc = .ok (.arraylength, 1)) (hr : Steps p.tables e below (T.setTop (mkF m (pc + 1) Ls (.int n :: S))) t) : Steps p.tables e below (T.setTop (mkF m pc Ls (.ref a :: S))) t := X.arraylength hx (cell := cl) (by rw [eT]; exact A.1) (State.isArrayOf_alike hZ.alike A.2.1) (g := mkF m pc Ls (.ref a :: S)) rfl rfl hd _ (hn ▸ hr)
end Steps
/-! what a body is said to leave -/
def Con (l : Launch) (Z : State) (y : MethodName) (bytes : ByteArray) (maxL : Nat) (ret : Option FieldType) (rm : Room) (as' : Array Value) (h0 : Heap) (Q : Option Value → Heap → List Loc → Prop) : Prop :=
  ∀ ws : List Jvm.Cond, MetFree l y (head1 (Jvm.Cond.code y bytes maxL ret :: ws) rm) (fun a U => a = as' ∧ Z.Warmed39 U.vm ∧ U.heap = h0) (fun _ _ _ _ _ => True) (fun _ U o U' => ∃ v L, o = .returned v ∧ Q v U'.heap L ∧ FrameEnd U o U' L rm.cells rm.slots)
/-- it returns v and nothing is written or made -/
abbrev Pure (v : Value) (h0 : Heap) (v' : Option Value) (h : Heap) (L : List Loc) : Prop := v' = some v ∧ L = [] ∧ h = h0
/-- what the law leaves -/
abbrev Law1 (h0 : Heap) (v : Option Value) (h : Heap) (L : List Loc) : Prop := v = some (.int 1) ∧ Fr h0.size L
theorem Con.mono {l : Launch} {Z : State} {y : MethodName} {bytes : ByteArray} {maxL : Nat} {ret : Option FieldType} {rm : Room} {as' : Array Value} {h0 : Heap} {Q Q' : Option Value → Heap → List Loc → Prop} (hM : Con l Z y bytes maxL ret rm as' h0 Q) (hQ : ∀ v h L, Q v h L → Q' v h L) : Con l Z y bytes maxL ret rm as' h0 Q' := by
  intro ws p e ha hc hk s m args below hf happ hP hK
  obtain ⟨n, o, h1, h2, h3, v, L, h4, h5, h6⟩ := hM ws p e ha hc hk s m args below hf happ hP hK
  exact ⟨n, o, h1, h2, h3, v, L, h4, hQ _ _ _ h5, h6⟩
theorem Con.law {l : Launch} {Z : State} {y : MethodName} {bytes : ByteArray} {maxL : Nat} {ret : Option FieldType} {rm : Room} {as' : Array Value} {h0 : Heap} {v : Value} (hM : Con l Z y bytes maxL ret rm as' h0 (Pure v h0)) (e : v = .int 1) : Con l Z y bytes maxL ret rm as' h0 (Law1 h0) :=
  hM.mono fun _ _ _ ⟨h1, h2, _⟩ => ⟨by rw [h1, e], by rw [h2]; exact Fr.nil _⟩
/-- where a walk must come to -/
abbrev Fin (p : Program) (e : Env) (below : List Frame) (B0 s : State) (C D : Nat) (Q : Option Value → Heap → List Loc → Prop) : Prop := ∃ s₂ o, Steps p.tables e below B0 s₂ ∧ s₂.status = .running ∧ Ended s₂ below o ∧ ∃ v L, o = .returned v ∧ Q v s₂.heap L ∧ FrameEnd s o s₂ L C D
section Ends
variable {p : Program} {l : Launch} {e : Env} {R : Room} {s : State} {m : MethodId} {args : Array Value} {below : List Frame} {meth : Method} {c : Code} {T B0 : State} {locs : List Loc} {cells slots C D : Nat} {pc : Nat} {Ls : Array Slot} {rest : List Value} {Q : Option Value → Heap → List Loc → Prop}
theorem retI (X : Stand p l e R s m args below meth c T locs cells slots) (hx : p.tables.exec = Jvm.exec) {z : Int32} (hret : meth.sig.returnType = some .int) (hd : decode c.code pc = .ok (.ireturn, 1)) {fs : List Frame}
    (hl : ∀ (f : JFrame) (acts : List Action), f.method = m → f.locked = none → f.entered = [] → (doReturn e (T.setTop f) acts (some (.int z))).1 = T.setFrames fs) : Steps p.tables e below (T.setTop (mkF m pc Ls (.int z :: rest))) (T.setFrames fs) :=
  retOut X hx hret rfl (Or.inl ⟨rfl, Or.inl rfl, z, rfl⟩) hd hl
theorem finI (X : Stand p l e R s m args below meth c T locs cells slots) (hx : p.tables.exec = Jvm.exec) (hlk : meth.locks = false) (hret : meth.sig.returnType = some .int) {z : Int32} (hd : decode c.code pc = .ok (.ireturn, 1))
    (K : ∀ t, Steps p.tables e below (T.setTop (mkF m pc Ls (.int z :: rest))) t → Steps p.tables e below B0 t) (hC : cells ≤ C) (hD : slots ≤ D) (hQ : Q (some (.int z)) T.heap locs) :
    ∃ s₂ o, Steps p.tables e below B0 s₂ ∧ s₂.status = .running ∧ Ended s₂ below o ∧ ∃ v L, o = .returned v ∧ Q v s₂.heap L ∧ FrameEnd s o s₂ L C D := by
  obtain ⟨fs, hr, hrun, hended, hW, hsame⟩ := X.leave (v := some (.int z)) (fun h => by rw [hret] at h; cases h) hlk
  exact ⟨_, _, K _ (retI X hx hret hd hr), hrun, hended, _, _, rfl, hQ, ⟨_, rfl⟩, hW, hsame.mono hC hD⟩
theorem finN (X : Stand p l e R s m args below meth c T locs cells slots) (hx : p.tables.exec = Jvm.exec) (hlk : meth.locks = false) {ty : FieldType} (hret : meth.sig.returnType = some ty) (ht : ty = .boolean ∨ ty = .byte ∨ ty = .char ∨ ty = .short) {z : Int32} (hd : decode c.code pc = .ok (.ireturn, 1))
    (K : ∀ t, Steps p.tables e below (T.setTop (mkF m pc Ls (.int z :: rest))) t → Steps p.tables e below B0 t) (hC : cells ≤ C) (hD : slots ≤ D) (hQ : Q (some (.int (nar ty z))) T.heap locs) :
    ∃ s₂ o, Steps p.tables e below B0 s₂ ∧ s₂.status = .running ∧ Ended s₂ below o ∧ ∃ v L, o = .returned v ∧ Q v s₂.heap L ∧ FrameEnd s o s₂ L C D := by
  obtain ⟨fs, hr, hrun, hended, hW, hsame⟩ := X.leave (v := some (.int (nar ty z))) (fun h => by rw [hret] at h; cases h) hlk
  exact ⟨_, _, K _ (retN X hx hret ht hd hr), hrun, hended, _, _, rfl, hQ, ⟨_, rfl⟩, hW, hsame.mono hC hD⟩
theorem finJ (X : Stand p l e R s m args below meth c T locs cells slots) (hx : p.tables.exec = Jvm.exec) (hlk : meth.locks = false) (hret : meth.sig.returnType = some .long) {z : Int64} (hd : decode c.code pc = .ok (.lreturn, 1))
    (K : ∀ t, Steps p.tables e below (T.setTop (mkF m pc Ls (.long z :: rest))) t → Steps p.tables e below B0 t) (hC : cells ≤ C) (hD : slots ≤ D) (hQ : Q (some (.long z)) T.heap locs) :
    ∃ s₂ o, Steps p.tables e below B0 s₂ ∧ s₂.status = .running ∧ Ended s₂ below o ∧ ∃ v L, o = .returned v ∧ Q v s₂.heap L ∧ FrameEnd s o s₂ L C D := by
  obtain ⟨fs, hr, hrun, hended, hW, hsame⟩ := X.leave (v := some (.long z)) (fun h => by rw [hret] at h; cases h) hlk
  exact ⟨_, _, K _ (retOut X hx hret rfl (Or.inr (Or.inl ⟨rfl, rfl, z, rfl⟩)) hd hr), hrun, hended, _, _, rfl, hQ, ⟨_, rfl⟩, hW, hsame.mono hC hD⟩
theorem narrow_ref {ty : FieldType} {v : Value} (ht : ty.isReference = true) (hv : v.isRef = true) : narrow ty v = v := by
  cases ty <;> first | (cases ht; done) | (cases v <;> first | rfl | (cases hv; done))
theorem finA (X : Stand p l e R s m args below meth c T locs cells slots) (hx : p.tables.exec = Jvm.exec) (hlk : meth.locks = false) {ty : FieldType} (hret : meth.sig.returnType = some ty) (ht : ty.isReference = true) {v : Value} (hv : v.isRef = true) (hd : decode c.code pc = .ok (.areturn, 1))
    (K : ∀ t, Steps p.tables e below (T.setTop (mkF m pc Ls (v :: rest))) t → Steps p.tables e below B0 t) (hC : cells ≤ C) (hD : slots ≤ D) (hQ : Q (some v) T.heap locs) :
    ∃ s₂ o, Steps p.tables e below B0 s₂ ∧ s₂.status = .running ∧ Ended s₂ below o ∧ ∃ v L, o = .returned v ∧ Q v s₂.heap L ∧ FrameEnd s o s₂ L C D := by
  obtain ⟨fs, hr, hrun, hended, hW, hsame⟩ := X.leave (v := some v) (fun h => by rw [hret] at h; cases h) hlk
  exact ⟨_, _, K _ (retOut X hx hret (narrow_ref ht hv) (Or.inr (Or.inr (Or.inr (Or.inr ⟨rfl, ht, hv⟩)))) hd hr), hrun, hended, _, _, rfl, hQ, ⟨_, rfl⟩, hW, hsame.mono hC hD⟩
theorem finV (X : Stand p l e R s m args below meth c T locs cells slots) (hx : p.tables.exec = Jvm.exec) (hlk : meth.locks = false) (hret : meth.sig.returnType = none) (hd : decode c.code pc = .ok (.return_, 1)) 
    (K : ∀ t, Steps p.tables e below (T.setTop (mkF m pc Ls [])) t → Steps p.tables e below B0 t) (hC : cells ≤ C) (hD : slots ≤ D) (hQ : Q none T.heap locs) :
    ∃ s₂ o, Steps p.tables e below B0 s₂ ∧ s₂.status = .running ∧ Ended s₂ below o ∧ ∃ v L, o = .returned v ∧ Q v s₂.heap L ∧ FrameEnd s o s₂ L C D := by
  obtain ⟨fs, hr, hrun, hended, hW, hsame⟩ := X.leave (v := none) (fun _ => rfl) hlk
  exact ⟨_, _, K _ (X.returnOut hx hret hd hr), hrun, hended, _, _, rfl, hQ, ⟨_, rfl⟩, hW, hsame.mono hC hD⟩
end Ends
section Calls
variable {p : Program} {l : Launch} {e : Env} {R : Room} {s : State} {m : MethodId} {args : Array Value} {below : List Frame} {meth : Method} {c : Code} {T : State} {locs : List Loc} {cells slots : Nat} {pc : Nat} {Ls : Array Slot} {Z : State} {a0 : Array Value} {h : Heap}
/-- a static call by its contract -/
theorem callC (X : Stand p l e R s m args below meth c T locs cells slots) (hx : p.tables.exec = Jvm.exec) (hZ : Z.Warmed39 s.vm) (eT : T.heap = h) {own : String} {index : Nat} {y : MethodName} {bytes : ByteArray} {maxL : Nat} {ret : Option FieldType} {rm : Room} {Q : Option Value → Heap → List Loc → Prop}
    (argsL rest : List Value) (hM : Con l Z y bytes maxL ret rm argsL.toArray h Q) (hown : s.vm.findClass own = some m.cls) (w1 : (Cond.methodLink own index y).before a0 Z = true) (w2 : (Cond.static y).before a0 Z = true) (w3 : (Cond.initialized y.cls).before a0 Z = true) (w4 : (Cond.code y bytes maxL ret).before a0 Z = true)
    (hy : y.cls ≠ "java/lang/invoke/MethodHandle" ∧ y.cls ≠ "java/lang/invoke/VarHandle") (W : Nat) (hf : rm.frames + 1 ≤ R.frames) (hl : W + (maxL + 11) + rm.locals ≤ R.locals) (hcR : cells + rm.cells ≤ R.cells) (hsR : slots + rm.slots ≤ R.slots) (hsz : Ls.size = c.maxLocals)
    {S : List Value} (hlen : ∀ sig, parseMethodDescriptor y.desc = some sig → argsL.length = sig.parameters.length) (hS : S = argsL.reverse ++ rest) (hW : (rest.map fun v => v.category).sum ≤ W) (hd : decode c.code pc = .ok (.invokestatic index, 3)) :
    ∃ (T' : State) (v : Option Value) (L : List Loc), Stand p l e R s m args below meth c T' (locs ++ L) (cells + rm.cells) (slots + rm.slots) ∧ Q v T'.heap L ∧ ∀ t, Steps p.tables e below (T'.setTop (mkF m (pc + 3) Ls (v.toList ++ rest))) t → Steps p.tables e below (T.setTop (mkF m pc Ls S)) t := by
  obtain ⟨v, _, ⟨T', L', k', n'⟩, -, X', ⟨L, hQ, l', y', z'⟩, st⟩ := Jvm.LawKit.callS X hx (y := y) hown (mvT hZ w1) (mvT hZ w2) (mvT hZ w3) (mvT hZ w4) hy (backOf (W := W) (hM []) hZ w4 w3 hf hl) (g := mkF m pc Ls S) rfl hsz (argsL := argsL) (rest := rest) hlen hS (by show 2 * 0 + _ ≤ _; rw [Nat.mul_zero, Nat.zero_add]; exact hW) hd (fun _ _ => ⟨rfl, eT, hcR, hsR⟩)
  dsimp only [Pt.U, Pt.locs, Pt.cells, Pt.slots] at X' l' y' z' st hQ
  subst l' y' z'
  exact ⟨T', v, L, X', hQ, st⟩
theorem callP (X : Stand p l e R s m args below meth c T locs cells slots) (hx : p.tables.exec = Jvm.exec) (hZ : Z.Warmed39 s.vm) (eT : T.heap = h) {own : String} {index : Nat} {y : MethodName} {bytes : ByteArray} {maxL : Nat} {ret : Option FieldType} {rm : Room} {v : Value}
    (argsL rest : List Value) (hM : Con l Z y bytes maxL ret rm argsL.toArray h (Pure v h)) (hown : s.vm.findClass own = some m.cls) (w1 : (Cond.methodLink own index y).before a0 Z = true) (w2 : (Cond.static y).before a0 Z = true) (w3 : (Cond.initialized y.cls).before a0 Z = true) (w4 : (Cond.code y bytes maxL ret).before a0 Z = true)
    (hy : y.cls ≠ "java/lang/invoke/MethodHandle" ∧ y.cls ≠ "java/lang/invoke/VarHandle") (W : Nat) (hrc : rm.cells = 0) (hrs : rm.slots = 0) (hf : rm.frames + 1 ≤ R.frames) (hl : W + (maxL + 11) + rm.locals ≤ R.locals) (hcR : cells ≤ R.cells) (hsR : slots ≤ R.slots) (hsz : Ls.size = c.maxLocals)
    {S : List Value} (hlen : ∀ sig, parseMethodDescriptor y.desc = some sig → argsL.length = sig.parameters.length) (hS : S = argsL.reverse ++ rest) (hW : (rest.map fun v => v.category).sum ≤ W) (hd : decode c.code pc = .ok (.invokestatic index, 3)) :
    ∃ T' : State, Stand p l e R s m args below meth c T' locs cells slots ∧ T'.heap = h ∧ ∀ t, Steps p.tables e below (T'.setTop (mkF m (pc + 3) Ls (v :: rest))) t → Steps p.tables e below (T.setTop (mkF m pc Ls S)) t := by
  obtain ⟨T', v', L, X', ⟨rfl, rfl, hh⟩, st⟩ := callC X hx hZ eT argsL rest hM hown w1 w2 w3 w4 hy W hf hl (by rw [hrc]; exact hcR) (by rw [hrs]; exact hsR) hsz hlen hS hW hd
  rw [hrc, hrs, List.append_nil] at X'
  exact ⟨T', X', hh, st⟩
/-- a virtual call by its contract -/
theorem callV (X : Stand p l e R s m args below meth c T locs cells slots) (hx : p.tables.exec = Jvm.exec) (hZ : Z.Warmed39 s.vm) (eT : T.heap = h) {own K : String} {index : Nat} {y : MethodName} {bytes : ByteArray} {maxL : Nat} {ret : Option FieldType} {rm : Room} {Q : Option Value → Heap → List Loc → Prop}
    (b : Addr) (argsL rest : List Value) (hM : Con l Z y bytes maxL ret rm (Value.ref b :: argsL).toArray h Q) (hown : s.vm.findClass own = some m.cls) (E : Exa Z h b K) (w1 : (Cond.methodLink own index y).before a0 Z = true) (w2 : (Cond.declares y).before a0 Z = true) (w3 : (Cond.selects K y y).before a0 Z = true) (w4 : (Cond.instanceMethod y).before a0 Z = true) (w5 : (Cond.initialized y.cls).before a0 Z = true) (w6 : (Cond.code y bytes maxL ret).before a0 Z = true)
    (hy : y.cls ≠ "java/lang/invoke/MethodHandle" ∧ y.cls ≠ "java/lang/invoke/VarHandle") (W : Nat) (hf : rm.frames + 1 ≤ R.frames) (hl : W + (maxL + 11) + rm.locals ≤ R.locals) (hcR : cells + rm.cells ≤ R.cells) (hsR : slots + rm.slots ≤ R.slots) (hsz : Ls.size = c.maxLocals)
    {S : List Value} (hlen : ∀ sig, parseMethodDescriptor y.desc = some sig → argsL.length = sig.parameters.length) (hS : S = argsL.reverse ++ .ref b :: rest) (hW : (rest.map fun v => v.category).sum ≤ W) (hd : decode c.code pc = .ok (.invokevirtual index, 3)) :
    ∃ (T' : State) (v : Option Value) (L : List Loc), Stand p l e R s m args below meth c T' (locs ++ L) (cells + rm.cells) (slots + rm.slots) ∧ Q v T'.heap L ∧ ∀ t, Steps p.tables e below (T'.setTop (mkF m (pc + 3) Ls (v.toList ++ rest))) t → Steps p.tables e below (T.setTop (mkF m pc Ls S)) t := by
  obtain ⟨cB, kB, q1, q2, q3⟩ := isOf hZ eT E
  obtain ⟨v, _, ⟨T', L', k', n'⟩, -, X', ⟨L, hQ, l', y', z'⟩, st⟩ := X.virtualBack hx (y := y) (z := y) hown (mvT hZ w1) (mvT hZ w2) (notFace_of_selects (args := #[]) (mvT hZ w3)) (mvT hZ w3) (mvT hZ w4) hy (backOf (W := W) (hM []) hZ w6 w5 hf hl) q1 q3 (g := mkF m pc Ls S) rfl hsz (Steps.refl _) (argsL := argsL) (rest := rest) hlen hS (by show 2 * 0 + _ ≤ _; rw [Nat.mul_zero, Nat.zero_add]; exact hW) hd (fun _ _ => ⟨rfl, eT, hcR, hsR⟩)
  dsimp only [Pt.U, Pt.locs, Pt.cells, Pt.slots] at X' l' y' z' st hQ
  subst l' y' z'
  exact ⟨T', v, L, X', hQ, fun t k => st.trans k⟩
theorem callVP (X : Stand p l e R s m args below meth c T locs cells slots) (hx : p.tables.exec = Jvm.exec) (hZ : Z.Warmed39 s.vm) (eT : T.heap = h) {own K : String} {index : Nat} {y : MethodName} {bytes : ByteArray} {maxL : Nat} {ret : Option FieldType} {rm : Room} {v : Value}
    (b : Addr) (argsL rest : List Value) (hM : Con l Z y bytes maxL ret rm (Value.ref b :: argsL).toArray h (Pure v h)) (hown : s.vm.findClass own = some m.cls) (E : Exa Z h b K) (w1 : (Cond.methodLink own index y).before a0 Z = true) (w2 : (Cond.declares y).before a0 Z = true) (w3 : (Cond.selects K y y).before a0 Z = true) (w4 : (Cond.instanceMethod y).before a0 Z = true) (w5 : (Cond.initialized y.cls).before a0 Z = true) (w6 : (Cond.code y bytes maxL ret).before a0 Z = true)
    (hy : y.cls ≠ "java/lang/invoke/MethodHandle" ∧ y.cls ≠ "java/lang/invoke/VarHandle") (W : Nat) (hrc : rm.cells = 0) (hrs : rm.slots = 0) (hf : rm.frames + 1 ≤ R.frames) (hl : W + (maxL + 11) + rm.locals ≤ R.locals) (hcR : cells ≤ R.cells) (hsR : slots ≤ R.slots) (hsz : Ls.size = c.maxLocals)
    {S : List Value} (hlen : ∀ sig, parseMethodDescriptor y.desc = some sig → argsL.length = sig.parameters.length) (hS : S = argsL.reverse ++ .ref b :: rest) (hW : (rest.map fun v => v.category).sum ≤ W) (hd : decode c.code pc = .ok (.invokevirtual index, 3)) :
    ∃ T' : State, Stand p l e R s m args below meth c T' locs cells slots ∧ T'.heap = h ∧ ∀ t, Steps p.tables e below (T'.setTop (mkF m (pc + 3) Ls (v :: rest))) t → Steps p.tables e below (T.setTop (mkF m pc Ls S)) t := by
  obtain ⟨T', v', L, X', ⟨rfl, rfl, hh⟩, st⟩ := callV X hx hZ eT b argsL rest hM hown E w1 w2 w3 w4 w5 w6 hy W hf hl (by rw [hrc]; exact hcR) (by rw [hrs]; exact hsR) hsz hlen hS hW hd
  rw [hrc, hrs, List.append_nil] at X'
  exact ⟨T', X', hh, st⟩
theorem getS (X : Stand p l e R s m args below meth c T locs cells slots) (hx : p.tables.exec = Jvm.exec) (hZ : Z.Warmed39 s.vm) (eT : T.heap = h) {own R0 O n d host : String} {index : Nat} (hown : s.vm.findClass own = some m.cls) (w : (Cond.fieldLink own index R0 n d).before a0 Z = true ∨ (Cond.fieldLinkNest own index R0 n d host).before a0 Z = true) (via : Via Z R0 O n d) {v : Value} (F : Sta Z h O n d v) {S : List Value} (hd : decode c.code pc = .ok (.getstatic index, 3)) :
    ∃ T' : State, Stand p l e R s m args below meth c T' locs cells slots ∧ T'.heap = h ∧ ∀ t, Steps p.tables e below (T'.setTop (mkF m (pc + 3) Ls (v :: S))) t → Steps p.tables e below (T.setTop (mkF m pc Ls S)) t := getS2 (g := mkF m pc Ls S) X hx hZ hown w via eT F rfl hd
theorem getF (X : Stand p l e R s m args below meth c T locs cells slots) (hx : p.tables.exec = Jvm.exec) (hZ : Z.Warmed39 s.vm) (eT : T.heap = h) {own R0 O n d host : String} {index : Nat} (hown : s.vm.findClass own = some m.cls) (w : (Cond.fieldLink own index R0 n d).before a0 Z = true ∨ (Cond.fieldLinkNest own index R0 n d host).before a0 Z = true) (via : Via Z R0 O n d) {a : Addr} {v : Value} (F : Fld Z h a O n d v) {S : List Value} (hd : decode c.code pc = .ok (.getfield index, 3)) :
    ∃ T' : State, Stand p l e R s m args below meth c T' locs cells slots ∧ T'.heap = h ∧ ∀ t, Steps p.tables e below (T'.setTop (mkF m (pc + 3) Ls (v :: S))) t → Steps p.tables e below (T.setTop (mkF m pc Ls (.ref a :: S))) t := Jvm.RoadKit.getF (g := mkF m pc Ls (.ref a :: S)) X hx hZ hown w via eT F rfl rfl hd
end Calls
end Jvm.Own
namespace Jvm.Pilot.@@N@@
open Jvm Jvm.ClassFile Sem Op Lib Jvm.Free Jvm.Stand Jvm.LawKit Jvm.RoadKit Bundle Jvm.Pilot.@@N@@.Jvm.D
theorem d1_0 : decode method_2_code 0 = .ok (.iload_n 0, 1) := by decide +kernel
theorem d1_1 : decode method_2_code 1 = .ok (.ifCond .ne 5, 3) := by decide +kernel
theorem d1_4 : decode method_2_code 4 = .ok (.iconst 0, 1) := by decide +kernel
theorem d1_5 : decode method_2_code 5 = .ok (.ireturn, 1) := by decide +kernel
theorem d1_6 : decode method_2_code 6 = .ok (.bipush 8, 2) := by decide +kernel
theorem d1_8 : decode method_2_code 8 = .ok (.iload_n 0, 1) := by decide +kernel
theorem d1_9 : decode method_2_code 9 = .ok (.iconst 1, 1) := by decide +kernel
theorem d1_10 : decode method_2_code 10 = .ok (.iand, 1) := by decide +kernel
theorem d1_11 : decode method_2_code 11 = .ok (.ifCond .eq 7, 3) := by decide +kernel
theorem d1_14 : decode method_2_code 14 = .ok (.iconst 4, 1) := by decide +kernel
theorem d1_15 : decode method_2_code 15 = .ok (.goto 4, 3) := by decide +kernel
theorem d1_18 : decode method_2_code 18 = .ok (.iconst 0, 1) := by decide +kernel
theorem d1_19 : decode method_2_code 19 = .ok (.ior, 1) := by decide +kernel
theorem d1_20 : decode method_2_code 20 = .ok (.iload_n 0, 1) := by decide +kernel
theorem d1_21 : decode method_2_code 21 = .ok (.iconst 1, 1) := by decide +kernel
theorem d1_22 : decode method_2_code 22 = .ok (.ishr, 1) := by decide +kernel
theorem d1_23 : decode method_2_code 23 = .ok (.ior, 1) := by decide +kernel
theorem d1_24 : decode method_2_code 24 = .ok (.ireturn, 1) := by decide +kernel
theorem pn_0 : plainName "com/example/stemshear/stemshear/ConditionStandInLetterPinLaw" = true := by first | (simp [plainName, overriddenIn]; done) | decide +kernel
theorem ef_1 (m : MethodId) (p0 : Int32) : entryFrame m #[(.int p0)] 1 = mkF m 0 #[.val (.int p0)] [] := by first | (simp [entryFrame, mkF, argsToLocals, Value.category]; done) | rfl
def F1 (p0 : Int32) : Int32 := (if p0 = (0 : Int32) then (0 : Int32) else (((8 : Int32) ||| (if (p0 &&& (1 : Int32)) = (0 : Int32) then (0 : Int32) else (4 : Int32))) ||| (p0 >>> ((1 : Int32) &&& 31))))
set_option maxRecDepth 65536 in
set_option maxHeartbeats 40000000 in
theorem c1 (l : Launch) (Z : State) (a0 : Array Value) (hw : ∀ d ∈ tables_1, d.before a0 Z = true) (p0 : Int32) (h0 : Heap) : Own.Con l Z (⟨"com/example/stemshear/stemshear/ConditionStandInLetterPinLaw", "prefix", "(I)I"⟩ : MethodName) method_2_code 1 (some .int) ({ frames := 0, cells := 0, slots := 0, locals := 0 } : Room) #[(.int p0)] h0 (Own.Pure (.int (F1 p0)) h0) := by
  intro ws
  refine MetFree.of_bodySF (plainFor_of_name pn_0) hisR ?_
  intro p e s m args below meth c s₁ Bd hml0 hP hK
  obtain ⟨rfl, hZ, hh⟩ := hP
  have hx := Bd.exec
  have hby := Bd.bytes
  have hml : c.maxLocals = 1 := hml0
  have hown : s.vm.findClass "com/example/stemshear/stemshear/ConditionStandInLetterPinLaw" = some m.cls := findClass_of_methodNamed Bd.named
  have hnm := (name_of_methodNamed Bd.named Bd.method).1
  have X0 : Stand p l e ({ frames := 0, cells := 0, slots := 0, locals := 0 } : Room) s m #[(.int p0)] below meth c s₁ [] 0 0 := Stand.of_body Bd
  have e0 : s₁.heap = h0 := by rw [← hh, Bd.state]; rfl
  have K0 : ∀ t, Steps p.tables e below (s₁.setTop (mkF m 0 #[.val (.int p0)] [])) t → Steps p.tables e below (s₁.setTop (entryFrame m #[(.int p0)] 1)) t := fun t k => castTop (ef_1 m p0) k
  generalize s₁.setTop (entryFrame m #[(.int p0)] 1) = B0 at K0 ⊢
  have K1 : ∀ t, Steps p.tables e below (s₁.setTop (mkF m 1 #[.val (.int p0)] [(.int p0)])) t → Steps p.tables e below B0 t := fun t k => K0 t (by
    refine Own.iloadN X0 hx (hb hby d1_0) rfl ?_
    exact k)
  by_cases hc2 : p0 = (0 : Int32)
  · have K3 : ∀ t, Steps p.tables e below (s₁.setTop (mkF m 5 #[.val (.int p0)] [(.int (0 : Int32))])) t → Steps p.tables e below B0 t := fun t k => K1 t (by
      refine Own.ifNo X0 hx (hb hby d1_1) ((if0 _ _).trans (teq hc2).2) ?_
      refine Own.iconst X0 hx (0 : Int32) (hb hby d1_4) rfl ?_
      exact k)
    exact Own.finI X0 hx (BodyLoose.notSynchronized Bd) Bd.returns (hb hby d1_5) K3 (by decide) (by decide) ⟨by unfold F1; first | (rw [if_pos hc2]; done) | (rw [if_pos hc2]; rfl), rfl, e0⟩
  · have K4 : ∀ t, Steps p.tables e below (s₁.setTop (mkF m 11 #[.val (.int p0)] [(.int (p0 &&& (1 : Int32))), (.int (8 : Int32))])) t → Steps p.tables e below B0 t := fun t k => K1 t (by
      refine Own.ifYes X0 hx 6 (hb hby d1_1) ((if0 _ _).trans (feq hc2).2) (by decide) (by decide) ?_
      refine Own.bipush X0 hx (8 : Int32) (hb hby d1_6) rfl ?_
      refine Own.iloadN X0 hx (hb hby d1_8) rfl ?_
      refine Own.iconst X0 hx (1 : Int32) (hb hby d1_9) rfl ?_
      refine Own.iand X0 hx (hb hby d1_10) ?_
      exact k)
    obtain ⟨x8, hx8⟩ : ∃ z : Int32, z = (if (p0 &&& (1 : Int32)) = (0 : Int32) then (0 : Int32) else (4 : Int32)) := ⟨_, rfl⟩
    obtain ⟨T9, X9, e9, K9⟩ : ∃ T' : State, Stand p l e ({ frames := 0, cells := 0, slots := 0, locals := 0 } : Room) s m #[(.int p0)] below meth c T' [] 0 0 ∧ T'.heap = h0 ∧ ∀ t, Steps p.tables e below (T'.setTop (mkF m 19 #[.val (.int p0)] [(.int x8), (.int (8 : Int32))])) t → Steps p.tables e below B0 t := by
      by_cases hc5 : (p0 &&& (1 : Int32)) = (0 : Int32)
      · have K6 : ∀ t, Steps p.tables e below (s₁.setTop (mkF m 19 #[.val (.int p0)] [(.int (0 : Int32)), (.int (8 : Int32))])) t → Steps p.tables e below B0 t := fun t k => K4 t (by
          refine Own.ifYes X0 hx 18 (hb hby d1_11) ((if0 _ _).trans (teq hc5).1) (by decide) (by decide) ?_
          refine Own.iconst X0 hx (0 : Int32) (hb hby d1_18) rfl ?_
          exact k)
        exact ⟨s₁, X0, e0, fun t k => K6 t (by rw [hx8, if_pos hc5] at k; exact k)⟩
      · have K7 : ∀ t, Steps p.tables e below (s₁.setTop (mkF m 19 #[.val (.int p0)] [(.int (4 : Int32)), (.int (8 : Int32))])) t → Steps p.tables e below B0 t := fun t k => K4 t (by
          refine Own.ifNo X0 hx (hb hby d1_11) ((if0 _ _).trans (feq hc5).1) ?_
          refine Own.iconst X0 hx (4 : Int32) (hb hby d1_14) rfl ?_
          refine Own.goto X0 hx 19 (hb hby d1_15) (by decide) (by decide) ?_
          exact k)
        exact ⟨s₁, X0, e0, fun t k => K7 t (by rw [hx8, if_neg hc5] at k; exact k)⟩
    have K10 : ∀ t, Steps p.tables e below (T9.setTop (mkF m 24 #[.val (.int p0)] [(.int (((8 : Int32) ||| x8) ||| (p0 >>> ((1 : Int32) &&& 31))))])) t → Steps p.tables e below B0 t := fun t k => K9 t (by
      refine Own.ior X9 hx (hb hby d1_19) ?_
      refine Own.iloadN X9 hx (hb hby d1_20) rfl ?_
      refine Own.iconst X9 hx (1 : Int32) (hb hby d1_21) rfl ?_
      refine Own.ishr X9 hx (hb hby d1_22) ?_
      refine Own.ior X9 hx (hb hby d1_23) ?_
      exact k)
    exact Own.finI X9 hx (BodyLoose.notSynchronized Bd) Bd.returns (hb hby d1_24) K10 (by decide) (by decide) ⟨by subst hx8; unfold F1; first | (rw [if_neg hc2]; done) | (rw [if_neg hc2]; rfl), rfl, e9⟩

theorem d2_0 : decode prog_10_method_27_code 0 = .ok (.iload_n 0, 1) := by decide +kernel
theorem d2_1 : decode prog_10_method_27_code 1 = .ok (.iconst 4, 1) := by decide +kernel
theorem d2_2 : decode prog_10_method_27_code 2 = .ok (.iand, 1) := by decide +kernel
theorem d2_3 : decode prog_10_method_27_code 3 = .ok (.ifCond .eq 7, 3) := by decide +kernel
theorem d2_6 : decode prog_10_method_27_code 6 = .ok (.iconst 1, 1) := by decide +kernel
theorem d2_7 : decode prog_10_method_27_code 7 = .ok (.goto 4, 3) := by decide +kernel
theorem d2_10 : decode prog_10_method_27_code 10 = .ok (.iconst 0, 1) := by decide +kernel
theorem d2_11 : decode prog_10_method_27_code 11 = .ok (.istore_n 2, 1) := by decide +kernel
theorem d2_12 : decode prog_10_method_27_code 12 = .ok (.iload_n 0, 1) := by decide +kernel
theorem d2_13 : decode prog_10_method_27_code 13 = .ok (.iconst 3, 1) := by decide +kernel
theorem d2_14 : decode prog_10_method_27_code 14 = .ok (.iand, 1) := by decide +kernel
theorem d2_15 : decode prog_10_method_27_code 15 = .ok (.iload_n 1, 1) := by decide +kernel
theorem d2_16 : decode prog_10_method_27_code 16 = .ok (.iconst 3, 1) := by decide +kernel
theorem d2_17 : decode prog_10_method_27_code 17 = .ok (.iand, 1) := by decide +kernel
theorem d2_18 : decode prog_10_method_27_code 18 = .ok (.if_icmp .ge 15, 3) := by decide +kernel
theorem d2_21 : decode prog_10_method_27_code 21 = .ok (.iload_n 2, 1) := by decide +kernel
theorem d2_22 : decode prog_10_method_27_code 22 = .ok (.ifCond .eq 8, 3) := by decide +kernel
theorem d2_25 : decode prog_10_method_27_code 25 = .ok (.bipush 98, 2) := by decide +kernel
theorem d2_27 : decode prog_10_method_27_code 27 = .ok (.goto 5, 3) := by decide +kernel
theorem d2_30 : decode prog_10_method_27_code 30 = .ok (.bipush 97, 2) := by decide +kernel
theorem d2_32 : decode prog_10_method_27_code 32 = .ok (.ireturn, 1) := by decide +kernel
theorem d2_33 : decode prog_10_method_27_code 33 = .ok (.iload_n 1, 1) := by decide +kernel
theorem d2_34 : decode prog_10_method_27_code 34 = .ok (.iconst 4, 1) := by decide +kernel
theorem d2_35 : decode prog_10_method_27_code 35 = .ok (.iand, 1) := by decide +kernel
theorem d2_36 : decode prog_10_method_27_code 36 = .ok (.ifCond .eq 8, 3) := by decide +kernel
theorem d2_39 : decode prog_10_method_27_code 39 = .ok (.bipush 97, 2) := by decide +kernel
theorem d2_41 : decode prog_10_method_27_code 41 = .ok (.goto 5, 3) := by decide +kernel
theorem d2_44 : decode prog_10_method_27_code 44 = .ok (.bipush 98, 2) := by decide +kernel
theorem d2_46 : decode prog_10_method_27_code 46 = .ok (.ireturn, 1) := by decide +kernel
theorem pn_1 : plainName "com/example/stemshear/stemshear/Condition" = true := by first | (simp [plainName, overriddenIn]; done) | decide +kernel
theorem ef_2 (m : MethodId) (p0 : Int32) (p1 : Int32) : entryFrame m #[(.int p0), (.int p1)] 3 = mkF m 0 #[.val (.int p0), .val (.int p1), .unset] [] := by first | (simp [entryFrame, mkF, argsToLocals, Value.category]; done) | rfl
def F2 (p0 : Int32) (p1 : Int32) : Int32 := (if (p0 &&& (3 : Int32)) < (p1 &&& (3 : Int32)) then (nar .char (if (if (p0 &&& (4 : Int32)) = (0 : Int32) then (0 : Int32) else (1 : Int32)) = (0 : Int32) then (97 : Int32) else (98 : Int32))) else (nar .char (if (p1 &&& (4 : Int32)) = (0 : Int32) then (98 : Int32) else (97 : Int32))))
set_option maxRecDepth 65536 in
set_option maxHeartbeats 40000000 in
theorem c2 (l : Launch) (Z : State) (a0 : Array Value) (hw : ∀ d ∈ tables_1, d.before a0 Z = true) (p0 : Int32) (p1 : Int32) (h0 : Heap) : Own.Con l Z (⟨"com/example/stemshear/stemshear/Condition", "standInLetter", "(II)C"⟩ : MethodName) prog_10_method_27_code 3 (some .char) ({ frames := 0, cells := 0, slots := 0, locals := 0 } : Room) #[(.int p0), (.int p1)] h0 (Own.Pure (.int (F2 p0 p1)) h0) := by
  intro ws
  refine MetFree.of_bodySF (plainFor_of_name pn_1) hisR ?_
  intro p e s m args below meth c s₁ Bd hml0 hP hK
  obtain ⟨rfl, hZ, hh⟩ := hP
  have hx := Bd.exec
  have hby := Bd.bytes
  have hml : c.maxLocals = 3 := hml0
  have hown : s.vm.findClass "com/example/stemshear/stemshear/Condition" = some m.cls := findClass_of_methodNamed Bd.named
  have hnm := (name_of_methodNamed Bd.named Bd.method).1
  have X0 : Stand p l e ({ frames := 0, cells := 0, slots := 0, locals := 0 } : Room) s m #[(.int p0), (.int p1)] below meth c s₁ [] 0 0 := Stand.of_body Bd
  have e0 : s₁.heap = h0 := by rw [← hh, Bd.state]; rfl
  have K0 : ∀ t, Steps p.tables e below (s₁.setTop (mkF m 0 #[.val (.int p0), .val (.int p1), .unset] [])) t → Steps p.tables e below (s₁.setTop (entryFrame m #[(.int p0), (.int p1)] 3)) t := fun t k => castTop (ef_2 m p0 p1) k
  generalize s₁.setTop (entryFrame m #[(.int p0), (.int p1)] 3) = B0 at K0 ⊢
  have K1 : ∀ t, Steps p.tables e below (s₁.setTop (mkF m 3 #[.val (.int p0), .val (.int p1), .unset] [(.int (p0 &&& (4 : Int32)))])) t → Steps p.tables e below B0 t := fun t k => K0 t (by
    refine Own.iloadN X0 hx (hb hby d2_0) rfl ?_
    refine Own.iconst X0 hx (4 : Int32) (hb hby d2_1) rfl ?_
    refine Own.iand X0 hx (hb hby d2_2) ?_
    exact k)
  obtain ⟨x5, hx5⟩ : ∃ z : Int32, z = (if (p0 &&& (4 : Int32)) = (0 : Int32) then (0 : Int32) else (1 : Int32)) := ⟨_, rfl⟩
  obtain ⟨T6, X6, e6, K6⟩ : ∃ T' : State, Stand p l e ({ frames := 0, cells := 0, slots := 0, locals := 0 } : Room) s m #[(.int p0), (.int p1)] below meth c T' [] 0 0 ∧ T'.heap = h0 ∧ ∀ t, Steps p.tables e below (T'.setTop (mkF m 11 #[.val (.int p0), .val (.int p1), .unset] [(.int x5)])) t → Steps p.tables e below B0 t := by
    by_cases hc2 : (p0 &&& (4 : Int32)) = (0 : Int32)
    · have K3 : ∀ t, Steps p.tables e below (s₁.setTop (mkF m 11 #[.val (.int p0), .val (.int p1), .unset] [(.int (0 : Int32))])) t → Steps p.tables e below B0 t := fun t k => K1 t (by
        refine Own.ifYes X0 hx 10 (hb hby d2_3) ((if0 _ _).trans (teq hc2).1) (by decide) (by decide) ?_
        refine Own.iconst X0 hx (0 : Int32) (hb hby d2_10) rfl ?_
        exact k)
      exact ⟨s₁, X0, e0, fun t k => K3 t (by rw [hx5, if_pos hc2] at k; exact k)⟩
    · have K4 : ∀ t, Steps p.tables e below (s₁.setTop (mkF m 11 #[.val (.int p0), .val (.int p1), .unset] [(.int (1 : Int32))])) t → Steps p.tables e below B0 t := fun t k => K1 t (by
        refine Own.ifNo X0 hx (hb hby d2_3) ((if0 _ _).trans (feq hc2).1) ?_
        refine Own.iconst X0 hx (1 : Int32) (hb hby d2_6) rfl ?_
        refine Own.goto X0 hx 11 (hb hby d2_7) (by decide) (by decide) ?_
        exact k)
      exact ⟨s₁, X0, e0, fun t k => K4 t (by rw [hx5, if_neg hc2] at k; exact k)⟩
  have K7 : ∀ t, Steps p.tables e below (T6.setTop (mkF m 18 #[.val (.int p0), .val (.int p1), .val (.int x5)] [(.int (p1 &&& (3 : Int32))), (.int (p0 &&& (3 : Int32)))])) t → Steps p.tables e below B0 t := fun t k => K6 t (by
    refine Own.istoreN X6 hx #[.val (.int p0), .val (.int p1), .val (.int x5)] (hb hby d2_11) rfl ?_
    refine Own.iloadN X6 hx (hb hby d2_12) rfl ?_
    refine Own.iconst X6 hx (3 : Int32) (hb hby d2_13) rfl ?_
    refine Own.iand X6 hx (hb hby d2_14) ?_
    refine Own.iloadN X6 hx (hb hby d2_15) rfl ?_
    refine Own.iconst X6 hx (3 : Int32) (hb hby d2_16) rfl ?_
    refine Own.iand X6 hx (hb hby d2_17) ?_
    exact k)
  by_cases hc8 : (p0 &&& (3 : Int32)) < (p1 &&& (3 : Int32))
  · have K9 : ∀ t, Steps p.tables e below (T6.setTop (mkF m 22 #[.val (.int p0), .val (.int p1), .val (.int x5)] [(.int x5)])) t → Steps p.tables e below B0 t := fun t k => K7 t (by
      refine Own.icmpNo X6 hx (hb hby d2_18) (tlt hc8).2.1 ?_
      refine Own.iloadN X6 hx (hb hby d2_21) rfl ?_
      exact k)
    obtain ⟨x13, hx13⟩ : ∃ z : Int32, z = (if x5 = (0 : Int32) then (97 : Int32) else (98 : Int32)) := ⟨_, rfl⟩
    obtain ⟨T14, X14, e14, K14⟩ : ∃ T' : State, Stand p l e ({ frames := 0, cells := 0, slots := 0, locals := 0 } : Room) s m #[(.int p0), (.int p1)] below meth c T' [] 0 0 ∧ T'.heap = h0 ∧ ∀ t, Steps p.tables e below (T'.setTop (mkF m 32 #[.val (.int p0), .val (.int p1), .val (.int x5)] [(.int x13)])) t → Steps p.tables e below B0 t := by
      by_cases hc10 : x5 = (0 : Int32)
      · have K11 : ∀ t, Steps p.tables e below (T6.setTop (mkF m 32 #[.val (.int p0), .val (.int p1), .val (.int x5)] [(.int (97 : Int32))])) t → Steps p.tables e below B0 t := fun t k => K9 t (by
          refine Own.ifYes X6 hx 30 (hb hby d2_22) ((if0 _ _).trans (teq hc10).1) (by decide) (by decide) ?_
          refine Own.bipush X6 hx (97 : Int32) (hb hby d2_30) rfl ?_
          exact k)
        exact ⟨T6, X6, e6, fun t k => K11 t (by rw [hx13, if_pos hc10] at k; exact k)⟩
      · have K12 : ∀ t, Steps p.tables e below (T6.setTop (mkF m 32 #[.val (.int p0), .val (.int p1), .val (.int x5)] [(.int (98 : Int32))])) t → Steps p.tables e below B0 t := fun t k => K9 t (by
          refine Own.ifNo X6 hx (hb hby d2_22) ((if0 _ _).trans (feq hc10).1) ?_
          refine Own.bipush X6 hx (98 : Int32) (hb hby d2_25) rfl ?_
          refine Own.goto X6 hx 32 (hb hby d2_27) (by decide) (by decide) ?_
          exact k)
        exact ⟨T6, X6, e6, fun t k => K12 t (by rw [hx13, if_neg hc10] at k; exact k)⟩
    exact Own.finN X14 hx (BodyLoose.notSynchronized Bd) Bd.returns (by simp) (hb hby d2_32) K14 (by decide) (by decide) ⟨by subst hx13 hx5; unfold F2; first | (rw [if_pos hc8]; done) | (rw [if_pos hc8]; rfl), rfl, e14⟩
  · have K15 : ∀ t, Steps p.tables e below (T6.setTop (mkF m 36 #[.val (.int p0), .val (.int p1), .val (.int x5)] [(.int (p1 &&& (4 : Int32)))])) t → Steps p.tables e below B0 t := fun t k => K7 t (by
      refine Own.icmpYes X6 hx 33 (hb hby d2_18) (flt hc8).2.1 (by decide) (by decide) ?_
      refine Own.iloadN X6 hx (hb hby d2_33) rfl ?_
      refine Own.iconst X6 hx (4 : Int32) (hb hby d2_34) rfl ?_
      refine Own.iand X6 hx (hb hby d2_35) ?_
      exact k)
    obtain ⟨x19, hx19⟩ : ∃ z : Int32, z = (if (p1 &&& (4 : Int32)) = (0 : Int32) then (98 : Int32) else (97 : Int32)) := ⟨_, rfl⟩
    obtain ⟨T20, X20, e20, K20⟩ : ∃ T' : State, Stand p l e ({ frames := 0, cells := 0, slots := 0, locals := 0 } : Room) s m #[(.int p0), (.int p1)] below meth c T' [] 0 0 ∧ T'.heap = h0 ∧ ∀ t, Steps p.tables e below (T'.setTop (mkF m 46 #[.val (.int p0), .val (.int p1), .val (.int x5)] [(.int x19)])) t → Steps p.tables e below B0 t := by
      by_cases hc16 : (p1 &&& (4 : Int32)) = (0 : Int32)
      · have K17 : ∀ t, Steps p.tables e below (T6.setTop (mkF m 46 #[.val (.int p0), .val (.int p1), .val (.int x5)] [(.int (98 : Int32))])) t → Steps p.tables e below B0 t := fun t k => K15 t (by
          refine Own.ifYes X6 hx 44 (hb hby d2_36) ((if0 _ _).trans (teq hc16).1) (by decide) (by decide) ?_
          refine Own.bipush X6 hx (98 : Int32) (hb hby d2_44) rfl ?_
          exact k)
        exact ⟨T6, X6, e6, fun t k => K17 t (by rw [hx19, if_pos hc16] at k; exact k)⟩
      · have K18 : ∀ t, Steps p.tables e below (T6.setTop (mkF m 46 #[.val (.int p0), .val (.int p1), .val (.int x5)] [(.int (97 : Int32))])) t → Steps p.tables e below B0 t := fun t k => K15 t (by
          refine Own.ifNo X6 hx (hb hby d2_36) ((if0 _ _).trans (feq hc16).1) ?_
          refine Own.bipush X6 hx (97 : Int32) (hb hby d2_39) rfl ?_
          refine Own.goto X6 hx 46 (hb hby d2_41) (by decide) (by decide) ?_
          exact k)
        exact ⟨T6, X6, e6, fun t k => K18 t (by rw [hx19, if_neg hc16] at k; exact k)⟩
    exact Own.finN X20 hx (BodyLoose.notSynchronized Bd) Bd.returns (by simp) (hb hby d2_46) K20 (by decide) (by decide) ⟨by subst hx19 hx5; unfold F2; first | (rw [if_neg hc8]; done) | (rw [if_neg hc8]; rfl), rfl, e20⟩

theorem d6_0 : decode jdk_29_method_69_code 0 = .ok (.iload_n 0, 1) := by decide +kernel
theorem d6_1 : decode jdk_29_method_69_code 1 = .ok (.iload_n 1, 1) := by decide +kernel
theorem d6_2 : decode jdk_29_method_69_code 2 = .ok (.if_icmp .gt 7, 3) := by decide +kernel
theorem d6_5 : decode jdk_29_method_69_code 5 = .ok (.iload_n 0, 1) := by decide +kernel
theorem d6_6 : decode jdk_29_method_69_code 6 = .ok (.goto 4, 3) := by decide +kernel
theorem d6_9 : decode jdk_29_method_69_code 9 = .ok (.iload_n 1, 1) := by decide +kernel
theorem d6_10 : decode jdk_29_method_69_code 10 = .ok (.ireturn, 1) := by decide +kernel
theorem ef_6 (m : MethodId) (p0 : Int32) (p1 : Int32) : entryFrame m #[(.int p0), (.int p1)] 2 = mkF m 0 #[.val (.int p0), .val (.int p1)] [] := by first | (simp [entryFrame, mkF, argsToLocals, Value.category]; done) | rfl
def F6 (p0 : Int32) (p1 : Int32) : Int32 := (if p1 < p0 then p1 else p0)
set_option maxRecDepth 65536 in
set_option maxHeartbeats 40000000 in
theorem c6 (l : Launch) (Z : State) (a0 : Array Value) (hw : ∀ d ∈ tables_1, d.before a0 Z = true) (p0 : Int32) (p1 : Int32) (h0 : Heap) : Own.Con l Z (⟨"java/lang/Math", "min", "(II)I"⟩ : MethodName) jdk_29_method_69_code 2 (some .int) ({ frames := 0, cells := 0, slots := 0, locals := 0 } : Room) #[(.int p0), (.int p1)] h0 (Own.Pure (.int (F6 p0 p1)) h0) := by
  intro ws
  refine MetFree.of_bodySF (Jvm.Free.JP.mathPlain rfl (by decide +kernel)) hisR ?_
  intro p e s m args below meth c s₁ Bd hml0 hP hK
  obtain ⟨rfl, hZ, hh⟩ := hP
  have hx := Bd.exec
  have hby := Bd.bytes
  have hml : c.maxLocals = 2 := hml0
  have hown : s.vm.findClass "java/lang/Math" = some m.cls := findClass_of_methodNamed Bd.named
  have hnm := (name_of_methodNamed Bd.named Bd.method).1
  have X0 : Stand p l e ({ frames := 0, cells := 0, slots := 0, locals := 0 } : Room) s m #[(.int p0), (.int p1)] below meth c s₁ [] 0 0 := Stand.of_body Bd
  have e0 : s₁.heap = h0 := by rw [← hh, Bd.state]; rfl
  have K0 : ∀ t, Steps p.tables e below (s₁.setTop (mkF m 0 #[.val (.int p0), .val (.int p1)] [])) t → Steps p.tables e below (s₁.setTop (entryFrame m #[(.int p0), (.int p1)] 2)) t := fun t k => castTop (ef_6 m p0 p1) k
  generalize s₁.setTop (entryFrame m #[(.int p0), (.int p1)] 2) = B0 at K0 ⊢
  have K1 : ∀ t, Steps p.tables e below (s₁.setTop (mkF m 2 #[.val (.int p0), .val (.int p1)] [(.int p1), (.int p0)])) t → Steps p.tables e below B0 t := fun t k => K0 t (by
    refine Own.iloadN X0 hx (hb hby d6_0) rfl ?_
    refine Own.iloadN X0 hx (hb hby d6_1) rfl ?_
    exact k)
  obtain ⟨x5, hx5⟩ : ∃ z : Int32, z = (if p1 < p0 then p1 else p0) := ⟨_, rfl⟩
  obtain ⟨T6, X6, e6, K6⟩ : ∃ T' : State, Stand p l e ({ frames := 0, cells := 0, slots := 0, locals := 0 } : Room) s m #[(.int p0), (.int p1)] below meth c T' [] 0 0 ∧ T'.heap = h0 ∧ ∀ t, Steps p.tables e below (T'.setTop (mkF m 10 #[.val (.int p0), .val (.int p1)] [(.int x5)])) t → Steps p.tables e below B0 t := by
    by_cases hc2 : p1 < p0
    · have K3 : ∀ t, Steps p.tables e below (s₁.setTop (mkF m 10 #[.val (.int p0), .val (.int p1)] [(.int p1)])) t → Steps p.tables e below B0 t := fun t k => K1 t (by
        refine Own.icmpYes X0 hx 9 (hb hby d6_2) (tlt hc2).2.2.1 (by decide) (by decide) ?_
        refine Own.iloadN X0 hx (hb hby d6_9) rfl ?_
        exact k)
      exact ⟨s₁, X0, e0, fun t k => K3 t (by rw [hx5, if_pos hc2] at k; exact k)⟩
    · have K4 : ∀ t, Steps p.tables e below (s₁.setTop (mkF m 10 #[.val (.int p0), .val (.int p1)] [(.int p0)])) t → Steps p.tables e below B0 t := fun t k => K1 t (by
        refine Own.icmpNo X0 hx (hb hby d6_2) (flt hc2).2.2.1 ?_
        refine Own.iloadN X0 hx (hb hby d6_5) rfl ?_
        refine Own.goto X0 hx 10 (hb hby d6_6) (by decide) (by decide) ?_
        exact k)
      exact ⟨s₁, X0, e0, fun t k => K4 t (by rw [hx5, if_neg hc2] at k; exact k)⟩
  exact Own.finI X6 hx (BodyLoose.notSynchronized Bd) Bd.returns (hb hby d6_10) K6 (by decide) (by decide) ⟨by subst hx5; unfold F6; rfl, rfl, e6⟩

theorem d5_0 : decode prog_10_method_7_code 0 = .ok (.getstatic 54, 3) := by decide +kernel
theorem d5_3 : decode prog_10_method_7_code 3 = .ok (.iload_n 0, 1) := by decide +kernel
theorem d5_4 : decode prog_10_method_7_code 4 = .ok (.getstatic 54, 3) := by decide +kernel
theorem d5_7 : decode prog_10_method_7_code 7 = .ok (.arraylength, 1) := by decide +kernel
theorem d5_8 : decode prog_10_method_7_code 8 = .ok (.iconst 1, 1) := by decide +kernel
theorem d5_9 : decode prog_10_method_7_code 9 = .ok (.isub, 1) := by decide +kernel
theorem d5_10 : decode prog_10_method_7_code 10 = .ok (.invokestatic 58, 3) := by decide +kernel
theorem d5_13 : decode prog_10_method_7_code 13 = .ok (.baload, 1) := by decide +kernel
theorem d5_14 : decode prog_10_method_7_code 14 = .ok (.ireturn, 1) := by decide +kernel
theorem pd_0 : parseMethodDescriptor "(II)I" = some ⟨[.int, .int], some .int⟩ := by decide +kernel
theorem ef_5 (m : MethodId) (p0 : Int32) : entryFrame m #[(.int p0)] 1 = mkF m 0 #[.val (.int p0)] [] := by first | (simp [entryFrame, mkF, argsToLocals, Value.category]; done) | rfl
def F5 (p0 : Int32) (v : Int32) : Int32 := v
set_option maxRecDepth 65536 in
set_option maxHeartbeats 40000000 in
theorem c5 (l : Launch) (Z : State) (a0 : Array Value) (hw : ∀ d ∈ tables_1, d.before a0 Z = true) (p0 : Int32) (w : Addr) (cl : Cell) (v : Int32) (h0 : Heap) (SK : Sta Z h0 "com/example/stemshear/stemshear/Condition" "KINDS" "[B" (.ref w)) (AK : Arr Z h0 w cl .byte) (hs : cl.slots.size.toInt32 = 128) (hlo : ¬ p0 < 0) (hhi : ¬ (127 : Int32) < p0) (hat : cl.slots[p0.toNatClampNeg]? = some (.int v)) : Own.Con l Z (⟨"com/example/stemshear/stemshear/Condition", "kind", "(C)I"⟩ : MethodName) prog_10_method_7_code 1 (some .int) ({ frames := 1, cells := 0, slots := 0, locals := 14 } : Room) #[(.int p0)] h0 (Own.Pure (.int (F5 p0 v)) h0) := by
  intro ws
  refine MetFree.of_bodySF (plainFor_of_name pn_1) hisR ?_
  intro p e s m args below meth c s₁ Bd hml0 hP hK
  obtain ⟨rfl, hZ, hh⟩ := hP
  have hx := Bd.exec
  have hby := Bd.bytes
  have hml : c.maxLocals = 1 := hml0
  have hown : s.vm.findClass "com/example/stemshear/stemshear/Condition" = some m.cls := findClass_of_methodNamed Bd.named
  have hnm := (name_of_methodNamed Bd.named Bd.method).1
  have X0 : Stand p l e ({ frames := 1, cells := 0, slots := 0, locals := 14 } : Room) s m #[(.int p0)] below meth c s₁ [] 0 0 := Stand.of_body Bd
  have e0 : s₁.heap = h0 := by rw [← hh, Bd.state]; rfl
  have K0 : ∀ t, Steps p.tables e below (s₁.setTop (mkF m 0 #[.val (.int p0)] [])) t → Steps p.tables e below (s₁.setTop (entryFrame m #[(.int p0)] 1)) t := fun t k => castTop (ef_5 m p0) k
  generalize s₁.setTop (entryFrame m #[(.int p0)] 1) = B0 at K0 ⊢
  obtain ⟨T1, X1, e1, st1⟩ := Own.getS (Ls := #[.val (.int p0)]) X0 hx hZ e0 hown (host := "") (Or.inl (hw _ (List.mem_of_getElem? (i := 18) rfl))) Via.refl SK (S := []) (hb hby d5_0)
  have K2 : ∀ t, Steps p.tables e below (T1.setTop (mkF m 3 #[.val (.int p0)] [(.ref w)])) t → Steps p.tables e below B0 t := fun t k => K0 t (st1 t k)
  have K3 : ∀ t, Steps p.tables e below (T1.setTop (mkF m 4 #[.val (.int p0)] [(.int p0), (.ref w)])) t → Steps p.tables e below B0 t := fun t k => K2 t (by
    refine Own.iloadN X1 hx (hb hby d5_3) rfl ?_
    exact k)
  obtain ⟨T4, X4, e4, st4⟩ := Own.getS (Ls := #[.val (.int p0)]) X1 hx hZ e1 hown (host := "") (Or.inl (hw _ (List.mem_of_getElem? (i := 18) rfl))) Via.refl SK (S := [(.int p0), (.ref w)]) (hb hby d5_4)
  have K5 : ∀ t, Steps p.tables e below (T4.setTop (mkF m 7 #[.val (.int p0)] [(.ref w), (.int p0), (.ref w)])) t → Steps p.tables e below B0 t := fun t k => K3 t (st4 t k)
  have K6 : ∀ t, Steps p.tables e below (T4.setTop (mkF m 10 #[.val (.int p0)] [(.int ((128 : Int32) - (1 : Int32))), (.int p0), (.ref w)])) t → Steps p.tables e below B0 t := fun t k => K5 t (by
    refine Own.arraylength X4 hx (128 : Int32) hZ e4 AK hs (hb hby d5_7) ?_
    refine Own.iconst X4 hx (1 : Int32) (hb hby d5_8) rfl ?_
    refine Own.isub X4 hx (hb hby d5_9) ?_
    exact k)
  obtain ⟨T7, X7, e7, st7⟩ := Own.callP (Ls := #[.val (.int p0)]) X4 hx hZ e4 [(.int p0), (.int ((128 : Int32) - (1 : Int32)))] [(.ref w)] (c6 l Z a0 hw p0 ((128 : Int32) - (1 : Int32))  h0 ) hown (hw _ (List.mem_of_getElem? (i := 20) rfl)) (hw _ (List.mem_of_getElem? (i := 21) rfl)) (hw _ (List.mem_of_getElem? (i := 22) rfl)) (hw _ (List.mem_of_getElem? (i := 23) rfl)) (by decide) 1 rfl rfl (by decide) (by decide) (by decide) (by decide) (by rw [hml]; rfl) (lenOf pd_0 rfl) rfl (Nat.le_of_eq rfl) (hb hby d5_10)
  have K8 : ∀ t, Steps p.tables e below (T7.setTop (mkF m 13 #[.val (.int p0)] [(.int (F6 p0 ((128 : Int32) - (1 : Int32)))), (.ref w)])) t → Steps p.tables e below B0 t := fun t k => K6 t (st7 t k)
  have ej : (F6 p0 ((128 : Int32) - (1 : Int32))) = p0 := by unfold F6; rw [if_neg (show ¬ (128 : Int32) - (1 : Int32) < p0 from hhi)]
  rw [ej] at K8
  have hin : ¬ (p0 < 0 ∨ cl.slots.size ≤ p0.toNatClampNeg) := fun q => q.elim hlo fun q => by have := (Array.getElem?_eq_some_iff.mp hat).1; omega
  have K9 : ∀ t, Steps p.tables e below (T7.setTop (mkF m 14 #[.val (.int p0)] [(.int v)])) t → Steps p.tables e below B0 t := fun t k => K8 t (by
    refine Own.baload X7 hx (.int v) hZ e7 AK hin hat (hb hby d5_13) ?_
    exact k)
  exact Own.finI X7 hx (BodyLoose.notSynchronized Bd) Bd.returns (hb hby d5_14) K9 (by decide) (by decide) ⟨by unfold F5; rfl, rfl, e7⟩

theorem d4_0 : decode prog_10_method_30_code 0 = .ok (.iload_n 0, 1) := by decide +kernel
theorem d4_1 : decode prog_10_method_30_code 1 = .ok (.bipush 121, 2) := by decide +kernel
theorem d4_3 : decode prog_10_method_30_code 3 = .ok (.if_icmp .ne 17, 3) := by decide +kernel
theorem d4_6 : decode prog_10_method_30_code 6 = .ok (.iload_n 1, 1) := by decide +kernel
theorem d4_7 : decode prog_10_method_30_code 7 = .ok (.ifCond .ne 11, 3) := by decide +kernel
theorem d4_10 : decode prog_10_method_30_code 10 = .ok (.iload_n 2, 1) := by decide +kernel
theorem d4_11 : decode prog_10_method_30_code 11 = .ok (.ifCond .ne 7, 3) := by decide +kernel
theorem d4_14 : decode prog_10_method_30_code 14 = .ok (.iconst 1, 1) := by decide +kernel
theorem d4_15 : decode prog_10_method_30_code 15 = .ok (.goto 4, 3) := by decide +kernel
theorem d4_18 : decode prog_10_method_30_code 18 = .ok (.iconst 0, 1) := by decide +kernel
theorem d4_19 : decode prog_10_method_30_code 19 = .ok (.ireturn, 1) := by decide +kernel
theorem d4_20 : decode prog_10_method_30_code 20 = .ok (.iload_n 0, 1) := by decide +kernel
theorem d4_21 : decode prog_10_method_30_code 21 = .ok (.invokestatic 130, 3) := by decide +kernel
theorem d4_24 : decode prog_10_method_30_code 24 = .ok (.iconst 1, 1) := by decide +kernel
theorem d4_25 : decode prog_10_method_30_code 25 = .ok (.if_icmp .ne 7, 3) := by decide +kernel
theorem d4_28 : decode prog_10_method_30_code 28 = .ok (.iconst 1, 1) := by decide +kernel
theorem d4_29 : decode prog_10_method_30_code 29 = .ok (.goto 4, 3) := by decide +kernel
theorem d4_32 : decode prog_10_method_30_code 32 = .ok (.iconst 0, 1) := by decide +kernel
theorem d4_33 : decode prog_10_method_30_code 33 = .ok (.ireturn, 1) := by decide +kernel
theorem pd_1 : parseMethodDescriptor "(C)I" = some ⟨[.char], some .int⟩ := by decide +kernel
theorem ef_4 (m : MethodId) (p0 : Int32) (p1 : Int32) (p2 : Int32) : entryFrame m #[(.int p0), (.int p1), (.int p2)] 3 = mkF m 0 #[.val (.int p0), .val (.int p1), .val (.int p2)] [] := by first | (simp [entryFrame, mkF, argsToLocals, Value.category]; done) | rfl
def F4 (p0 : Int32) (p1 : Int32) (p2 : Int32) (v : Int32) : Int32 := (if p0 = (121 : Int32) then (nar .boolean (if p1 = (0 : Int32) then (if p2 = (0 : Int32) then (1 : Int32) else (0 : Int32)) else (0 : Int32))) else (nar .boolean (if (F5 p0 v) = (1 : Int32) then (1 : Int32) else (0 : Int32))))
set_option maxRecDepth 65536 in
set_option maxHeartbeats 40000000 in
theorem c4 (l : Launch) (Z : State) (a0 : Array Value) (hw : ∀ d ∈ tables_1, d.before a0 Z = true) (p0 : Int32) (p1 : Int32) (p2 : Int32) (w : Addr) (cl : Cell) (v : Int32) (h0 : Heap) (SK : Sta Z h0 "com/example/stemshear/stemshear/Condition" "KINDS" "[B" (.ref w)) (AK : Arr Z h0 w cl .byte) (hs : cl.slots.size.toInt32 = 128) (hlo : ¬ p0 < 0) (hhi : ¬ (127 : Int32) < p0) (hat : cl.slots[p0.toNatClampNeg]? = some (.int v)) : Own.Con l Z (⟨"com/example/stemshear/stemshear/Condition", "isVowel", "(CZZ)Z"⟩ : MethodName) prog_10_method_30_code 3 (some .boolean) ({ frames := 2, cells := 0, slots := 0, locals := 26 } : Room) #[(.int p0), (.int p1), (.int p2)] h0 (Own.Pure (.int (F4 p0 p1 p2 v)) h0) := by
  intro ws
  refine MetFree.of_bodySF (plainFor_of_name pn_1) hisR ?_
  intro p e s m args below meth c s₁ Bd hml0 hP hK
  obtain ⟨rfl, hZ, hh⟩ := hP
  have hx := Bd.exec
  have hby := Bd.bytes
  have hml : c.maxLocals = 3 := hml0
  have hown : s.vm.findClass "com/example/stemshear/stemshear/Condition" = some m.cls := findClass_of_methodNamed Bd.named
  have hnm := (name_of_methodNamed Bd.named Bd.method).1
  have X0 : Stand p l e ({ frames := 2, cells := 0, slots := 0, locals := 26 } : Room) s m #[(.int p0), (.int p1), (.int p2)] below meth c s₁ [] 0 0 := Stand.of_body Bd
  have e0 : s₁.heap = h0 := by rw [← hh, Bd.state]; rfl
  have K0 : ∀ t, Steps p.tables e below (s₁.setTop (mkF m 0 #[.val (.int p0), .val (.int p1), .val (.int p2)] [])) t → Steps p.tables e below (s₁.setTop (entryFrame m #[(.int p0), (.int p1), (.int p2)] 3)) t := fun t k => castTop (ef_4 m p0 p1 p2) k
  generalize s₁.setTop (entryFrame m #[(.int p0), (.int p1), (.int p2)] 3) = B0 at K0 ⊢
  have K1 : ∀ t, Steps p.tables e below (s₁.setTop (mkF m 3 #[.val (.int p0), .val (.int p1), .val (.int p2)] [(.int (121 : Int32)), (.int p0)])) t → Steps p.tables e below B0 t := fun t k => K0 t (by
    refine Own.iloadN X0 hx (hb hby d4_0) rfl ?_
    refine Own.bipush X0 hx (121 : Int32) (hb hby d4_1) rfl ?_
    exact k)
  by_cases hc2 : p0 = (121 : Int32)
  · have K3 : ∀ t, Steps p.tables e below (s₁.setTop (mkF m 7 #[.val (.int p0), .val (.int p1), .val (.int p2)] [(.int p1)])) t → Steps p.tables e below B0 t := fun t k => K1 t (by
      refine Own.icmpNo X0 hx (hb hby d4_3) (teq hc2).2 ?_
      refine Own.iloadN X0 hx (hb hby d4_6) rfl ?_
      exact k)
    obtain ⟨x12, hx12⟩ : ∃ z : Int32, z = (if p1 = (0 : Int32) then (if p2 = (0 : Int32) then (1 : Int32) else (0 : Int32)) else (0 : Int32)) := ⟨_, rfl⟩
    obtain ⟨T13, X13, e13, K13⟩ : ∃ T' : State, Stand p l e ({ frames := 2, cells := 0, slots := 0, locals := 26 } : Room) s m #[(.int p0), (.int p1), (.int p2)] below meth c T' [] 0 0 ∧ T'.heap = h0 ∧ ∀ t, Steps p.tables e below (T'.setTop (mkF m 19 #[.val (.int p0), .val (.int p1), .val (.int p2)] [(.int x12)])) t → Steps p.tables e below B0 t := by
      by_cases hc4 : p1 = (0 : Int32)
      · have K5 : ∀ t, Steps p.tables e below (s₁.setTop (mkF m 11 #[.val (.int p0), .val (.int p1), .val (.int p2)] [(.int p2)])) t → Steps p.tables e below B0 t := fun t k => K3 t (by
          refine Own.ifNo X0 hx (hb hby d4_7) ((if0 _ _).trans (teq hc4).2) ?_
          refine Own.iloadN X0 hx (hb hby d4_10) rfl ?_
          exact k)
        obtain ⟨x9, hx9⟩ : ∃ z : Int32, z = (if p2 = (0 : Int32) then (1 : Int32) else (0 : Int32)) := ⟨_, rfl⟩
        obtain ⟨T10, X10, e10, K10⟩ : ∃ T' : State, Stand p l e ({ frames := 2, cells := 0, slots := 0, locals := 26 } : Room) s m #[(.int p0), (.int p1), (.int p2)] below meth c T' [] 0 0 ∧ T'.heap = h0 ∧ ∀ t, Steps p.tables e below (T'.setTop (mkF m 19 #[.val (.int p0), .val (.int p1), .val (.int p2)] [(.int x9)])) t → Steps p.tables e below B0 t := by
          by_cases hc6 : p2 = (0 : Int32)
          · have K7 : ∀ t, Steps p.tables e below (s₁.setTop (mkF m 19 #[.val (.int p0), .val (.int p1), .val (.int p2)] [(.int (1 : Int32))])) t → Steps p.tables e below B0 t := fun t k => K5 t (by
              refine Own.ifNo X0 hx (hb hby d4_11) ((if0 _ _).trans (teq hc6).2) ?_
              refine Own.iconst X0 hx (1 : Int32) (hb hby d4_14) rfl ?_
              refine Own.goto X0 hx 19 (hb hby d4_15) (by decide) (by decide) ?_
              exact k)
            exact ⟨s₁, X0, e0, fun t k => K7 t (by rw [hx9, if_pos hc6] at k; exact k)⟩
          · have K8 : ∀ t, Steps p.tables e below (s₁.setTop (mkF m 19 #[.val (.int p0), .val (.int p1), .val (.int p2)] [(.int (0 : Int32))])) t → Steps p.tables e below B0 t := fun t k => K5 t (by
              refine Own.ifYes X0 hx 18 (hb hby d4_11) ((if0 _ _).trans (feq hc6).2) (by decide) (by decide) ?_
              refine Own.iconst X0 hx (0 : Int32) (hb hby d4_18) rfl ?_
              exact k)
            exact ⟨s₁, X0, e0, fun t k => K8 t (by rw [hx9, if_neg hc6] at k; exact k)⟩
        exact ⟨T10, X10, e10, fun t k => K10 t (by subst hx9; rw [hx12, if_pos hc4] at k; exact k)⟩
      · have K11 : ∀ t, Steps p.tables e below (s₁.setTop (mkF m 19 #[.val (.int p0), .val (.int p1), .val (.int p2)] [(.int (0 : Int32))])) t → Steps p.tables e below B0 t := fun t k => K3 t (by
          refine Own.ifYes X0 hx 18 (hb hby d4_7) ((if0 _ _).trans (feq hc4).2) (by decide) (by decide) ?_
          refine Own.iconst X0 hx (0 : Int32) (hb hby d4_18) rfl ?_
          exact k)
        exact ⟨s₁, X0, e0, fun t k => K11 t (by rw [hx12, if_neg hc4] at k; exact k)⟩
    exact Own.finN X13 hx (BodyLoose.notSynchronized Bd) Bd.returns (by simp) (hb hby d4_19) K13 (by decide) (by decide) ⟨by subst hx12; unfold F4; first | (rw [if_pos hc2]; done) | (rw [if_pos hc2]; rfl), rfl, e13⟩
  · have K14 : ∀ t, Steps p.tables e below (s₁.setTop (mkF m 21 #[.val (.int p0), .val (.int p1), .val (.int p2)] [(.int p0)])) t → Steps p.tables e below B0 t := fun t k => K1 t (by
      refine Own.icmpYes X0 hx 20 (hb hby d4_3) (feq hc2).2 (by decide) (by decide) ?_
      refine Own.iloadN X0 hx (hb hby d4_20) rfl ?_
      exact k)
    obtain ⟨T15, X15, e15, st15⟩ := Own.callP (Ls := #[.val (.int p0), .val (.int p1), .val (.int p2)]) X0 hx hZ e0 [(.int p0)] [] (c5 l Z a0 hw p0 w cl v h0 SK AK hs hlo hhi hat) hown (hw _ (List.mem_of_getElem? (i := 15) rfl)) (hw _ (List.mem_of_getElem? (i := 16) rfl)) (hw _ (List.mem_of_getElem? (i := 7) rfl)) (hw _ (List.mem_of_getElem? (i := 17) rfl)) (by decide) 0 rfl rfl (by decide) (by decide) (by decide) (by decide) (by rw [hml]; rfl) (lenOf pd_1 rfl) rfl (Nat.le_of_eq rfl) (hb hby d4_21)
    have K16 : ∀ t, Steps p.tables e below (T15.setTop (mkF m 24 #[.val (.int p0), .val (.int p1), .val (.int p2)] [(.int (F5 p0 v))])) t → Steps p.tables e below B0 t := fun t k => K14 t (st15 t k)
    have K17 : ∀ t, Steps p.tables e below (T15.setTop (mkF m 25 #[.val (.int p0), .val (.int p1), .val (.int p2)] [(.int (1 : Int32)), (.int (F5 p0 v))])) t → Steps p.tables e below B0 t := fun t k => K16 t (by
      refine Own.iconst X15 hx (1 : Int32) (hb hby d4_24) rfl ?_
      exact k)
    obtain ⟨x21, hx21⟩ : ∃ z : Int32, z = (if (F5 p0 v) = (1 : Int32) then (1 : Int32) else (0 : Int32)) := ⟨_, rfl⟩
    obtain ⟨T22, X22, e22, K22⟩ : ∃ T' : State, Stand p l e ({ frames := 2, cells := 0, slots := 0, locals := 26 } : Room) s m #[(.int p0), (.int p1), (.int p2)] below meth c T' [] 0 0 ∧ T'.heap = h0 ∧ ∀ t, Steps p.tables e below (T'.setTop (mkF m 33 #[.val (.int p0), .val (.int p1), .val (.int p2)] [(.int x21)])) t → Steps p.tables e below B0 t := by
      by_cases hc18 : (F5 p0 v) = (1 : Int32)
      · have K19 : ∀ t, Steps p.tables e below (T15.setTop (mkF m 33 #[.val (.int p0), .val (.int p1), .val (.int p2)] [(.int (1 : Int32))])) t → Steps p.tables e below B0 t := fun t k => K17 t (by
          refine Own.icmpNo X15 hx (hb hby d4_25) (teq hc18).2 ?_
          refine Own.iconst X15 hx (1 : Int32) (hb hby d4_28) rfl ?_
          refine Own.goto X15 hx 33 (hb hby d4_29) (by decide) (by decide) ?_
          exact k)
        exact ⟨T15, X15, e15, fun t k => K19 t (by rw [hx21, if_pos hc18] at k; exact k)⟩
      · have K20 : ∀ t, Steps p.tables e below (T15.setTop (mkF m 33 #[.val (.int p0), .val (.int p1), .val (.int p2)] [(.int (0 : Int32))])) t → Steps p.tables e below B0 t := fun t k => K17 t (by
          refine Own.icmpYes X15 hx 32 (hb hby d4_25) (feq hc18).2 (by decide) (by decide) ?_
          refine Own.iconst X15 hx (0 : Int32) (hb hby d4_32) rfl ?_
          exact k)
        exact ⟨T15, X15, e15, fun t k => K20 t (by rw [hx21, if_neg hc18] at k; exact k)⟩
    exact Own.finN X22 hx (BodyLoose.notSynchronized Bd) Bd.returns (by simp) (hb hby d4_33) K22 (by decide) (by decide) ⟨by subst hx21; unfold F4; first | (rw [if_neg hc2]; done) | (rw [if_neg hc2]; rfl), rfl, e22⟩

theorem d3_0 : decode prog_10_method_26_code 0 = .ok (.iload_n 0, 1) := by decide +kernel
theorem d3_1 : decode prog_10_method_26_code 1 = .ok (.iconst 4, 1) := by decide +kernel
theorem d3_2 : decode prog_10_method_26_code 2 = .ok (.iand, 1) := by decide +kernel
theorem d3_3 : decode prog_10_method_26_code 3 = .ok (.ifCond .eq 7, 3) := by decide +kernel
theorem d3_6 : decode prog_10_method_26_code 6 = .ok (.iconst 1, 1) := by decide +kernel
theorem d3_7 : decode prog_10_method_26_code 7 = .ok (.goto 4, 3) := by decide +kernel
theorem d3_10 : decode prog_10_method_26_code 10 = .ok (.iconst 0, 1) := by decide +kernel
theorem d3_11 : decode prog_10_method_26_code 11 = .ok (.istore_n 2, 1) := by decide +kernel
theorem d3_12 : decode prog_10_method_26_code 12 = .ok (.iload_n 1, 1) := by decide +kernel
theorem d3_13 : decode prog_10_method_26_code 13 = .ok (.iload_n 0, 1) := by decide +kernel
theorem d3_14 : decode prog_10_method_26_code 14 = .ok (.ifCond .ne 7, 3) := by decide +kernel
theorem d3_17 : decode prog_10_method_26_code 17 = .ok (.iconst 1, 1) := by decide +kernel
theorem d3_18 : decode prog_10_method_26_code 18 = .ok (.goto 4, 3) := by decide +kernel
theorem d3_21 : decode prog_10_method_26_code 21 = .ok (.iconst 0, 1) := by decide +kernel
theorem d3_22 : decode prog_10_method_26_code 22 = .ok (.iload_n 2, 1) := by decide +kernel
theorem d3_23 : decode prog_10_method_26_code 23 = .ok (.invokestatic 150, 3) := by decide +kernel
theorem d3_26 : decode prog_10_method_26_code 26 = .ok (.istore_n 3, 1) := by decide +kernel
theorem d3_27 : decode prog_10_method_26_code 27 = .ok (.iload_n 0, 1) := by decide +kernel
theorem d3_28 : decode prog_10_method_26_code 28 = .ok (.iconst 3, 1) := by decide +kernel
theorem d3_29 : decode prog_10_method_26_code 29 = .ok (.iand, 1) := by decide +kernel
theorem d3_30 : decode prog_10_method_26_code 30 = .ok (.istore 4, 2) := by decide +kernel
theorem d3_32 : decode prog_10_method_26_code 32 = .ok (.iload_n 2, 1) := by decide +kernel
theorem d3_33 : decode prog_10_method_26_code 33 = .ok (.ifCond .eq 16, 3) := by decide +kernel
theorem d3_36 : decode prog_10_method_26_code 36 = .ok (.iload_n 3, 1) := by decide +kernel
theorem d3_37 : decode prog_10_method_26_code 37 = .ok (.ifCond .ne 12, 3) := by decide +kernel
theorem d3_40 : decode prog_10_method_26_code 40 = .ok (.iload 4, 2) := by decide +kernel
theorem d3_42 : decode prog_10_method_26_code 42 = .ok (.iconst 3, 1) := by decide +kernel
theorem d3_43 : decode prog_10_method_26_code 43 = .ok (.if_icmp .ge 6, 3) := by decide +kernel
theorem d3_46 : decode prog_10_method_26_code 46 = .ok (.iinc 4 1, 3) := by decide +kernel
theorem d3_49 : decode prog_10_method_26_code 49 = .ok (.iload 4, 2) := by decide +kernel
theorem d3_51 : decode prog_10_method_26_code 51 = .ok (.iload_n 3, 1) := by decide +kernel
theorem d3_52 : decode prog_10_method_26_code 52 = .ok (.ifCond .eq 7, 3) := by decide +kernel
theorem d3_55 : decode prog_10_method_26_code 55 = .ok (.iconst 4, 1) := by decide +kernel
theorem d3_56 : decode prog_10_method_26_code 56 = .ok (.goto 4, 3) := by decide +kernel
theorem d3_59 : decode prog_10_method_26_code 59 = .ok (.iconst 0, 1) := by decide +kernel
theorem d3_60 : decode prog_10_method_26_code 60 = .ok (.ior, 1) := by decide +kernel
theorem d3_61 : decode prog_10_method_26_code 61 = .ok (.bipush 8, 2) := by decide +kernel
theorem d3_63 : decode prog_10_method_26_code 63 = .ok (.ior, 1) := by decide +kernel
theorem d3_64 : decode prog_10_method_26_code 64 = .ok (.ireturn, 1) := by decide +kernel
theorem pd_2 : parseMethodDescriptor "(CZZ)Z" = some ⟨[.char, .boolean, .boolean], some .boolean⟩ := by decide +kernel
theorem ef_3 (m : MethodId) (p0 : Int32) (p1 : Int32) : entryFrame m #[(.int p0), (.int p1)] 5 = mkF m 0 #[.val (.int p0), .val (.int p1), .unset, .unset, .unset] [] := by first | (simp [entryFrame, mkF, argsToLocals, Value.category]; done) | rfl
def F3 (p0 : Int32) (p1 : Int32) (v : Int32) : Int32 := (((if (if (p0 &&& (4 : Int32)) = (0 : Int32) then (0 : Int32) else (1 : Int32)) = (0 : Int32) then (p0 &&& (3 : Int32)) else (if (F4 p1 (if p0 = (0 : Int32) then (1 : Int32) else (0 : Int32)) (if (p0 &&& (4 : Int32)) = (0 : Int32) then (0 : Int32) else (1 : Int32)) v) = (0 : Int32) then (if (p0 &&& (3 : Int32)) < (3 : Int32) then ((p0 &&& (3 : Int32)) + (1 : Int32)) else (p0 &&& (3 : Int32))) else (p0 &&& (3 : Int32)))) ||| (if (F4 p1 (if p0 = (0 : Int32) then (1 : Int32) else (0 : Int32)) (if (p0 &&& (4 : Int32)) = (0 : Int32) then (0 : Int32) else (1 : Int32)) v) = (0 : Int32) then (0 : Int32) else (4 : Int32))) ||| (8 : Int32))
set_option maxRecDepth 65536 in
set_option maxHeartbeats 40000000 in
theorem c3 (l : Launch) (Z : State) (a0 : Array Value) (hw : ∀ d ∈ tables_1, d.before a0 Z = true) (p0 : Int32) (p1 : Int32) (w : Addr) (cl : Cell) (v : Int32) (h0 : Heap) (SK : Sta Z h0 "com/example/stemshear/stemshear/Condition" "KINDS" "[B" (.ref w)) (AK : Arr Z h0 w cl .byte) (hs : cl.slots.size.toInt32 = 128) (hlo : ¬ p1 < 0) (hhi : ¬ (127 : Int32) < p1) (hat : cl.slots[p1.toNatClampNeg]? = some (.int v)) : Own.Con l Z (⟨"com/example/stemshear/stemshear/Condition", "afterLetter", "(IC)I"⟩ : MethodName) prog_10_method_26_code 5 (some .int) ({ frames := 3, cells := 0, slots := 0, locals := 40 } : Room) #[(.int p0), (.int p1)] h0 (Own.Pure (.int (F3 p0 p1 v)) h0) := by
  intro ws
  refine MetFree.of_bodySF (plainFor_of_name pn_1) hisR ?_
  intro p e s m args below meth c s₁ Bd hml0 hP hK
  obtain ⟨rfl, hZ, hh⟩ := hP
  have hx := Bd.exec
  have hby := Bd.bytes
  have hml : c.maxLocals = 5 := hml0
  have hown : s.vm.findClass "com/example/stemshear/stemshear/Condition" = some m.cls := findClass_of_methodNamed Bd.named
  have hnm := (name_of_methodNamed Bd.named Bd.method).1
  have X0 : Stand p l e ({ frames := 3, cells := 0, slots := 0, locals := 40 } : Room) s m #[(.int p0), (.int p1)] below meth c s₁ [] 0 0 := Stand.of_body Bd
  have e0 : s₁.heap = h0 := by rw [← hh, Bd.state]; rfl
  have K0 : ∀ t, Steps p.tables e below (s₁.setTop (mkF m 0 #[.val (.int p0), .val (.int p1), .unset, .unset, .unset] [])) t → Steps p.tables e below (s₁.setTop (entryFrame m #[(.int p0), (.int p1)] 5)) t := fun t k => castTop (ef_3 m p0 p1) k
  generalize s₁.setTop (entryFrame m #[(.int p0), (.int p1)] 5) = B0 at K0 ⊢
  have K1 : ∀ t, Steps p.tables e below (s₁.setTop (mkF m 3 #[.val (.int p0), .val (.int p1), .unset, .unset, .unset] [(.int (p0 &&& (4 : Int32)))])) t → Steps p.tables e below B0 t := fun t k => K0 t (by
    refine Own.iloadN X0 hx (hb hby d3_0) rfl ?_
    refine Own.iconst X0 hx (4 : Int32) (hb hby d3_1) rfl ?_
    refine Own.iand X0 hx (hb hby d3_2) ?_
    exact k)
  obtain ⟨x5, hx5⟩ : ∃ z : Int32, z = (if (p0 &&& (4 : Int32)) = (0 : Int32) then (0 : Int32) else (1 : Int32)) := ⟨_, rfl⟩
  obtain ⟨T6, X6, e6, K6⟩ : ∃ T' : State, Stand p l e ({ frames := 3, cells := 0, slots := 0, locals := 40 } : Room) s m #[(.int p0), (.int p1)] below meth c T' [] 0 0 ∧ T'.heap = h0 ∧ ∀ t, Steps p.tables e below (T'.setTop (mkF m 11 #[.val (.int p0), .val (.int p1), .unset, .unset, .unset] [(.int x5)])) t → Steps p.tables e below B0 t := by
    by_cases hc2 : (p0 &&& (4 : Int32)) = (0 : Int32)
    · have K3 : ∀ t, Steps p.tables e below (s₁.setTop (mkF m 11 #[.val (.int p0), .val (.int p1), .unset, .unset, .unset] [(.int (0 : Int32))])) t → Steps p.tables e below B0 t := fun t k => K1 t (by
        refine Own.ifYes X0 hx 10 (hb hby d3_3) ((if0 _ _).trans (teq hc2).1) (by decide) (by decide) ?_
        refine Own.iconst X0 hx (0 : Int32) (hb hby d3_10) rfl ?_
        exact k)
      exact ⟨s₁, X0, e0, fun t k => K3 t (by rw [hx5, if_pos hc2] at k; exact k)⟩
    · have K4 : ∀ t, Steps p.tables e below (s₁.setTop (mkF m 11 #[.val (.int p0), .val (.int p1), .unset, .unset, .unset] [(.int (1 : Int32))])) t → Steps p.tables e below B0 t := fun t k => K1 t (by
        refine Own.ifNo X0 hx (hb hby d3_3) ((if0 _ _).trans (feq hc2).1) ?_
        refine Own.iconst X0 hx (1 : Int32) (hb hby d3_6) rfl ?_
        refine Own.goto X0 hx 11 (hb hby d3_7) (by decide) (by decide) ?_
        exact k)
      exact ⟨s₁, X0, e0, fun t k => K4 t (by rw [hx5, if_neg hc2] at k; exact k)⟩
  have K7 : ∀ t, Steps p.tables e below (T6.setTop (mkF m 14 #[.val (.int p0), .val (.int p1), .val (.int x5), .unset, .unset] [(.int p0), (.int p1)])) t → Steps p.tables e below B0 t := fun t k => K6 t (by
    refine Own.istoreN X6 hx #[.val (.int p0), .val (.int p1), .val (.int x5), .unset, .unset] (hb hby d3_11) rfl ?_
    refine Own.iloadN X6 hx (hb hby d3_12) rfl ?_
    refine Own.iloadN X6 hx (hb hby d3_13) rfl ?_
    exact k)
  obtain ⟨x11, hx11⟩ : ∃ z : Int32, z = (if p0 = (0 : Int32) then (1 : Int32) else (0 : Int32)) := ⟨_, rfl⟩
  obtain ⟨T12, X12, e12, K12⟩ : ∃ T' : State, Stand p l e ({ frames := 3, cells := 0, slots := 0, locals := 40 } : Room) s m #[(.int p0), (.int p1)] below meth c T' [] 0 0 ∧ T'.heap = h0 ∧ ∀ t, Steps p.tables e below (T'.setTop (mkF m 22 #[.val (.int p0), .val (.int p1), .val (.int x5), .unset, .unset] [(.int x11), (.int p1)])) t → Steps p.tables e below B0 t := by
    by_cases hc8 : p0 = (0 : Int32)
    · have K9 : ∀ t, Steps p.tables e below (T6.setTop (mkF m 22 #[.val (.int p0), .val (.int p1), .val (.int x5), .unset, .unset] [(.int (1 : Int32)), (.int p1)])) t → Steps p.tables e below B0 t := fun t k => K7 t (by
        refine Own.ifNo X6 hx (hb hby d3_14) ((if0 _ _).trans (teq hc8).2) ?_
        refine Own.iconst X6 hx (1 : Int32) (hb hby d3_17) rfl ?_
        refine Own.goto X6 hx 22 (hb hby d3_18) (by decide) (by decide) ?_
        exact k)
      exact ⟨T6, X6, e6, fun t k => K9 t (by rw [hx11, if_pos hc8] at k; exact k)⟩
    · have K10 : ∀ t, Steps p.tables e below (T6.setTop (mkF m 22 #[.val (.int p0), .val (.int p1), .val (.int x5), .unset, .unset] [(.int (0 : Int32)), (.int p1)])) t → Steps p.tables e below B0 t := fun t k => K7 t (by
        refine Own.ifYes X6 hx 21 (hb hby d3_14) ((if0 _ _).trans (feq hc8).2) (by decide) (by decide) ?_
        refine Own.iconst X6 hx (0 : Int32) (hb hby d3_21) rfl ?_
        exact k)
      exact ⟨T6, X6, e6, fun t k => K10 t (by rw [hx11, if_neg hc8] at k; exact k)⟩
  have K13 : ∀ t, Steps p.tables e below (T12.setTop (mkF m 23 #[.val (.int p0), .val (.int p1), .val (.int x5), .unset, .unset] [(.int x5), (.int x11), (.int p1)])) t → Steps p.tables e below B0 t := fun t k => K12 t (by
    refine Own.iloadN X12 hx (hb hby d3_22) rfl ?_
    exact k)
  obtain ⟨T14, X14, e14, st14⟩ := Own.callP (Ls := #[.val (.int p0), .val (.int p1), .val (.int x5), .unset, .unset]) X12 hx hZ e12 [(.int p1), (.int x11), (.int x5)] [] (c4 l Z a0 hw p1 x11 x5 w cl v h0 SK AK hs hlo hhi hat) hown (hw _ (List.mem_of_getElem? (i := 12) rfl)) (hw _ (List.mem_of_getElem? (i := 13) rfl)) (hw _ (List.mem_of_getElem? (i := 7) rfl)) (hw _ (List.mem_of_getElem? (i := 14) rfl)) (by decide) 0 rfl rfl (by decide) (by decide) (by decide) (by decide) (by rw [hml]; rfl) (lenOf pd_2 rfl) rfl (Nat.le_of_eq rfl) (hb hby d3_23)
  have K15 : ∀ t, Steps p.tables e below (T14.setTop (mkF m 26 #[.val (.int p0), .val (.int p1), .val (.int x5), .unset, .unset] [(.int (F4 p1 x11 x5 v))])) t → Steps p.tables e below B0 t := fun t k => K13 t (st14 t k)
  have K16 : ∀ t, Steps p.tables e below (T14.setTop (mkF m 33 #[.val (.int p0), .val (.int p1), .val (.int x5), .val (.int (F4 p1 x11 x5 v)), .val (.int (p0 &&& (3 : Int32)))] [(.int x5)])) t → Steps p.tables e below B0 t := fun t k => K15 t (by
    refine Own.istoreN X14 hx #[.val (.int p0), .val (.int p1), .val (.int x5), .val (.int (F4 p1 x11 x5 v)), .unset] (hb hby d3_26) rfl ?_
    refine Own.iloadN X14 hx (hb hby d3_27) rfl ?_
    refine Own.iconst X14 hx (3 : Int32) (hb hby d3_28) rfl ?_
    refine Own.iand X14 hx (hb hby d3_29) ?_
    refine Own.istore X14 hx #[.val (.int p0), .val (.int p1), .val (.int x5), .val (.int (F4 p1 x11 x5 v)), .val (.int (p0 &&& (3 : Int32)))] (hb hby d3_30) rfl ?_
    refine Own.iloadN X14 hx (hb hby d3_32) rfl ?_
    exact k)
  obtain ⟨x30, hx30⟩ : ∃ z : Int32, z = (if x5 = (0 : Int32) then (p0 &&& (3 : Int32)) else (if (F4 p1 x11 x5 v) = (0 : Int32) then (if (p0 &&& (3 : Int32)) < (3 : Int32) then ((p0 &&& (3 : Int32)) + (1 : Int32)) else (p0 &&& (3 : Int32))) else (p0 &&& (3 : Int32)))) := ⟨_, rfl⟩
  obtain ⟨T31, X31, e31, K31⟩ : ∃ T' : State, Stand p l e ({ frames := 3, cells := 0, slots := 0, locals := 40 } : Room) s m #[(.int p0), (.int p1)] below meth c T' [] 0 0 ∧ T'.heap = h0 ∧ ∀ t, Steps p.tables e below (T'.setTop (mkF m 49 #[.val (.int p0), .val (.int p1), .val (.int x5), .val (.int (F4 p1 x11 x5 v)), .val (.int x30)] [])) t → Steps p.tables e below B0 t := by
    by_cases hc17 : x5 = (0 : Int32)
    · have K18 : ∀ t, Steps p.tables e below (T14.setTop (mkF m 49 #[.val (.int p0), .val (.int p1), .val (.int x5), .val (.int (F4 p1 x11 x5 v)), .val (.int (p0 &&& (3 : Int32)))] [])) t → Steps p.tables e below B0 t := fun t k => K16 t (by
        refine Own.ifYes X14 hx 49 (hb hby d3_33) ((if0 _ _).trans (teq hc17).1) (by decide) (by decide) ?_
        exact k)
      exact ⟨T14, X14, e14, fun t k => K18 t (by rw [hx30, if_pos hc17] at k; exact k)⟩
    · have K19 : ∀ t, Steps p.tables e below (T14.setTop (mkF m 37 #[.val (.int p0), .val (.int p1), .val (.int x5), .val (.int (F4 p1 x11 x5 v)), .val (.int (p0 &&& (3 : Int32)))] [(.int (F4 p1 x11 x5 v))])) t → Steps p.tables e below B0 t := fun t k => K16 t (by
        refine Own.ifNo X14 hx (hb hby d3_33) ((if0 _ _).trans (feq hc17).1) ?_
        refine Own.iloadN X14 hx (hb hby d3_36) rfl ?_
        exact k)
      obtain ⟨x28, hx28⟩ : ∃ z : Int32, z = (if (F4 p1 x11 x5 v) = (0 : Int32) then (if (p0 &&& (3 : Int32)) < (3 : Int32) then ((p0 &&& (3 : Int32)) + (1 : Int32)) else (p0 &&& (3 : Int32))) else (p0 &&& (3 : Int32))) := ⟨_, rfl⟩
      obtain ⟨T29, X29, e29, K29⟩ : ∃ T' : State, Stand p l e ({ frames := 3, cells := 0, slots := 0, locals := 40 } : Room) s m #[(.int p0), (.int p1)] below meth c T' [] 0 0 ∧ T'.heap = h0 ∧ ∀ t, Steps p.tables e below (T'.setTop (mkF m 49 #[.val (.int p0), .val (.int p1), .val (.int x5), .val (.int (F4 p1 x11 x5 v)), .val (.int x28)] [])) t → Steps p.tables e below B0 t := by
        by_cases hc20 : (F4 p1 x11 x5 v) = (0 : Int32)
        · have K21 : ∀ t, Steps p.tables e below (T14.setTop (mkF m 43 #[.val (.int p0), .val (.int p1), .val (.int x5), .val (.int (F4 p1 x11 x5 v)), .val (.int (p0 &&& (3 : Int32)))] [(.int (3 : Int32)), (.int (p0 &&& (3 : Int32)))])) t → Steps p.tables e below B0 t := fun t k => K19 t (by
            refine Own.ifNo X14 hx (hb hby d3_37) ((if0 _ _).trans (teq hc20).2) ?_
            refine Own.iload X14 hx (hb hby d3_40) rfl ?_
            refine Own.iconst X14 hx (3 : Int32) (hb hby d3_42) rfl ?_
            exact k)
          obtain ⟨x25, hx25⟩ : ∃ z : Int32, z = (if (p0 &&& (3 : Int32)) < (3 : Int32) then ((p0 &&& (3 : Int32)) + (1 : Int32)) else (p0 &&& (3 : Int32))) := ⟨_, rfl⟩
          obtain ⟨T26, X26, e26, K26⟩ : ∃ T' : State, Stand p l e ({ frames := 3, cells := 0, slots := 0, locals := 40 } : Room) s m #[(.int p0), (.int p1)] below meth c T' [] 0 0 ∧ T'.heap = h0 ∧ ∀ t, Steps p.tables e below (T'.setTop (mkF m 49 #[.val (.int p0), .val (.int p1), .val (.int x5), .val (.int (F4 p1 x11 x5 v)), .val (.int x25)] [])) t → Steps p.tables e below B0 t := by
            by_cases hc22 : (p0 &&& (3 : Int32)) < (3 : Int32)
            · have K23 : ∀ t, Steps p.tables e below (T14.setTop (mkF m 49 #[.val (.int p0), .val (.int p1), .val (.int x5), .val (.int (F4 p1 x11 x5 v)), .val (.int ((p0 &&& (3 : Int32)) + (1 : Int32)))] [])) t → Steps p.tables e below B0 t := fun t k => K21 t (by
                refine Own.icmpNo X14 hx (hb hby d3_43) (tlt hc22).2.1 ?_
                refine Own.iinc X14 hx ((p0 &&& (3 : Int32)) + (1 : Int32)) #[.val (.int p0), .val (.int p1), .val (.int x5), .val (.int (F4 p1 x11 x5 v)), .val (.int ((p0 &&& (3 : Int32)) + (1 : Int32)))] (hb hby d3_46) rfl rfl rfl ?_
                exact k)
              exact ⟨T14, X14, e14, fun t k => K23 t (by rw [hx25, if_pos hc22] at k; exact k)⟩
            · have K24 : ∀ t, Steps p.tables e below (T14.setTop (mkF m 49 #[.val (.int p0), .val (.int p1), .val (.int x5), .val (.int (F4 p1 x11 x5 v)), .val (.int (p0 &&& (3 : Int32)))] [])) t → Steps p.tables e below B0 t := fun t k => K21 t (by
                refine Own.icmpYes X14 hx 49 (hb hby d3_43) (flt hc22).2.1 (by decide) (by decide) ?_
                exact k)
              exact ⟨T14, X14, e14, fun t k => K24 t (by rw [hx25, if_neg hc22] at k; exact k)⟩
          exact ⟨T26, X26, e26, fun t k => K26 t (by subst hx25; rw [hx28, if_pos hc20] at k; exact k)⟩
        · have K27 : ∀ t, Steps p.tables e below (T14.setTop (mkF m 49 #[.val (.int p0), .val (.int p1), .val (.int x5), .val (.int (F4 p1 x11 x5 v)), .val (.int (p0 &&& (3 : Int32)))] [])) t → Steps p.tables e below B0 t := fun t k => K19 t (by
            refine Own.ifYes X14 hx 49 (hb hby d3_37) ((if0 _ _).trans (feq hc20).2) (by decide) (by decide) ?_
            exact k)
          exact ⟨T14, X14, e14, fun t k => K27 t (by rw [hx28, if_neg hc20] at k; exact k)⟩
      exact ⟨T29, X29, e29, fun t k => K29 t (by subst hx28; rw [hx30, if_neg hc17] at k; exact k)⟩
  have K32 : ∀ t, Steps p.tables e below (T31.setTop (mkF m 52 #[.val (.int p0), .val (.int p1), .val (.int x5), .val (.int (F4 p1 x11 x5 v)), .val (.int x30)] [(.int (F4 p1 x11 x5 v)), (.int x30)])) t → Steps p.tables e below B0 t := fun t k => K31 t (by
    refine Own.iload X31 hx (hb hby d3_49) rfl ?_
    refine Own.iloadN X31 hx (hb hby d3_51) rfl ?_
    exact k)
  obtain ⟨x36, hx36⟩ : ∃ z : Int32, z = (if (F4 p1 x11 x5 v) = (0 : Int32) then (0 : Int32) else (4 : Int32)) := ⟨_, rfl⟩
  obtain ⟨T37, X37, e37, K37⟩ : ∃ T' : State, Stand p l e ({ frames := 3, cells := 0, slots := 0, locals := 40 } : Room) s m #[(.int p0), (.int p1)] below meth c T' [] 0 0 ∧ T'.heap = h0 ∧ ∀ t, Steps p.tables e below (T'.setTop (mkF m 60 #[.val (.int p0), .val (.int p1), .val (.int x5), .val (.int (F4 p1 x11 x5 v)), .val (.int x30)] [(.int x36), (.int x30)])) t → Steps p.tables e below B0 t := by
    by_cases hc33 : (F4 p1 x11 x5 v) = (0 : Int32)
    · have K34 : ∀ t, Steps p.tables e below (T31.setTop (mkF m 60 #[.val (.int p0), .val (.int p1), .val (.int x5), .val (.int (F4 p1 x11 x5 v)), .val (.int x30)] [(.int (0 : Int32)), (.int x30)])) t → Steps p.tables e below B0 t := fun t k => K32 t (by
        refine Own.ifYes X31 hx 59 (hb hby d3_52) ((if0 _ _).trans (teq hc33).1) (by decide) (by decide) ?_
        refine Own.iconst X31 hx (0 : Int32) (hb hby d3_59) rfl ?_
        exact k)
      exact ⟨T31, X31, e31, fun t k => K34 t (by rw [hx36, if_pos hc33] at k; exact k)⟩
    · have K35 : ∀ t, Steps p.tables e below (T31.setTop (mkF m 60 #[.val (.int p0), .val (.int p1), .val (.int x5), .val (.int (F4 p1 x11 x5 v)), .val (.int x30)] [(.int (4 : Int32)), (.int x30)])) t → Steps p.tables e below B0 t := fun t k => K32 t (by
        refine Own.ifNo X31 hx (hb hby d3_52) ((if0 _ _).trans (feq hc33).1) ?_
        refine Own.iconst X31 hx (4 : Int32) (hb hby d3_55) rfl ?_
        refine Own.goto X31 hx 60 (hb hby d3_56) (by decide) (by decide) ?_
        exact k)
      exact ⟨T31, X31, e31, fun t k => K35 t (by rw [hx36, if_neg hc33] at k; exact k)⟩
  have K38 : ∀ t, Steps p.tables e below (T37.setTop (mkF m 64 #[.val (.int p0), .val (.int p1), .val (.int x5), .val (.int (F4 p1 x11 x5 v)), .val (.int x30)] [(.int ((x30 ||| x36) ||| (8 : Int32)))])) t → Steps p.tables e below B0 t := fun t k => K37 t (by
    refine Own.ior X37 hx (hb hby d3_60) ?_
    refine Own.bipush X37 hx (8 : Int32) (hb hby d3_61) rfl ?_
    refine Own.ior X37 hx (hb hby d3_63) ?_
    exact k)
  exact Own.finI X37 hx (BodyLoose.notSynchronized Bd) Bd.returns (hb hby d3_64) K38 (by decide) (by decide) ⟨by subst hx36 hx30 hx11 hx5; unfold F3; rfl, rfl, e37⟩

theorem own_mask7 (x : Int32) : (x &&& 7).toInt = x.toInt % 2 ^ 3 := by
  have h1 : (x &&& 7).toInt = ((x.toBitVec &&& 7#32).toNat : Int) := by
    show (x &&& 7).toBitVec.toInt = _
    rw [Int32.toBitVec_and]
    have : (x.toBitVec &&& (7 : Int32).toBitVec).toNat ≤ 7 := by
      rw [BitVec.toNat_and]; exact Nat.and_le_right
    rw [BitVec.toInt_eq_toNat_cond, if_pos (by omega)]; rfl
  have h2 : (x.toBitVec &&& 7#32).toNat = x.toBitVec.toNat % 8 := by
    rw [BitVec.toNat_and]; exact Nat.and_two_pow_sub_one_eq_mod _ 3
  have h3 : x.toInt = x.toBitVec.toInt := rfl
  rw [h1, h2, h3, BitVec.toInt_eq_toNat_cond]
  split <;> omega
theorem own_and7 (x : Int32) : x &&& 7 ∈ ([0, 1, 2, 3, 4, 5, 6, 7] : List Int32) := by
  have h := own_mask7 x
  simp only [List.mem_cons, List.not_mem_nil, or_false, ← Int32.toInt_inj, h]
  have : x.toInt % 2 ^ 3 = 0 ∨ x.toInt % 2 ^ 3 = 1 ∨ x.toInt % 2 ^ 3 = 2 ∨ x.toInt % 2 ^ 3 = 3 ∨ x.toInt % 2 ^ 3 = 4 ∨ x.toInt % 2 ^ 3 = 5 ∨ x.toInt % 2 ^ 3 = 6 ∨ x.toInt % 2 ^ 3 = 7 := by omega
  exact this
def own_lenOf (u : Int32) : Int32 := (((2 : Int32) * (((8 : Int32) ||| u) &&& (3 : Int32))) + (if (if (((8 : Int32) ||| u) &&& (4 : Int32)) = (0 : Int32) then (0 : Int32) else (1 : Int32)) = (0 : Int32) then (if (((8 : Int32) ||| u) &&& (3 : Int32)) = (0 : Int32) then (1 : Int32) else (0 : Int32)) else (1 : Int32)))
theorem own_lens : ∀ u ∈ ([0, 1, 2, 3, 4, 5, 6, 7] : List Int32), 0 < (own_lenOf u).toInt ∧ (own_lenOf u).toInt ≤ 7 := by decide +kernel
theorem own_len (p0 : Int32) : (((2 : Int32) * (((8 : Int32) ||| (p0 &&& (7 : Int32))) &&& (3 : Int32))) + (if (if (((8 : Int32) ||| (p0 &&& (7 : Int32))) &&& (4 : Int32)) = (0 : Int32) then (0 : Int32) else (1 : Int32)) = (0 : Int32) then (if (((8 : Int32) ||| (p0 &&& (7 : Int32))) &&& (3 : Int32)) = (0 : Int32) then (1 : Int32) else (0 : Int32)) else (1 : Int32))) ≠ 0 := fun h => by
  have h1 := own_lens _ (own_and7 p0)
  rw [show own_lenOf (p0 &&& 7) = 0 from h] at h1
  exact absurd h1.1 (by decide)
def own_G (u r : Int32) : Int32 := (if (F2 (F1 r) ((8 : Int32) ||| u)) = (97 : Int32) then (nar .boolean (if (F3 (F1 r) (F2 (F1 r) ((8 : Int32) ||| u)) (1 : Int32)) = (if (r + (1 : Int32)) = (((2 : Int32) * (((8 : Int32) ||| u) &&& (3 : Int32))) + (if (if (((8 : Int32) ||| u) &&& (4 : Int32)) = (0 : Int32) then (0 : Int32) else (1 : Int32)) = (0 : Int32) then (if (((8 : Int32) ||| u) &&& (3 : Int32)) = (0 : Int32) then (1 : Int32) else (0 : Int32)) else (1 : Int32))) then ((8 : Int32) ||| u) else (F1 (r + (1 : Int32)))) then (1 : Int32) else (0 : Int32))) else (if (F2 (F1 r) ((8 : Int32) ||| u)) = (98 : Int32) then (nar .boolean (if (F3 (F1 r) (F2 (F1 r) ((8 : Int32) ||| u)) (0 : Int32)) = (if (r + (1 : Int32)) = (((2 : Int32) * (((8 : Int32) ||| u) &&& (3 : Int32))) + (if (if (((8 : Int32) ||| u) &&& (4 : Int32)) = (0 : Int32) then (0 : Int32) else (1 : Int32)) = (0 : Int32) then (if (((8 : Int32) ||| u) &&& (3 : Int32)) = (0 : Int32) then (1 : Int32) else (0 : Int32)) else (1 : Int32))) then ((8 : Int32) ||| u) else (F1 (r + (1 : Int32)))) then (1 : Int32) else (0 : Int32))) else (0 : Int32)))
theorem own_rem (k u : Int32) (hu : 0 < u.toInt) : 0 ≤ ((k &&& 2147483647) % u).toInt ∧ ((k &&& 2147483647) % u).toInt < u.toInt := by
  have h0 : 0 ≤ (k &&& 2147483647).toInt := by
    have : ¬ (k &&& 2147483647) < 0 := by
      rw [Jvm.Free.XT.and_neg32]; exact fun q => absurd q.2 (by decide)
    rw [Int32.lt_iff_toInt_lt] at this
    exact Int.not_lt.mp this
  rw [Int32.toInt_mod]
  exact ⟨Int.tmod_nonneg _ h0, Int.tmod_lt_of_pos _ hu⟩
theorem own_all : ∀ u ∈ ([0, 1, 2, 3, 4, 5, 6, 7] : List Int32), ∀ r ∈ ([0, 1, 2, 3, 4, 5, 6] : List Int32), r.toInt < (own_lenOf u).toInt → own_G u r = 1 := by decide +kernel
theorem own_small (r : Int32) (h0 : 0 ≤ r.toInt) (h1 : r.toInt < 7) : r ∈ ([0, 1, 2, 3, 4, 5, 6] : List Int32) := by
  simp only [List.mem_cons, List.not_mem_nil, or_false, ← Int32.toInt_inj]
  have : r.toInt = 0 ∨ r.toInt = 1 ∨ r.toInt = 2 ∨ r.toInt = 3 ∨ r.toInt = 4 ∨ r.toInt = 5 ∨ r.toInt = 6 := by omega
  exact this

theorem pd_3 : parseMethodDescriptor "(I)I" = some ⟨[.int], some .int⟩ := by decide +kernel
theorem pd_4 : parseMethodDescriptor "(II)C" = some ⟨[.int, .int], some .char⟩ := by decide +kernel
theorem pd_5 : parseMethodDescriptor "(IC)I" = some ⟨[.int, .char], some .int⟩ := by decide +kernel
theorem ef_0 (m : MethodId) (p0 : Int32) (p1 : Int32) : entryFrame m #[(.int p0), (.int p1)] maxLocals = mkF m 0 #[.val (.int p0), .val (.int p1), .unset, .unset, .unset, .unset, .unset, .unset, .unset, .unset] [] := by first | (simp [entryFrame, mkF, argsToLocals, Value.category, maxLocals]; done) | rfl
def F0 (p0 : Int32) (p1 : Int32) : Int32 := (if (F2 (F1 ((p1 &&& (2147483647 : Int32)) % (((2 : Int32) * (((8 : Int32) ||| (p0 &&& (7 : Int32))) &&& (3 : Int32))) + (if (if (((8 : Int32) ||| (p0 &&& (7 : Int32))) &&& (4 : Int32)) = (0 : Int32) then (0 : Int32) else (1 : Int32)) = (0 : Int32) then (if (((8 : Int32) ||| (p0 &&& (7 : Int32))) &&& (3 : Int32)) = (0 : Int32) then (1 : Int32) else (0 : Int32)) else (1 : Int32))))) ((8 : Int32) ||| (p0 &&& (7 : Int32)))) = (97 : Int32) then (nar .boolean (if (F3 (F1 ((p1 &&& (2147483647 : Int32)) % (((2 : Int32) * (((8 : Int32) ||| (p0 &&& (7 : Int32))) &&& (3 : Int32))) + (if (if (((8 : Int32) ||| (p0 &&& (7 : Int32))) &&& (4 : Int32)) = (0 : Int32) then (0 : Int32) else (1 : Int32)) = (0 : Int32) then (if (((8 : Int32) ||| (p0 &&& (7 : Int32))) &&& (3 : Int32)) = (0 : Int32) then (1 : Int32) else (0 : Int32)) else (1 : Int32))))) (F2 (F1 ((p1 &&& (2147483647 : Int32)) % (((2 : Int32) * (((8 : Int32) ||| (p0 &&& (7 : Int32))) &&& (3 : Int32))) + (if (if (((8 : Int32) ||| (p0 &&& (7 : Int32))) &&& (4 : Int32)) = (0 : Int32) then (0 : Int32) else (1 : Int32)) = (0 : Int32) then (if (((8 : Int32) ||| (p0 &&& (7 : Int32))) &&& (3 : Int32)) = (0 : Int32) then (1 : Int32) else (0 : Int32)) else (1 : Int32))))) ((8 : Int32) ||| (p0 &&& (7 : Int32)))) (1 : Int32)) = (if (((p1 &&& (2147483647 : Int32)) % (((2 : Int32) * (((8 : Int32) ||| (p0 &&& (7 : Int32))) &&& (3 : Int32))) + (if (if (((8 : Int32) ||| (p0 &&& (7 : Int32))) &&& (4 : Int32)) = (0 : Int32) then (0 : Int32) else (1 : Int32)) = (0 : Int32) then (if (((8 : Int32) ||| (p0 &&& (7 : Int32))) &&& (3 : Int32)) = (0 : Int32) then (1 : Int32) else (0 : Int32)) else (1 : Int32)))) + (1 : Int32)) = (((2 : Int32) * (((8 : Int32) ||| (p0 &&& (7 : Int32))) &&& (3 : Int32))) + (if (if (((8 : Int32) ||| (p0 &&& (7 : Int32))) &&& (4 : Int32)) = (0 : Int32) then (0 : Int32) else (1 : Int32)) = (0 : Int32) then (if (((8 : Int32) ||| (p0 &&& (7 : Int32))) &&& (3 : Int32)) = (0 : Int32) then (1 : Int32) else (0 : Int32)) else (1 : Int32))) then ((8 : Int32) ||| (p0 &&& (7 : Int32))) else (F1 (((p1 &&& (2147483647 : Int32)) % (((2 : Int32) * (((8 : Int32) ||| (p0 &&& (7 : Int32))) &&& (3 : Int32))) + (if (if (((8 : Int32) ||| (p0 &&& (7 : Int32))) &&& (4 : Int32)) = (0 : Int32) then (0 : Int32) else (1 : Int32)) = (0 : Int32) then (if (((8 : Int32) ||| (p0 &&& (7 : Int32))) &&& (3 : Int32)) = (0 : Int32) then (1 : Int32) else (0 : Int32)) else (1 : Int32)))) + (1 : Int32)))) then (1 : Int32) else (0 : Int32))) else (if (F2 (F1 ((p1 &&& (2147483647 : Int32)) % (((2 : Int32) * (((8 : Int32) ||| (p0 &&& (7 : Int32))) &&& (3 : Int32))) + (if (if (((8 : Int32) ||| (p0 &&& (7 : Int32))) &&& (4 : Int32)) = (0 : Int32) then (0 : Int32) else (1 : Int32)) = (0 : Int32) then (if (((8 : Int32) ||| (p0 &&& (7 : Int32))) &&& (3 : Int32)) = (0 : Int32) then (1 : Int32) else (0 : Int32)) else (1 : Int32))))) ((8 : Int32) ||| (p0 &&& (7 : Int32)))) = (98 : Int32) then (nar .boolean (if (F3 (F1 ((p1 &&& (2147483647 : Int32)) % (((2 : Int32) * (((8 : Int32) ||| (p0 &&& (7 : Int32))) &&& (3 : Int32))) + (if (if (((8 : Int32) ||| (p0 &&& (7 : Int32))) &&& (4 : Int32)) = (0 : Int32) then (0 : Int32) else (1 : Int32)) = (0 : Int32) then (if (((8 : Int32) ||| (p0 &&& (7 : Int32))) &&& (3 : Int32)) = (0 : Int32) then (1 : Int32) else (0 : Int32)) else (1 : Int32))))) (F2 (F1 ((p1 &&& (2147483647 : Int32)) % (((2 : Int32) * (((8 : Int32) ||| (p0 &&& (7 : Int32))) &&& (3 : Int32))) + (if (if (((8 : Int32) ||| (p0 &&& (7 : Int32))) &&& (4 : Int32)) = (0 : Int32) then (0 : Int32) else (1 : Int32)) = (0 : Int32) then (if (((8 : Int32) ||| (p0 &&& (7 : Int32))) &&& (3 : Int32)) = (0 : Int32) then (1 : Int32) else (0 : Int32)) else (1 : Int32))))) ((8 : Int32) ||| (p0 &&& (7 : Int32)))) (0 : Int32)) = (if (((p1 &&& (2147483647 : Int32)) % (((2 : Int32) * (((8 : Int32) ||| (p0 &&& (7 : Int32))) &&& (3 : Int32))) + (if (if (((8 : Int32) ||| (p0 &&& (7 : Int32))) &&& (4 : Int32)) = (0 : Int32) then (0 : Int32) else (1 : Int32)) = (0 : Int32) then (if (((8 : Int32) ||| (p0 &&& (7 : Int32))) &&& (3 : Int32)) = (0 : Int32) then (1 : Int32) else (0 : Int32)) else (1 : Int32)))) + (1 : Int32)) = (((2 : Int32) * (((8 : Int32) ||| (p0 &&& (7 : Int32))) &&& (3 : Int32))) + (if (if (((8 : Int32) ||| (p0 &&& (7 : Int32))) &&& (4 : Int32)) = (0 : Int32) then (0 : Int32) else (1 : Int32)) = (0 : Int32) then (if (((8 : Int32) ||| (p0 &&& (7 : Int32))) &&& (3 : Int32)) = (0 : Int32) then (1 : Int32) else (0 : Int32)) else (1 : Int32))) then ((8 : Int32) ||| (p0 &&& (7 : Int32))) else (F1 (((p1 &&& (2147483647 : Int32)) % (((2 : Int32) * (((8 : Int32) ||| (p0 &&& (7 : Int32))) &&& (3 : Int32))) + (if (if (((8 : Int32) ||| (p0 &&& (7 : Int32))) &&& (4 : Int32)) = (0 : Int32) then (0 : Int32) else (1 : Int32)) = (0 : Int32) then (if (((8 : Int32) ||| (p0 &&& (7 : Int32))) &&& (3 : Int32)) = (0 : Int32) then (1 : Int32) else (0 : Int32)) else (1 : Int32)))) + (1 : Int32)))) then (1 : Int32) else (0 : Int32))) else (0 : Int32)))
set_option maxRecDepth 65536 in
set_option maxHeartbeats 40000000 in
theorem c0 (l : Launch) (Z : State) (a0 : Array Value) (hw : ∀ d ∈ tables_1, d.before a0 Z = true) (p0 : Int32) (p1 : Int32) (w : Addr) (cl : Cell) (h0 : Heap) (SK : Sta Z h0 "com/example/stemshear/stemshear/Condition" "KINDS" "[B" (.ref w)) (AK : Arr Z h0 w cl .byte) (hs : cl.slots.size.toInt32 = 128) (hat97 : cl.slots[97]? = some (.int 1)) (hat98 : cl.slots[98]? = some (.int 0)) : Own.Con l Z x code maxLocals ret room_1 #[(.int p0), (.int p1)] h0 (Own.Pure (.int (F0 p0 p1)) h0) := by
  intro ws
  refine MetFree.of_bodySF (plainFor_of_name pn_0) hisR ?_
  intro p e s m args below meth c s₁ Bd hml0 hP hK
  obtain ⟨rfl, hZ, hh⟩ := hP
  have hx := Bd.exec
  have hby := Bd.bytes
  have hml : c.maxLocals = 10 := hml0
  have hown : s.vm.findClass "com/example/stemshear/stemshear/ConditionStandInLetterPinLaw" = some m.cls := findClass_of_methodNamed Bd.named
  have hnm := (name_of_methodNamed Bd.named Bd.method).1
  have X0 : Stand p l e room_1 s m #[(.int p0), (.int p1)] below meth c s₁ [] 0 0 := Stand.of_body Bd
  have e0 : s₁.heap = h0 := by rw [← hh, Bd.state]; rfl
  have K0 : ∀ t, Steps p.tables e below (s₁.setTop (mkF m 0 #[.val (.int p0), .val (.int p1), .unset, .unset, .unset, .unset, .unset, .unset, .unset, .unset] [])) t → Steps p.tables e below (s₁.setTop (entryFrame m #[(.int p0), (.int p1)] maxLocals)) t := fun t k => castTop (ef_0 m p0 p1) k
  generalize s₁.setTop (entryFrame m #[(.int p0), (.int p1)] maxLocals) = B0 at K0 ⊢
  obtain ⟨x1, hx1⟩ : ∃ z : Int32, z = ((8 : Int32) ||| (p0 &&& (7 : Int32))) := ⟨_, rfl⟩
  have K2 : ∀ t, Steps p.tables e below (s₁.setTop (mkF m 15 #[.val (.int p0), .val (.int p1), .val (.int x1), .val (.int (x1 &&& (3 : Int32))), .unset, .unset, .unset, .unset, .unset, .unset] [(.int (x1 &&& (4 : Int32)))])) t → Steps p.tables e below B0 t := fun t k => K0 t (by
    subst hx1
    refine Own.bipush X0 hx (8 : Int32) (hb hby at_0) rfl ?_
    refine Own.iloadN X0 hx (hb hby at_2) rfl ?_
    refine Own.bipush X0 hx (7 : Int32) (hb hby at_3) rfl ?_
    refine Own.iand X0 hx (hb hby at_5) ?_
    refine Own.ior X0 hx (hb hby at_6) ?_
    refine Own.istoreN X0 hx #[.val (.int p0), .val (.int p1), .val (.int ((8 : Int32) ||| (p0 &&& (7 : Int32)))), .unset, .unset, .unset, .unset, .unset, .unset, .unset] (hb hby at_7) rfl ?_
    refine Own.iloadN X0 hx (hb hby at_8) rfl ?_
    refine Own.iconst X0 hx (3 : Int32) (hb hby at_9) rfl ?_
    refine Own.iand X0 hx (hb hby at_10) ?_
    refine Own.istoreN X0 hx #[.val (.int p0), .val (.int p1), .val (.int ((8 : Int32) ||| (p0 &&& (7 : Int32)))), .val (.int (((8 : Int32) ||| (p0 &&& (7 : Int32))) &&& (3 : Int32))), .unset, .unset, .unset, .unset, .unset, .unset] (hb hby at_11) rfl ?_
    refine Own.iloadN X0 hx (hb hby at_12) rfl ?_
    refine Own.iconst X0 hx (4 : Int32) (hb hby at_13) rfl ?_
    refine Own.iand X0 hx (hb hby at_14) ?_
    exact k)
  obtain ⟨x6, hx6⟩ : ∃ z : Int32, z = (if (x1 &&& (4 : Int32)) = (0 : Int32) then (0 : Int32) else (1 : Int32)) := ⟨_, rfl⟩
  obtain ⟨T7, X7, e7, K7⟩ : ∃ T' : State, Stand p l e room_1 s m #[(.int p0), (.int p1)] below meth c T' [] 0 0 ∧ T'.heap = h0 ∧ ∀ t, Steps p.tables e below (T'.setTop (mkF m 23 #[.val (.int p0), .val (.int p1), .val (.int x1), .val (.int (x1 &&& (3 : Int32))), .unset, .unset, .unset, .unset, .unset, .unset] [(.int x6)])) t → Steps p.tables e below B0 t := by
    by_cases hc3 : (x1 &&& (4 : Int32)) = (0 : Int32)
    · have K4 : ∀ t, Steps p.tables e below (s₁.setTop (mkF m 23 #[.val (.int p0), .val (.int p1), .val (.int x1), .val (.int (x1 &&& (3 : Int32))), .unset, .unset, .unset, .unset, .unset, .unset] [(.int (0 : Int32))])) t → Steps p.tables e below B0 t := fun t k => K2 t (by
        refine Own.ifYes X0 hx 22 (hb hby at_15) ((if0 _ _).trans (teq hc3).1) (by decide) (by decide) ?_
        refine Own.iconst X0 hx (0 : Int32) (hb hby at_22) rfl ?_
        exact k)
      exact ⟨s₁, X0, e0, fun t k => K4 t (by rw [hx6, if_pos hc3] at k; exact k)⟩
    · have K5 : ∀ t, Steps p.tables e below (s₁.setTop (mkF m 23 #[.val (.int p0), .val (.int p1), .val (.int x1), .val (.int (x1 &&& (3 : Int32))), .unset, .unset, .unset, .unset, .unset, .unset] [(.int (1 : Int32))])) t → Steps p.tables e below B0 t := fun t k => K2 t (by
        refine Own.ifNo X0 hx (hb hby at_15) ((if0 _ _).trans (feq hc3).1) ?_
        refine Own.iconst X0 hx (1 : Int32) (hb hby at_18) rfl ?_
        refine Own.goto X0 hx 23 (hb hby at_19) (by decide) (by decide) ?_
        exact k)
      exact ⟨s₁, X0, e0, fun t k => K5 t (by rw [hx6, if_neg hc3] at k; exact k)⟩
  have K8 : ∀ t, Steps p.tables e below (T7.setTop (mkF m 30 #[.val (.int p0), .val (.int p1), .val (.int x1), .val (.int (x1 &&& (3 : Int32))), .val (.int x6), .unset, .unset, .unset, .unset, .unset] [(.int x6), (.int ((2 : Int32) * (x1 &&& (3 : Int32))))])) t → Steps p.tables e below B0 t := fun t k => K7 t (by
    refine Own.istore X7 hx #[.val (.int p0), .val (.int p1), .val (.int x1), .val (.int (x1 &&& (3 : Int32))), .val (.int x6), .unset, .unset, .unset, .unset, .unset] (hb hby at_23) rfl ?_
    refine Own.iconst X7 hx (2 : Int32) (hb hby at_25) rfl ?_
    refine Own.iloadN X7 hx (hb hby at_26) rfl ?_
    refine Own.imul X7 hx (hb hby at_27) ?_
    refine Own.iload X7 hx (hb hby at_28) rfl ?_
    exact k)
  obtain ⟨x17, hx17⟩ : ∃ z : Int32, z = (if x6 = (0 : Int32) then (if (x1 &&& (3 : Int32)) = (0 : Int32) then (1 : Int32) else (0 : Int32)) else (1 : Int32)) := ⟨_, rfl⟩
  obtain ⟨T18, X18, e18, K18⟩ : ∃ T' : State, Stand p l e room_1 s m #[(.int p0), (.int p1)] below meth c T' [] 0 0 ∧ T'.heap = h0 ∧ ∀ t, Steps p.tables e below (T'.setTop (mkF m 42 #[.val (.int p0), .val (.int p1), .val (.int x1), .val (.int (x1 &&& (3 : Int32))), .val (.int x6), .unset, .unset, .unset, .unset, .unset] [(.int x17), (.int ((2 : Int32) * (x1 &&& (3 : Int32))))])) t → Steps p.tables e below B0 t := by
    by_cases hc9 : x6 = (0 : Int32)
    · have K10 : ∀ t, Steps p.tables e below (T7.setTop (mkF m 34 #[.val (.int p0), .val (.int p1), .val (.int x1), .val (.int (x1 &&& (3 : Int32))), .val (.int x6), .unset, .unset, .unset, .unset, .unset] [(.int (x1 &&& (3 : Int32))), (.int ((2 : Int32) * (x1 &&& (3 : Int32))))])) t → Steps p.tables e below B0 t := fun t k => K8 t (by
        refine Own.ifNo X7 hx (hb hby at_30) ((if0 _ _).trans (teq hc9).2) ?_
        refine Own.iloadN X7 hx (hb hby at_33) rfl ?_
        exact k)
      obtain ⟨x14, hx14⟩ : ∃ z : Int32, z = (if (x1 &&& (3 : Int32)) = (0 : Int32) then (1 : Int32) else (0 : Int32)) := ⟨_, rfl⟩
      obtain ⟨T15, X15, e15, K15⟩ : ∃ T' : State, Stand p l e room_1 s m #[(.int p0), (.int p1)] below meth c T' [] 0 0 ∧ T'.heap = h0 ∧ ∀ t, Steps p.tables e below (T'.setTop (mkF m 42 #[.val (.int p0), .val (.int p1), .val (.int x1), .val (.int (x1 &&& (3 : Int32))), .val (.int x6), .unset, .unset, .unset, .unset, .unset] [(.int x14), (.int ((2 : Int32) * (x1 &&& (3 : Int32))))])) t → Steps p.tables e below B0 t := by
        by_cases hc11 : (x1 &&& (3 : Int32)) = (0 : Int32)
        · have K12 : ∀ t, Steps p.tables e below (T7.setTop (mkF m 42 #[.val (.int p0), .val (.int p1), .val (.int x1), .val (.int (x1 &&& (3 : Int32))), .val (.int x6), .unset, .unset, .unset, .unset, .unset] [(.int (1 : Int32)), (.int ((2 : Int32) * (x1 &&& (3 : Int32))))])) t → Steps p.tables e below B0 t := fun t k => K10 t (by
            refine Own.ifNo X7 hx (hb hby at_34) ((if0 _ _).trans (teq hc11).2) ?_
            refine Own.iconst X7 hx (1 : Int32) (hb hby at_37) rfl ?_
            refine Own.goto X7 hx 42 (hb hby at_38) (by decide) (by decide) ?_
            exact k)
          exact ⟨T7, X7, e7, fun t k => K12 t (by rw [hx14, if_pos hc11] at k; exact k)⟩
        · have K13 : ∀ t, Steps p.tables e below (T7.setTop (mkF m 42 #[.val (.int p0), .val (.int p1), .val (.int x1), .val (.int (x1 &&& (3 : Int32))), .val (.int x6), .unset, .unset, .unset, .unset, .unset] [(.int (0 : Int32)), (.int ((2 : Int32) * (x1 &&& (3 : Int32))))])) t → Steps p.tables e below B0 t := fun t k => K10 t (by
            refine Own.ifYes X7 hx 41 (hb hby at_34) ((if0 _ _).trans (feq hc11).2) (by decide) (by decide) ?_
            refine Own.iconst X7 hx (0 : Int32) (hb hby at_41) rfl ?_
            exact k)
          exact ⟨T7, X7, e7, fun t k => K13 t (by rw [hx14, if_neg hc11] at k; exact k)⟩
      exact ⟨T15, X15, e15, fun t k => K15 t (by subst hx14; rw [hx17, if_pos hc9] at k; exact k)⟩
    · have K16 : ∀ t, Steps p.tables e below (T7.setTop (mkF m 42 #[.val (.int p0), .val (.int p1), .val (.int x1), .val (.int (x1 &&& (3 : Int32))), .val (.int x6), .unset, .unset, .unset, .unset, .unset] [(.int (1 : Int32)), (.int ((2 : Int32) * (x1 &&& (3 : Int32))))])) t → Steps p.tables e below B0 t := fun t k => K8 t (by
        refine Own.ifYes X7 hx 37 (hb hby at_30) ((if0 _ _).trans (feq hc9).2) (by decide) (by decide) ?_
        refine Own.iconst X7 hx (1 : Int32) (hb hby at_37) rfl ?_
        refine Own.goto X7 hx 42 (hb hby at_38) (by decide) (by decide) ?_
        exact k)
      exact ⟨T7, X7, e7, fun t k => K16 t (by rw [hx17, if_neg hc9] at k; exact k)⟩
  obtain ⟨x19, hx19⟩ : ∃ z : Int32, z = (((2 : Int32) * (x1 &&& (3 : Int32))) + x17) := ⟨_, rfl⟩
  obtain ⟨x20, hx20⟩ : ∃ z : Int32, z = ((p1 &&& (2147483647 : Int32)) % x19) := ⟨_, rfl⟩
  have K21 : ∀ t, Steps p.tables e below (T18.setTop (mkF m 56 #[.val (.int p0), .val (.int p1), .val (.int x1), .val (.int (x1 &&& (3 : Int32))), .val (.int x6), .val (.int x19), .val (.int x20), .unset, .unset, .unset] [(.int x20)])) t → Steps p.tables e below B0 t := fun t k => K18 t (by
    subst hx20 hx19
    refine Own.iadd X18 hx (hb hby at_42) ?_
    refine Own.istore X18 hx #[.val (.int p0), .val (.int p1), .val (.int x1), .val (.int (x1 &&& (3 : Int32))), .val (.int x6), .val (.int (((2 : Int32) * (x1 &&& (3 : Int32))) + x17)), .unset, .unset, .unset, .unset] (hb hby at_43) rfl ?_
    refine Own.iloadN X18 hx (hb hby at_45) rfl ?_
    refine Own.ldcI X18 hx (2147483647 : Int32) hZ hown (hw _ (List.mem_of_getElem? (i := 0) rfl)) (hb hby at_46) ?_
    refine Own.iand X18 hx (hb hby at_48) ?_
    refine Own.iload X18 hx (hb hby at_49) rfl ?_
    refine Own.irem X18 hx (hb hby at_51) (by subst hx17 hx6 hx1; exact own_len p0) ?_
    refine Own.istore X18 hx #[.val (.int p0), .val (.int p1), .val (.int x1), .val (.int (x1 &&& (3 : Int32))), .val (.int x6), .val (.int (((2 : Int32) * (x1 &&& (3 : Int32))) + x17)), .val (.int ((p1 &&& (2147483647 : Int32)) % (((2 : Int32) * (x1 &&& (3 : Int32))) + x17))), .unset, .unset, .unset] (hb hby at_52) rfl ?_
    refine Own.iload X18 hx (hb hby at_54) rfl ?_
    exact k)
  obtain ⟨T22, X22, e22, st22⟩ := Own.callP (Ls := #[.val (.int p0), .val (.int p1), .val (.int x1), .val (.int (x1 &&& (3 : Int32))), .val (.int x6), .val (.int x19), .val (.int x20), .unset, .unset, .unset]) X18 hx hZ e18 [(.int x20)] [] (c1 l Z a0 hw x20  h0 ) hown (hw _ (List.mem_of_getElem? (i := 1) rfl)) (hw _ (List.mem_of_getElem? (i := 2) rfl)) (hw _ (List.mem_of_getElem? (i := 3) rfl)) (hw _ (List.mem_of_getElem? (i := 4) rfl)) (by decide) 0 rfl rfl (by decide) (by decide) (by decide) (by decide) (by rw [hml]; rfl) (lenOf pd_3 rfl) rfl (Nat.le_of_eq rfl) (hb hby at_56)
  have K23 : ∀ t, Steps p.tables e below (T22.setTop (mkF m 59 #[.val (.int p0), .val (.int p1), .val (.int x1), .val (.int (x1 &&& (3 : Int32))), .val (.int x6), .val (.int x19), .val (.int x20), .unset, .unset, .unset] [(.int (F1 x20))])) t → Steps p.tables e below B0 t := fun t k => K21 t (st22 t k)
  have K24 : ∀ t, Steps p.tables e below (T22.setTop (mkF m 67 #[.val (.int p0), .val (.int p1), .val (.int x1), .val (.int (x1 &&& (3 : Int32))), .val (.int x6), .val (.int x19), .val (.int x20), .val (.int (F1 x20)), .unset, .unset] [(.int x19), (.int (x20 + (1 : Int32)))])) t → Steps p.tables e below B0 t := fun t k => K23 t (by
    refine Own.istore X22 hx #[.val (.int p0), .val (.int p1), .val (.int x1), .val (.int (x1 &&& (3 : Int32))), .val (.int x6), .val (.int x19), .val (.int x20), .val (.int (F1 x20)), .unset, .unset] (hb hby at_59) rfl ?_
    refine Own.iload X22 hx (hb hby at_61) rfl ?_
    refine Own.iconst X22 hx (1 : Int32) (hb hby at_63) rfl ?_
    refine Own.iadd X22 hx (hb hby at_64) ?_
    refine Own.iload X22 hx (hb hby at_65) rfl ?_
    exact k)
  obtain ⟨x30, hx30⟩ : ∃ z : Int32, z = (if (x20 + (1 : Int32)) = x19 then x1 else (F1 (x20 + (1 : Int32)))) := ⟨_, rfl⟩
  obtain ⟨T31, X31, e31, K31⟩ : ∃ T' : State, Stand p l e room_1 s m #[(.int p0), (.int p1)] below meth c T' [] 0 0 ∧ T'.heap = h0 ∧ ∀ t, Steps p.tables e below (T'.setTop (mkF m 81 #[.val (.int p0), .val (.int p1), .val (.int x1), .val (.int (x1 &&& (3 : Int32))), .val (.int x6), .val (.int x19), .val (.int x20), .val (.int (F1 x20)), .unset, .unset] [(.int x30)])) t → Steps p.tables e below B0 t := by
    by_cases hc25 : (x20 + (1 : Int32)) = x19
    · have K26 : ∀ t, Steps p.tables e below (T22.setTop (mkF m 81 #[.val (.int p0), .val (.int p1), .val (.int x1), .val (.int (x1 &&& (3 : Int32))), .val (.int x6), .val (.int x19), .val (.int x20), .val (.int (F1 x20)), .unset, .unset] [(.int x1)])) t → Steps p.tables e below B0 t := fun t k => K24 t (by
        refine Own.icmpNo X22 hx (hb hby at_67) (teq hc25).2 ?_
        refine Own.iloadN X22 hx (hb hby at_70) rfl ?_
        refine Own.goto X22 hx 81 (hb hby at_71) (by decide) (by decide) ?_
        exact k)
      exact ⟨T22, X22, e22, fun t k => K26 t (by rw [hx30, if_pos hc25] at k; exact k)⟩
    · have K27 : ∀ t, Steps p.tables e below (T22.setTop (mkF m 78 #[.val (.int p0), .val (.int p1), .val (.int x1), .val (.int (x1 &&& (3 : Int32))), .val (.int x6), .val (.int x19), .val (.int x20), .val (.int (F1 x20)), .unset, .unset] [(.int (x20 + (1 : Int32)))])) t → Steps p.tables e below B0 t := fun t k => K24 t (by
        refine Own.icmpYes X22 hx 74 (hb hby at_67) (feq hc25).2 (by decide) (by decide) ?_
        refine Own.iload X22 hx (hb hby at_74) rfl ?_
        refine Own.iconst X22 hx (1 : Int32) (hb hby at_76) rfl ?_
        refine Own.iadd X22 hx (hb hby at_77) ?_
        exact k)
      obtain ⟨T28, X28, e28, st28⟩ := Own.callP (Ls := #[.val (.int p0), .val (.int p1), .val (.int x1), .val (.int (x1 &&& (3 : Int32))), .val (.int x6), .val (.int x19), .val (.int x20), .val (.int (F1 x20)), .unset, .unset]) X22 hx hZ e22 [(.int (x20 + (1 : Int32)))] [] (c1 l Z a0 hw (x20 + (1 : Int32))  h0 ) hown (hw _ (List.mem_of_getElem? (i := 1) rfl)) (hw _ (List.mem_of_getElem? (i := 2) rfl)) (hw _ (List.mem_of_getElem? (i := 3) rfl)) (hw _ (List.mem_of_getElem? (i := 4) rfl)) (by decide) 0 rfl rfl (by decide) (by decide) (by decide) (by decide) (by rw [hml]; rfl) (lenOf pd_3 rfl) rfl (Nat.le_of_eq rfl) (hb hby at_78)
      have K29 : ∀ t, Steps p.tables e below (T28.setTop (mkF m 81 #[.val (.int p0), .val (.int p1), .val (.int x1), .val (.int (x1 &&& (3 : Int32))), .val (.int x6), .val (.int x19), .val (.int x20), .val (.int (F1 x20)), .unset, .unset] [(.int (F1 (x20 + (1 : Int32))))])) t → Steps p.tables e below B0 t := fun t k => K27 t (st28 t k)
      exact ⟨T28, X28, e28, fun t k => K29 t (by rw [hx30, if_neg hc25] at k; exact k)⟩
  have K32 : ∀ t, Steps p.tables e below (T31.setTop (mkF m 86 #[.val (.int p0), .val (.int p1), .val (.int x1), .val (.int (x1 &&& (3 : Int32))), .val (.int x6), .val (.int x19), .val (.int x20), .val (.int (F1 x20)), .val (.int x30), .unset] [(.int x1), (.int (F1 x20))])) t → Steps p.tables e below B0 t := fun t k => K31 t (by
    refine Own.istore X31 hx #[.val (.int p0), .val (.int p1), .val (.int x1), .val (.int (x1 &&& (3 : Int32))), .val (.int x6), .val (.int x19), .val (.int x20), .val (.int (F1 x20)), .val (.int x30), .unset] (hb hby at_81) rfl ?_
    refine Own.iload X31 hx (hb hby at_83) rfl ?_
    refine Own.iloadN X31 hx (hb hby at_85) rfl ?_
    exact k)
  obtain ⟨T33, X33, e33, st33⟩ := Own.callP (Ls := #[.val (.int p0), .val (.int p1), .val (.int x1), .val (.int (x1 &&& (3 : Int32))), .val (.int x6), .val (.int x19), .val (.int x20), .val (.int (F1 x20)), .val (.int x30), .unset]) X31 hx hZ e31 [(.int (F1 x20)), (.int x1)] [] (c2 l Z a0 hw (F1 x20) x1  h0 ) hown (hw _ (List.mem_of_getElem? (i := 5) rfl)) (hw _ (List.mem_of_getElem? (i := 6) rfl)) (hw _ (List.mem_of_getElem? (i := 7) rfl)) (hw _ (List.mem_of_getElem? (i := 8) rfl)) (by decide) 0 rfl rfl (by decide) (by decide) (by decide) (by decide) (by rw [hml]; rfl) (lenOf pd_4 rfl) rfl (Nat.le_of_eq rfl) (hb hby at_86)
  have K34 : ∀ t, Steps p.tables e below (T33.setTop (mkF m 89 #[.val (.int p0), .val (.int p1), .val (.int x1), .val (.int (x1 &&& (3 : Int32))), .val (.int x6), .val (.int x19), .val (.int x20), .val (.int (F1 x20)), .val (.int x30), .unset] [(.int (F2 (F1 x20) x1))])) t → Steps p.tables e below B0 t := fun t k => K32 t (st33 t k)
  have K35 : ∀ t, Steps p.tables e below (T33.setTop (mkF m 95 #[.val (.int p0), .val (.int p1), .val (.int x1), .val (.int (x1 &&& (3 : Int32))), .val (.int x6), .val (.int x19), .val (.int x20), .val (.int (F1 x20)), .val (.int x30), .val (.int (F2 (F1 x20) x1))] [(.int (97 : Int32)), (.int (F2 (F1 x20) x1))])) t → Steps p.tables e below B0 t := fun t k => K34 t (by
    refine Own.istore X33 hx #[.val (.int p0), .val (.int p1), .val (.int x1), .val (.int (x1 &&& (3 : Int32))), .val (.int x6), .val (.int x19), .val (.int x20), .val (.int (F1 x20)), .val (.int x30), .val (.int (F2 (F1 x20) x1))] (hb hby at_89) rfl ?_
    refine Own.iload X33 hx (hb hby at_91) rfl ?_
    refine Own.bipush X33 hx (97 : Int32) (hb hby at_93) rfl ?_
    exact k)
  by_cases hc36 : (F2 (F1 x20) x1) = (97 : Int32)
  · have K37 : ∀ t, Steps p.tables e below (T33.setTop (mkF m 111 #[.val (.int p0), .val (.int p1), .val (.int x1), .val (.int (x1 &&& (3 : Int32))), .val (.int x6), .val (.int x19), .val (.int x20), .val (.int (F1 x20)), .val (.int x30), .val (.int (F2 (F1 x20) x1))] [(.int (F2 (F1 x20) x1)), (.int (F1 x20))])) t → Steps p.tables e below B0 t := fun t k => K35 t (by
      refine Own.icmpYes X33 hx 107 (hb hby at_95) (teq hc36).1 (by decide) (by decide) ?_
      refine Own.iload X33 hx (hb hby at_107) rfl ?_
      refine Own.iload X33 hx (hb hby at_109) rfl ?_
      exact k)
    obtain ⟨T38, X38, e38, st38⟩ := Own.callP (Ls := #[.val (.int p0), .val (.int p1), .val (.int x1), .val (.int (x1 &&& (3 : Int32))), .val (.int x6), .val (.int x19), .val (.int x20), .val (.int (F1 x20)), .val (.int x30), .val (.int (F2 (F1 x20) x1))]) X33 hx hZ e33 [(.int (F1 x20)), (.int (F2 (F1 x20) x1))] [] (c3 l Z a0 hw (F1 x20) (F2 (F1 x20) x1) w cl (1 : Int32) h0 SK AK hs (by rw [hc36]; decide) (by rw [hc36]; decide) (by rw [hc36]; exact hat97)) hown (hw _ (List.mem_of_getElem? (i := 9) rfl)) (hw _ (List.mem_of_getElem? (i := 10) rfl)) (hw _ (List.mem_of_getElem? (i := 7) rfl)) (hw _ (List.mem_of_getElem? (i := 11) rfl)) (by decide) 0 rfl rfl (by decide) (by decide) (by decide) (by decide) (by rw [hml]; rfl) (lenOf pd_5 rfl) rfl (Nat.le_of_eq rfl) (hb hby at_111)
    have K39 : ∀ t, Steps p.tables e below (T38.setTop (mkF m 114 #[.val (.int p0), .val (.int p1), .val (.int x1), .val (.int (x1 &&& (3 : Int32))), .val (.int x6), .val (.int x19), .val (.int x20), .val (.int (F1 x20)), .val (.int x30), .val (.int (F2 (F1 x20) x1))] [(.int (F3 (F1 x20) (F2 (F1 x20) x1) (1 : Int32)))])) t → Steps p.tables e below B0 t := fun t k => K37 t (st38 t k)
    have K40 : ∀ t, Steps p.tables e below (T38.setTop (mkF m 116 #[.val (.int p0), .val (.int p1), .val (.int x1), .val (.int (x1 &&& (3 : Int32))), .val (.int x6), .val (.int x19), .val (.int x20), .val (.int (F1 x20)), .val (.int x30), .val (.int (F2 (F1 x20) x1))] [(.int x30), (.int (F3 (F1 x20) (F2 (F1 x20) x1) (1 : Int32)))])) t → Steps p.tables e below B0 t := fun t k => K39 t (by
      refine Own.iload X38 hx (hb hby at_114) rfl ?_
      exact k)
    obtain ⟨x44, hx44⟩ : ∃ z : Int32, z = (if (F3 (F1 x20) (F2 (F1 x20) x1) (1 : Int32)) = x30 then (1 : Int32) else (0 : Int32)) := ⟨_, rfl⟩
    obtain ⟨T45, X45, e45, K45⟩ : ∃ T' : State, Stand p l e room_1 s m #[(.int p0), (.int p1)] below meth c T' [] 0 0 ∧ T'.heap = h0 ∧ ∀ t, Steps p.tables e below (T'.setTop (mkF m 124 #[.val (.int p0), .val (.int p1), .val (.int x1), .val (.int (x1 &&& (3 : Int32))), .val (.int x6), .val (.int x19), .val (.int x20), .val (.int (F1 x20)), .val (.int x30), .val (.int (F2 (F1 x20) x1))] [(.int x44)])) t → Steps p.tables e below B0 t := by
      by_cases hc41 : (F3 (F1 x20) (F2 (F1 x20) x1) (1 : Int32)) = x30
      · have K42 : ∀ t, Steps p.tables e below (T38.setTop (mkF m 124 #[.val (.int p0), .val (.int p1), .val (.int x1), .val (.int (x1 &&& (3 : Int32))), .val (.int x6), .val (.int x19), .val (.int x20), .val (.int (F1 x20)), .val (.int x30), .val (.int (F2 (F1 x20) x1))] [(.int (1 : Int32))])) t → Steps p.tables e below B0 t := fun t k => K40 t (by
          refine Own.icmpNo X38 hx (hb hby at_116) (teq hc41).2 ?_
          refine Own.iconst X38 hx (1 : Int32) (hb hby at_119) rfl ?_
          refine Own.goto X38 hx 124 (hb hby at_120) (by decide) (by decide) ?_
          exact k)
        exact ⟨T38, X38, e38, fun t k => K42 t (by rw [hx44, if_pos hc41] at k; exact k)⟩
      · have K43 : ∀ t, Steps p.tables e below (T38.setTop (mkF m 124 #[.val (.int p0), .val (.int p1), .val (.int x1), .val (.int (x1 &&& (3 : Int32))), .val (.int x6), .val (.int x19), .val (.int x20), .val (.int (F1 x20)), .val (.int x30), .val (.int (F2 (F1 x20) x1))] [(.int (0 : Int32))])) t → Steps p.tables e below B0 t := fun t k => K40 t (by
          refine Own.icmpYes X38 hx 123 (hb hby at_116) (feq hc41).2 (by decide) (by decide) ?_
          refine Own.iconst X38 hx (0 : Int32) (hb hby at_123) rfl ?_
          exact k)
        exact ⟨T38, X38, e38, fun t k => K43 t (by rw [hx44, if_neg hc41] at k; exact k)⟩
    exact Own.finN X45 hx (BodyLoose.notSynchronized Bd) Bd.returns (by simp) (hb hby at_124) K45 (by decide) (by decide) ⟨by subst hx44 hx30 hx20 hx19 hx17 hx6 hx1; unfold F0; first | (rw [if_pos hc36]; done) | (rw [if_pos hc36]; rfl), rfl, e45⟩
  · have K46 : ∀ t, Steps p.tables e below (T33.setTop (mkF m 102 #[.val (.int p0), .val (.int p1), .val (.int x1), .val (.int (x1 &&& (3 : Int32))), .val (.int x6), .val (.int x19), .val (.int x20), .val (.int (F1 x20)), .val (.int x30), .val (.int (F2 (F1 x20) x1))] [(.int (98 : Int32)), (.int (F2 (F1 x20) x1))])) t → Steps p.tables e below B0 t := fun t k => K35 t (by
      refine Own.icmpNo X33 hx (hb hby at_95) (feq hc36).1 ?_
      refine Own.iload X33 hx (hb hby at_98) rfl ?_
      refine Own.bipush X33 hx (98 : Int32) (hb hby at_100) rfl ?_
      exact k)
    by_cases hc47 : (F2 (F1 x20) x1) = (98 : Int32)
    · have K48 : ∀ t, Steps p.tables e below (T33.setTop (mkF m 111 #[.val (.int p0), .val (.int p1), .val (.int x1), .val (.int (x1 &&& (3 : Int32))), .val (.int x6), .val (.int x19), .val (.int x20), .val (.int (F1 x20)), .val (.int x30), .val (.int (F2 (F1 x20) x1))] [(.int (F2 (F1 x20) x1)), (.int (F1 x20))])) t → Steps p.tables e below B0 t := fun t k => K46 t (by
        refine Own.icmpYes X33 hx 107 (hb hby at_102) (teq hc47).1 (by decide) (by decide) ?_
        refine Own.iload X33 hx (hb hby at_107) rfl ?_
        refine Own.iload X33 hx (hb hby at_109) rfl ?_
        exact k)
      obtain ⟨T49, X49, e49, st49⟩ := Own.callP (Ls := #[.val (.int p0), .val (.int p1), .val (.int x1), .val (.int (x1 &&& (3 : Int32))), .val (.int x6), .val (.int x19), .val (.int x20), .val (.int (F1 x20)), .val (.int x30), .val (.int (F2 (F1 x20) x1))]) X33 hx hZ e33 [(.int (F1 x20)), (.int (F2 (F1 x20) x1))] [] (c3 l Z a0 hw (F1 x20) (F2 (F1 x20) x1) w cl (0 : Int32) h0 SK AK hs (by rw [hc47]; decide) (by rw [hc47]; decide) (by rw [hc47]; exact hat98)) hown (hw _ (List.mem_of_getElem? (i := 9) rfl)) (hw _ (List.mem_of_getElem? (i := 10) rfl)) (hw _ (List.mem_of_getElem? (i := 7) rfl)) (hw _ (List.mem_of_getElem? (i := 11) rfl)) (by decide) 0 rfl rfl (by decide) (by decide) (by decide) (by decide) (by rw [hml]; rfl) (lenOf pd_5 rfl) rfl (Nat.le_of_eq rfl) (hb hby at_111)
      have K50 : ∀ t, Steps p.tables e below (T49.setTop (mkF m 114 #[.val (.int p0), .val (.int p1), .val (.int x1), .val (.int (x1 &&& (3 : Int32))), .val (.int x6), .val (.int x19), .val (.int x20), .val (.int (F1 x20)), .val (.int x30), .val (.int (F2 (F1 x20) x1))] [(.int (F3 (F1 x20) (F2 (F1 x20) x1) (0 : Int32)))])) t → Steps p.tables e below B0 t := fun t k => K48 t (st49 t k)
      have K51 : ∀ t, Steps p.tables e below (T49.setTop (mkF m 116 #[.val (.int p0), .val (.int p1), .val (.int x1), .val (.int (x1 &&& (3 : Int32))), .val (.int x6), .val (.int x19), .val (.int x20), .val (.int (F1 x20)), .val (.int x30), .val (.int (F2 (F1 x20) x1))] [(.int x30), (.int (F3 (F1 x20) (F2 (F1 x20) x1) (0 : Int32)))])) t → Steps p.tables e below B0 t := fun t k => K50 t (by
        refine Own.iload X49 hx (hb hby at_114) rfl ?_
        exact k)
      obtain ⟨x55, hx55⟩ : ∃ z : Int32, z = (if (F3 (F1 x20) (F2 (F1 x20) x1) (0 : Int32)) = x30 then (1 : Int32) else (0 : Int32)) := ⟨_, rfl⟩
      obtain ⟨T56, X56, e56, K56⟩ : ∃ T' : State, Stand p l e room_1 s m #[(.int p0), (.int p1)] below meth c T' [] 0 0 ∧ T'.heap = h0 ∧ ∀ t, Steps p.tables e below (T'.setTop (mkF m 124 #[.val (.int p0), .val (.int p1), .val (.int x1), .val (.int (x1 &&& (3 : Int32))), .val (.int x6), .val (.int x19), .val (.int x20), .val (.int (F1 x20)), .val (.int x30), .val (.int (F2 (F1 x20) x1))] [(.int x55)])) t → Steps p.tables e below B0 t := by
        by_cases hc52 : (F3 (F1 x20) (F2 (F1 x20) x1) (0 : Int32)) = x30
        · have K53 : ∀ t, Steps p.tables e below (T49.setTop (mkF m 124 #[.val (.int p0), .val (.int p1), .val (.int x1), .val (.int (x1 &&& (3 : Int32))), .val (.int x6), .val (.int x19), .val (.int x20), .val (.int (F1 x20)), .val (.int x30), .val (.int (F2 (F1 x20) x1))] [(.int (1 : Int32))])) t → Steps p.tables e below B0 t := fun t k => K51 t (by
            refine Own.icmpNo X49 hx (hb hby at_116) (teq hc52).2 ?_
            refine Own.iconst X49 hx (1 : Int32) (hb hby at_119) rfl ?_
            refine Own.goto X49 hx 124 (hb hby at_120) (by decide) (by decide) ?_
            exact k)
          exact ⟨T49, X49, e49, fun t k => K53 t (by rw [hx55, if_pos hc52] at k; exact k)⟩
        · have K54 : ∀ t, Steps p.tables e below (T49.setTop (mkF m 124 #[.val (.int p0), .val (.int p1), .val (.int x1), .val (.int (x1 &&& (3 : Int32))), .val (.int x6), .val (.int x19), .val (.int x20), .val (.int (F1 x20)), .val (.int x30), .val (.int (F2 (F1 x20) x1))] [(.int (0 : Int32))])) t → Steps p.tables e below B0 t := fun t k => K51 t (by
            refine Own.icmpYes X49 hx 123 (hb hby at_116) (feq hc52).2 (by decide) (by decide) ?_
            refine Own.iconst X49 hx (0 : Int32) (hb hby at_123) rfl ?_
            exact k)
          exact ⟨T49, X49, e49, fun t k => K54 t (by rw [hx55, if_neg hc52] at k; exact k)⟩
      exact Own.finN X56 hx (BodyLoose.notSynchronized Bd) Bd.returns (by simp) (hb hby at_124) K56 (by decide) (by decide) ⟨by subst hx55 hx30 hx20 hx19 hx17 hx6 hx1; unfold F0; first | (rw [if_neg hc36, if_pos hc47]; done) | (rw [if_neg hc36, if_pos hc47]; rfl), rfl, e56⟩
    · have K57 : ∀ t, Steps p.tables e below (T33.setTop (mkF m 106 #[.val (.int p0), .val (.int p1), .val (.int x1), .val (.int (x1 &&& (3 : Int32))), .val (.int x6), .val (.int x19), .val (.int x20), .val (.int (F1 x20)), .val (.int x30), .val (.int (F2 (F1 x20) x1))] [(.int (0 : Int32))])) t → Steps p.tables e below B0 t := fun t k => K46 t (by
        refine Own.icmpNo X33 hx (hb hby at_102) (feq hc47).1 ?_
        refine Own.iconst X33 hx (0 : Int32) (hb hby at_105) rfl ?_
        exact k)
      exact Own.finN X33 hx (BodyLoose.notSynchronized Bd) Bd.returns (by simp) (hb hby at_106) K57 (by decide) (by decide) ⟨by subst hx30 hx20 hx19 hx17 hx6 hx1; unfold F0; first | (rw [if_neg hc36, if_neg hc47]; done) | (rw [if_neg hc36, if_neg hc47]; rfl), rfl, e33⟩

theorem own_law (p0 p1 : Int32) : F0 p0 p1 = 1 := by
  have h := own_lens _ (own_and7 p0)
  have hr := own_rem p1 (own_lenOf (p0 &&& 7)) h.1
  have hs := own_small _ hr.1 (by omega)
  exact own_all _ (own_and7 p0) _ hs hr.2

theorem own_eqi {args : Array Value} {s : State} {a : Term} {n : Int32} (h : (Jvm.Cond.eq a (Jvm.Term.int n)).value args s none s [] = some true) : a.eval args s none [] s = some (.int n) := by
  simp only [Cond.value, Term.eval] at h
  cases ha : a.eval args s none [] s with
  | none => simp [ha] at h
  | some x => cases x <;> simp [ha] at h
              rw [h]

set_option maxRecDepth 65536 in
set_option maxHeartbeats 40000000 in
theorem comes_1 {Post : Tables → Env → Array Value → State → Outcome → State → Prop} (hpost : ∀ tb e args s v u, (limb_1_1.after args s (.returned v) u = true ∧ limb_1_2.after args s (.returned v) u = true ∧ True) → FrameEnd s (.returned v) u (Jvm.fieldLocs frame_1_writes args s ++ Jvm.arrayLocs frame_1_arrays args s ++ Jvm.staticLocs frame_1_statics s) 0 0 → Post tb e args s (.returned v) u) :
    ArmFor flags0 classFile x code maxLocals ret World_1 tables_1 room_1 Calls_1 rest_1 Pre_1 Post := by
  intro l hfl _ _ p e ha hc hk s m args below hf hA hF happ hP
  obtain ⟨hcalls, hrest, hpre⟩ := hP
  obtain ⟨-, -, -, hnamed, -, -, -, hat⟩ := (Spec.applies_iff hf).mp happ
  obtain ⟨hg, hn⟩ := and_e (Cond.before_iff.mp (show (Jvm.Cond.and given_1 narrow_1).before args s = true from hpre))
  obtain ⟨gA0, gB0⟩ := and_e hg
  obtain ⟨gA1, gB1⟩ := and_e gB0
  obtain ⟨w0, w1, rfl⟩ : ∃ w0 w1 : Value, args = #[w0, w1] := by
    have hs : args.size = 2 := by simpa [Cond.value, given_1] using gA0
    obtain ⟨L⟩ := args
    match L, hs with
    | [w0, w1], _ => exact ⟨w0, w1, rfl⟩
  have hw := fun d (hd : d ∈ tables_1) => atoms_spec (ws := Jvm.Cond.code x code maxLocals ret :: tables_1) hat d (List.mem_cons_of_mem _ hd)
  have hfit : Fit s := fun {y c} hc i hi => by
    obtain ⟨ha, rfl⟩ := Array.getElem?_eq_some_iff.mp hc
    have q := List.all_eq_true.mp ((Array.all_eq_true_iff_forall_mem.mp hF) _ (Array.getElem_mem ha)) i (List.mem_range.mpr hi)
    simpa [Array.getElem?_eq_getElem hi] using q
  obtain ⟨i0, ei0⟩ := is_v gA1
  obtain rfl : w0 = (.int i0) := Option.some.inj ei0
  obtain ⟨i1, ei1⟩ := is_v gB1
  obtain rfl : w1 = (.int i1) := Option.some.inj ei1
  have hN0 := and_e hn
  have hN1 := and_e hN0.2
  have hN2 := and_e hN1.2
  have hN3 := and_e hN2.2
  have hN4 := and_e hN3.2
  have hN5 := and_e hN4.2
  have hN6 := and_e hN5.2
  have hN7 := and_e hN6.2
  have hN8 := and_e hN7.2
  have hN9 := and_e hN8.2
  have hN10 := and_e hN9.2
  have hN11 := and_e hN10.2
  have hN12 := and_e hN11.2
  have hN13 := and_e hN12.2
  have hN14 := and_e hN13.2
  have hN15 := and_e hN14.2
  have hN16 := and_e hN15.2
  have hN17 := and_e hN16.2
  have hN18 := and_e hN17.2
  have hN19 := and_e hN18.2
  have hN20 := and_e hN19.2
  have hN21 := and_e hN20.2
  have hN22 := and_e hN21.2
  obtain ⟨w, ev⟩ := arr_v hN0.1
  obtain ⟨cl, AK⟩ := Arr.start ev hN0.1
  have SK := Sta.start ev (Or.inr ⟨(hw _ (List.mem_of_getElem? (i := 7) rfl)), (hw _ (List.mem_of_getElem? (i := 19) rfl))⟩)
  have el : cl.slots.size.toInt32 = 128 := by
    obtain ⟨c', q1, q2⟩ := length_at (own_eqi hN1.1) ev
    cases AK.1.symm.trans q1; exact q2
  have hat97 : cl.slots[97]? = some (.int 1) := (elem_in (own_eqi hN5.1) ev (Term.int_eval 97) AK.1).2
  have hat98 : cl.slots[98]? = some (.int 0) := (elem_in (own_eqi hN6.1) ev (Term.int_eval 98) AK.1).2
  obtain ⟨n, o, h1, h2, h3, _, L, rfl, ⟨rfl, N⟩, hq⟩ := (c0 l s _ hw i0 i1 w cl s.heap SK AK el hat97 hat98).law (by rw [own_law]) tables_1 p e ha hc hk s m _ below hf ((Spec.applies_iff_loose hf).mp happ).1 ⟨rfl, State.Warmed39.refl s, rfl⟩ trivial
  refine ⟨n, _, h1, h2, h3, hpost _ _ _ _ _ _ ⟨Cond.after_iff.mpr rfl, Cond.after_iff.mpr (eq_i res_at (Term.int_eval (1)) rfl), trivial⟩ ⟨hq.1, hq.2.1, (hq.2.2.sift fun y hy => Or.inr (N y hy)).mono (by decide) (by decide)⟩⟩
theorem main_1_1 : Claimed_1_1 := comes_1 fun _ _ _ _ _ _ h hF => ⟨h.1, hF⟩
theorem main_1_2 : Claimed_1_2 := comes_1 fun _ _ _ _ _ _ h hF => ⟨h.2.1, hF⟩

end Jvm.Pilot.@@N@@
namespace Jvm.Pilot.@@N@@
open Jvm Jvm.ClassFile Sem Op Lib Jvm.Free Jvm.Stand Jvm.Pilot.@@N@@.Jvm.D
/-! MADE BY PROGRAM (witnessworld.py) out of the Statement's table words and the real class files: 10 classes; the members and pool entries that the words name. The judged class is class 1, her method 2. -/
namespace start1
open Jvm.ClassFile
def u (s : String) : CpInfo := .utf8 (stringToUtf16 s)
/-- a pool by its gaps: so many unusable entries, then the entry; so many at the end -/
def gap : Nat → List CpInfo → List CpInfo
  | 0, r => r
  | n + 1, r => .unusable :: gap n r
def poolList (es : List (Nat × CpInfo)) (last : Nat) : List CpInfo := es.foldr (fun e r => gap e.1 (e.2 :: r)) (gap last [])
def pool (es : List (Nat × CpInfo)) (last : Nat) : Array CpInfo := ⟨poolList es last⟩
def fileOf (pool : Array CpInfo) (this : Nat) (attrs : Array Attribute := #[]) (ms : Array MethodInfo := #[]) (fl : Nat := 33) (sup : Nat := 0) (ifs : Array Nat := #[]) (fds : Array FieldInfo := #[]) : ClassFile where
  minorVersion := 0
  majorVersion := 65
  constantPool := pool
  accessFlags := fl
  thisClass := this
  superClass := sup
  interfaces := ifs
  fields := fds
  methods := ms
  attributes := attrs
def plain (name : String) (sup : Option ClassId) : Class where
  name := name
  kind := .ordinary
  loader := none
  accessFlags := 33
  super := sup
  interfaces := #[]
  cf := none
  fields := #[]
  methods := #[]
  instanceTypes := #[]
  staticTypes := #[]
  resolved := #[]
  callSites := []
  init := .initialized
  statics := none
  mirror := none

def pool0 : Array CpInfo := pool [(5, u "<init>"), (0, u "()V"), (1, .class_ 10), (1, u "java/lang/Object")] 113

def k0m0 : Method := { name := "<init>", desc := "()V", sig := { parameters := [], returnType := none }, accessFlags := 1, code := none }
/-- java/lang/Object -/
def k0 : Class := { plain "java/lang/Object" none with
  accessFlags := 33
  interfaces := #[]
  cf := some (fileOf pool0 8 #[] #[{ accessFlags := 1, nameIndex := 5, descriptorIndex := 6, attributes := #[] }] 33 0 #[] #[])
  fields := #[]
  methods := #[k0m0]
  instanceTypes := #[]
  staticTypes := #[]
  resolved := Array.replicate 124 none
  statics := none }

def pool1 : Array CpInfo := pool [(2, .class_ 4), (1, u "java/lang/Object"), (0, u "<init>"), (0, u "()V"), (0, .integer 2147483647), (0, .methodref 9 10), (0, .class_ 11), (0, .nameAndType 12 13), (0, u "com/example/stemshear/stemshear/ConditionStandInLetterPinLaw"), (0, u "prefix"), (0, u "(I)I"), (0, .methodref 15 16), (0, .class_ 17), (0, .nameAndType 18 19), (0, u "com/example/stemshear/stemshear/Condition"), (0, u "standInLetter"), (0, u "(II)C"), (0, .methodref 15 21), (0, .nameAndType 22 23), (0, u "afterLetter"), (0, u "(IC)I"), (3, u "law"), (0, u "(II)Z")] 2

def k1m0 : Method := { name := "<init>", desc := "()V", sig := { parameters := [], returnType := none }, accessFlags := 2, code := none }
def k1c1 : Code := { maxStack := 3, maxLocals := 1, code := method_2_code, exceptionTable := #[], attributes := #[] }
def k1m1 : Method := { name := "prefix", desc := "(I)I", sig := { parameters := [.int], returnType := some .int }, accessFlags := 10, code := some k1c1 }
def k1c2 : Code := { maxStack := 3, maxLocals := 10, code := code, exceptionTable := #[], attributes := #[] }
def k1m2 : Method := { name := "law", desc := "(II)Z", sig := { parameters := [.int, .int], returnType := some .boolean }, accessFlags := 9, code := some k1c2 }
/-- com/example/stemshear/stemshear/ConditionStandInLetterPinLaw -/
def k1 : Class := { plain "com/example/stemshear/stemshear/ConditionStandInLetterPinLaw" (some 0) with
  accessFlags := 49
  interfaces := #[]
  cf := some (fileOf pool1 9 #[] #[{ accessFlags := 2, nameIndex := 5, descriptorIndex := 6, attributes := #[] }, { accessFlags := 10, nameIndex := 12, descriptorIndex := 13, attributes := #[] }, { accessFlags := 9, nameIndex := 27, descriptorIndex := 28, attributes := #[] }] 49 2 #[] #[])
  fields := #[]
  methods := #[k1m0, k1m1, k1m2]
  instanceTypes := #[]
  staticTypes := #[]
  resolved := Array.replicate 31 none
  statics := none }

def pool2 : Array CpInfo := pool [(3, .class_ 4), (0, u "com/example/stemshear/stemshear/Condition"), (1, .class_ 8), (1, u "java/lang/Object"), (0, u "<init>"), (0, u "()V"), (32, u "(C)I"), (10, .fieldref 3 55), (0, .nameAndType 56 57), (0, u "KINDS"), (0, u "[B"), (0, .methodref 59 60), (0, .class_ 61), (0, .nameAndType 62 63), (0, u "java/lang/Math"), (0, u "min"), (0, u "(II)I"), (3, u "LAST_LETTERS"), (0, u "[I"), (33, u "LETTERS_BEFORE"), (5, u "A_E_OR_O"), (0, u "I"), (20, .methodref 3 131), (0, .nameAndType 132 43), (0, u "kind"), (15, u "afterLetter"), (0, u "(IC)I"), (0, .methodref 3 151), (0, .nameAndType 152 153), (0, u "isVowel"), (0, u "(CZZ)Z"), (15, u "NONE"), (2, u "MEASURE_ABOVE_0"), (1, u "CONTAINS_VOWEL"), (1, u "MEASURE_1_AND_CVC"), (1, u "MEASURE_ABOVE_1"), (1, u "MEASURE_ABOVE_1_AND_S_OR_T"), (1, u "MEASURE_ABOVE_1_OR_1_AND_NOT_CVC"), (1, u "MEASURE_ABOVE_1_AND_DOUBLE_L"), (1, u "DOUBLE_Y_CONSONANT_LAST"), (1, u "ENDS_OTHER_THAN_A_OR_E"), (1, u "ENDS_OTHER_THAN_A_E_I_OR_O"), (1, u "ENDS_OTHER_THAN_S_OR_U"), (1, u "WHOLE_WORD"), (1, u "TWO_LETTERS_OR_MORE"), (1, u "VOWEL_BEFORE_LAST"), (1, u "CONSONANT_LAST_NOT_FIRST"), (1, u "IN_R1"), (1, u "IN_R2"), (1, u "IN_R1_AFTER_L"), (1, u "IN_R1_AFTER_LI_ENDING"), (1, u "IN_R2_AFTER_S_OR_T"), (1, u "IN_R2_AFTER_L"), (1, u "SHORT_WORD"), (1, u "IN_R2_OR_IN_R1_NOT_AFTER_SHORT_SYLLABLE"), (1, u "NOT_A_E_OR_O_ALONE"), (1, u "LOOKBACK"), (0, u "HELD"), (1, u "MOST_MEASURE"), (0, u "KEPT"), (0, u "LONGEST_STAND_IN"), (0, u "TAIL"), (1, u "NO_OPENING"), (0, u "OPENING_MEASURE"), (0, u "OPENING_VOWEL_LAST"), (0, u "OPENING_LETTERS"), (0, u "VOWEL"), (0, u "Y"), (0, u "NOT_A_TO_Z"), (0, u "APOSTROPHE"), (0, u "EMPTY_STEM"), (0, u "LAST_CONDITION"), (0, u "REGION_CONDITIONS"), (0, u "REGION_BITS"), (0, u "REGION"), (1, u "NO_REGION"), (18, u "standInLetter"), (0, u "(II)C")] 3

def k2m0 : Method := { name := "<init>", desc := "()V", sig := { parameters := [], returnType := none }, accessFlags := 2, code := none }
def k2c1 : Code := { maxStack := 4, maxLocals := 1, code := prog_10_method_7_code, exceptionTable := #[], attributes := #[] }
def k2m1 : Method := { name := "kind", desc := "(C)I", sig := { parameters := [.char], returnType := some .int }, accessFlags := 10, code := some k2c1 }
def k2c2 : Code := { maxStack := 3, maxLocals := 5, code := prog_10_method_26_code, exceptionTable := #[], attributes := #[] }
def k2m2 : Method := { name := "afterLetter", desc := "(IC)I", sig := { parameters := [.int, .char], returnType := some .int }, accessFlags := 8, code := some k2c2 }
def k2c3 : Code := { maxStack := 3, maxLocals := 3, code := prog_10_method_27_code, exceptionTable := #[], attributes := #[] }
def k2m3 : Method := { name := "standInLetter", desc := "(II)C", sig := { parameters := [.int, .int], returnType := some .char }, accessFlags := 8, code := some k2c3 }
def k2c4 : Code := { maxStack := 2, maxLocals := 3, code := prog_10_method_30_code, exceptionTable := #[], attributes := #[] }
def k2m4 : Method := { name := "isVowel", desc := "(CZZ)Z", sig := { parameters := [.char, .boolean, .boolean], returnType := some .boolean }, accessFlags := 8, code := some k2c4 }
/-- com/example/stemshear/stemshear/Condition -/
def k2 : Class := { plain "com/example/stemshear/stemshear/Condition" (some 0) with
  accessFlags := 48
  interfaces := #[]
  cf := some (fileOf pool2 3 #[] #[{ accessFlags := 2, nameIndex := 9, descriptorIndex := 10, attributes := #[] }, { accessFlags := 10, nameIndex := 132, descriptorIndex := 43, attributes := #[] }, { accessFlags := 8, nameIndex := 148, descriptorIndex := 149, attributes := #[] }, { accessFlags := 8, nameIndex := 261, descriptorIndex := 262, attributes := #[] }, { accessFlags := 8, nameIndex := 152, descriptorIndex := 153, attributes := #[] }] 48 6 #[] #[{ accessFlags := 24, nameIndex := 169, descriptorIndex := 109, attributes := #[] }, { accessFlags := 24, nameIndex := 172, descriptorIndex := 109, attributes := #[] }, { accessFlags := 24, nameIndex := 174, descriptorIndex := 109, attributes := #[] }, { accessFlags := 24, nameIndex := 176, descriptorIndex := 109, attributes := #[] }, { accessFlags := 24, nameIndex := 178, descriptorIndex := 109, attributes := #[] }, { accessFlags := 24, nameIndex := 180, descriptorIndex := 109, attributes := #[] }, { accessFlags := 24, nameIndex := 182, descriptorIndex := 109, attributes := #[] }, { accessFlags := 24, nameIndex := 184, descriptorIndex := 109, attributes := #[] }, { accessFlags := 24, nameIndex := 186, descriptorIndex := 109, attributes := #[] }, { accessFlags := 24, nameIndex := 188, descriptorIndex := 109, attributes := #[] }, { accessFlags := 24, nameIndex := 190, descriptorIndex := 109, attributes := #[] }, { accessFlags := 24, nameIndex := 192, descriptorIndex := 109, attributes := #[] }, { accessFlags := 24, nameIndex := 194, descriptorIndex := 109, attributes := #[] }, { accessFlags := 24, nameIndex := 196, descriptorIndex := 109, attributes := #[] }, { accessFlags := 24, nameIndex := 198, descriptorIndex := 109, attributes := #[] }, { accessFlags := 24, nameIndex := 200, descriptorIndex := 109, attributes := #[] }, { accessFlags := 24, nameIndex := 202, descriptorIndex := 109, attributes := #[] }, { accessFlags := 24, nameIndex := 204, descriptorIndex := 109, attributes := #[] }, { accessFlags := 24, nameIndex := 206, descriptorIndex := 109, attributes := #[] }, { accessFlags := 24, nameIndex := 208, descriptorIndex := 109, attributes := #[] }, { accessFlags := 24, nameIndex := 210, descriptorIndex := 109, attributes := #[] }, { accessFlags := 24, nameIndex := 212, descriptorIndex := 109, attributes := #[] }, { accessFlags := 24, nameIndex := 214, descriptorIndex := 109, attributes := #[] }, { accessFlags := 24, nameIndex := 216, descriptorIndex := 109, attributes := #[] }, { accessFlags := 24, nameIndex := 218, descriptorIndex := 109, attributes := #[] }, { accessFlags := 24, nameIndex := 220, descriptorIndex := 109, attributes := #[] }, { accessFlags := 24, nameIndex := 221, descriptorIndex := 109, attributes := #[] }, { accessFlags := 24, nameIndex := 223, descriptorIndex := 109, attributes := #[] }, { accessFlags := 24, nameIndex := 224, descriptorIndex := 109, attributes := #[] }, { accessFlags := 24, nameIndex := 225, descriptorIndex := 109, attributes := #[] }, { accessFlags := 24, nameIndex := 226, descriptorIndex := 109, attributes := #[] }, { accessFlags := 24, nameIndex := 228, descriptorIndex := 109, attributes := #[] }, { accessFlags := 26, nameIndex := 229, descriptorIndex := 109, attributes := #[] }, { accessFlags := 26, nameIndex := 230, descriptorIndex := 109, attributes := #[] }, { accessFlags := 26, nameIndex := 231, descriptorIndex := 109, attributes := #[] }, { accessFlags := 26, nameIndex := 232, descriptorIndex := 109, attributes := #[] }, { accessFlags := 26, nameIndex := 233, descriptorIndex := 109, attributes := #[] }, { accessFlags := 26, nameIndex := 234, descriptorIndex := 109, attributes := #[] }, { accessFlags := 26, nameIndex := 235, descriptorIndex := 109, attributes := #[] }, { accessFlags := 26, nameIndex := 56, descriptorIndex := 57, attributes := #[] }, { accessFlags := 26, nameIndex := 236, descriptorIndex := 109, attributes := #[] }, { accessFlags := 26, nameIndex := 237, descriptorIndex := 109, attributes := #[] }, { accessFlags := 26, nameIndex := 67, descriptorIndex := 68, attributes := #[] }, { accessFlags := 26, nameIndex := 238, descriptorIndex := 109, attributes := #[] }, { accessFlags := 26, nameIndex := 102, descriptorIndex := 68, attributes := #[] }, { accessFlags := 26, nameIndex := 108, descriptorIndex := 109, attributes := #[] }, { accessFlags := 26, nameIndex := 239, descriptorIndex := 109, attributes := #[] }, { accessFlags := 26, nameIndex := 240, descriptorIndex := 109, attributes := #[] }, { accessFlags := 26, nameIndex := 242, descriptorIndex := 109, attributes := #[] }])
  fields := #[{ name := "NONE", type := .int, accessFlags := 24, slot := 0, constantValue := 0 }, { name := "MEASURE_ABOVE_0", type := .int, accessFlags := 24, slot := 1, constantValue := 0 }, { name := "CONTAINS_VOWEL", type := .int, accessFlags := 24, slot := 2, constantValue := 0 }, { name := "MEASURE_1_AND_CVC", type := .int, accessFlags := 24, slot := 3, constantValue := 0 }, { name := "MEASURE_ABOVE_1", type := .int, accessFlags := 24, slot := 4, constantValue := 0 }, { name := "MEASURE_ABOVE_1_AND_S_OR_T", type := .int, accessFlags := 24, slot := 5, constantValue := 0 }, { name := "MEASURE_ABOVE_1_OR_1_AND_NOT_CVC", type := .int, accessFlags := 24, slot := 6, constantValue := 0 }, { name := "MEASURE_ABOVE_1_AND_DOUBLE_L", type := .int, accessFlags := 24, slot := 7, constantValue := 0 }, { name := "DOUBLE_Y_CONSONANT_LAST", type := .int, accessFlags := 24, slot := 8, constantValue := 0 }, { name := "ENDS_OTHER_THAN_A_OR_E", type := .int, accessFlags := 24, slot := 9, constantValue := 0 }, { name := "ENDS_OTHER_THAN_A_E_I_OR_O", type := .int, accessFlags := 24, slot := 10, constantValue := 0 }, { name := "ENDS_OTHER_THAN_S_OR_U", type := .int, accessFlags := 24, slot := 11, constantValue := 0 }, { name := "WHOLE_WORD", type := .int, accessFlags := 24, slot := 12, constantValue := 0 }, { name := "TWO_LETTERS_OR_MORE", type := .int, accessFlags := 24, slot := 13, constantValue := 0 }, { name := "VOWEL_BEFORE_LAST", type := .int, accessFlags := 24, slot := 14, constantValue := 0 }, { name := "CONSONANT_LAST_NOT_FIRST", type := .int, accessFlags := 24, slot := 15, constantValue := 0 }, { name := "IN_R1", type := .int, accessFlags := 24, slot := 16, constantValue := 0 }, { name := "IN_R2", type := .int, accessFlags := 24, slot := 17, constantValue := 0 }, { name := "IN_R1_AFTER_L", type := .int, accessFlags := 24, slot := 18, constantValue := 0 }, { name := "IN_R1_AFTER_LI_ENDING", type := .int, accessFlags := 24, slot := 19, constantValue := 0 }, { name := "IN_R2_AFTER_S_OR_T", type := .int, accessFlags := 24, slot := 20, constantValue := 0 }, { name := "IN_R2_AFTER_L", type := .int, accessFlags := 24, slot := 21, constantValue := 0 }, { name := "SHORT_WORD", type := .int, accessFlags := 24, slot := 22, constantValue := 0 }, { name := "IN_R2_OR_IN_R1_NOT_AFTER_SHORT_SYLLABLE", type := .int, accessFlags := 24, slot := 23, constantValue := 0 }, { name := "NOT_A_E_OR_O_ALONE", type := .int, accessFlags := 24, slot := 24, constantValue := 0 }, { name := "LOOKBACK", type := .int, accessFlags := 24, slot := 25, constantValue := 0 }, { name := "HELD", type := .int, accessFlags := 24, slot := 26, constantValue := 0 }, { name := "MOST_MEASURE", type := .int, accessFlags := 24, slot := 27, constantValue := 0 }, { name := "KEPT", type := .int, accessFlags := 24, slot := 28, constantValue := 0 }, { name := "LONGEST_STAND_IN", type := .int, accessFlags := 24, slot := 29, constantValue := 0 }, { name := "TAIL", type := .int, accessFlags := 24, slot := 30, constantValue := 0 }, { name := "NO_OPENING", type := .int, accessFlags := 24, slot := 31, constantValue := 0 }, { name := "OPENING_MEASURE", type := .int, accessFlags := 26, slot := 32, constantValue := 0 }, { name := "OPENING_VOWEL_LAST", type := .int, accessFlags := 26, slot := 33, constantValue := 0 }, { name := "OPENING_LETTERS", type := .int, accessFlags := 26, slot := 34, constantValue := 0 }, { name := "VOWEL", type := .int, accessFlags := 26, slot := 35, constantValue := 0 }, { name := "Y", type := .int, accessFlags := 26, slot := 36, constantValue := 0 }, { name := "NOT_A_TO_Z", type := .int, accessFlags := 26, slot := 37, constantValue := 0 }, { name := "APOSTROPHE", type := .int, accessFlags := 26, slot := 38, constantValue := 0 }, { name := "KINDS", type := (.array .byte), accessFlags := 26, slot := 39, constantValue := 0 }, { name := "EMPTY_STEM", type := .int, accessFlags := 26, slot := 40, constantValue := 0 }, { name := "LAST_CONDITION", type := .int, accessFlags := 26, slot := 41, constantValue := 0 }, { name := "LAST_LETTERS", type := (.array .int), accessFlags := 26, slot := 42, constantValue := 0 }, { name := "REGION_CONDITIONS", type := .int, accessFlags := 26, slot := 43, constantValue := 0 }, { name := "LETTERS_BEFORE", type := (.array .int), accessFlags := 26, slot := 44, constantValue := 0 }, { name := "A_E_OR_O", type := .int, accessFlags := 26, slot := 45, constantValue := 0 }, { name := "REGION_BITS", type := .int, accessFlags := 26, slot := 46, constantValue := 0 }, { name := "REGION", type := .int, accessFlags := 26, slot := 47, constantValue := 0 }, { name := "NO_REGION", type := .int, accessFlags := 26, slot := 48, constantValue := 0 }]
  methods := #[k2m0, k2m1, k2m2, k2m3, k2m4]
  instanceTypes := #[]
  staticTypes := #[.int, .int, .int, .int, .int, .int, .int, .int, .int, .int, .int, .int, .int, .int, .int, .int, .int, .int, .int, .int, .int, .int, .int, .int, .int, .int, .int, .int, .int, .int, .int, .int, .int, .int, .int, .int, .int, .int, .int, (.array .byte), .int, .int, (.array .int), .int, (.array .int), .int, .int, .int, .int]
  resolved := Array.replicate 266 none
  statics := some 0 }

def pool3 : Array CpInfo := pool [(1, .class_ 2), (0, u "java/lang/Math"), (1, .class_ 6), (1, u "java/lang/Object"), (0, u "<init>"), (0, u "()V"), (89, .class_ 100), (1, u "java/lang/Math$RandomNumberGeneratorHolder"), (71, u "negativeZeroFloatBits"), (0, u "J"), (2, u "negativeZeroDoubleBits"), (24, u "min"), (43, u "$assertionsDisabled"), (0, u "Z"), (88, u "(II)I"), (2, u "twoToTheDoubleScaleDown"), (0, u "D"), (4, u "twoToTheDoubleScaleUp"), (9, u "E"), (3, u "PI"), (2, u "TAU"), (2, u "DEGREES_TO_RADIANS"), (0, u "RADIANS_TO_DEGREES")] 94

def k3m0 : Method := { name := "<init>", desc := "()V", sig := { parameters := [], returnType := none }, accessFlags := 2, code := none }
def k3c1 : Code := { maxStack := 2, maxLocals := 2, code := jdk_29_method_69_code, exceptionTable := #[], attributes := #[] }
def k3m1 : Method := { name := "min", desc := "(II)I", sig := { parameters := [.int, .int], returnType := some .int }, accessFlags := 9, code := some k3c1 }
/-- java/lang/Math -/
def k3 : Class := { plain "java/lang/Math" (some 0) with
  accessFlags := 49
  interfaces := #[]
  cf := some (fileOf pool3 1 #[.nestMembers #[98]] #[{ accessFlags := 2, nameIndex := 7, descriptorIndex := 8, attributes := #[] }, { accessFlags := 9, nameIndex := 201, descriptorIndex := 335, attributes := #[] }] 49 4 #[] #[{ accessFlags := 25, nameIndex := 354, descriptorIndex := 339, attributes := #[] }, { accessFlags := 25, nameIndex := 358, descriptorIndex := 339, attributes := #[] }, { accessFlags := 25, nameIndex := 361, descriptorIndex := 339, attributes := #[] }, { accessFlags := 26, nameIndex := 364, descriptorIndex := 339, attributes := #[] }, { accessFlags := 26, nameIndex := 365, descriptorIndex := 339, attributes := #[] }, { accessFlags := 26, nameIndex := 172, descriptorIndex := 173, attributes := #[] }, { accessFlags := 26, nameIndex := 176, descriptorIndex := 173, attributes := #[] }, { accessFlags := 8, nameIndex := 344, descriptorIndex := 339, attributes := #[] }, { accessFlags := 8, nameIndex := 338, descriptorIndex := 339, attributes := #[] }, { accessFlags := 4120, nameIndex := 245, descriptorIndex := 246, attributes := #[] }])
  fields := #[{ name := "E", type := .double, accessFlags := 25, slot := 0, constantValue := 0 }, { name := "PI", type := .double, accessFlags := 25, slot := 1, constantValue := 0 }, { name := "TAU", type := .double, accessFlags := 25, slot := 2, constantValue := 0 }, { name := "DEGREES_TO_RADIANS", type := .double, accessFlags := 26, slot := 3, constantValue := 0 }, { name := "RADIANS_TO_DEGREES", type := .double, accessFlags := 26, slot := 4, constantValue := 0 }, { name := "negativeZeroFloatBits", type := .long, accessFlags := 26, slot := 5, constantValue := 0 }, { name := "negativeZeroDoubleBits", type := .long, accessFlags := 26, slot := 6, constantValue := 0 }, { name := "twoToTheDoubleScaleUp", type := .double, accessFlags := 8, slot := 7, constantValue := 0 }, { name := "twoToTheDoubleScaleDown", type := .double, accessFlags := 8, slot := 8, constantValue := 0 }, { name := "$assertionsDisabled", type := .boolean, accessFlags := 4120, slot := 9, constantValue := 0 }]
  methods := #[k3m0, k3m1]
  instanceTypes := #[]
  staticTypes := #[.double, .double, .double, .double, .double, .long, .long, .double, .double, .boolean]
  resolved := Array.replicate 460 none
  statics := none }

def pool4 : Array CpInfo := pool [(1, u "java/lang/Cloneable"), (0, .class_ 1), (0, u "java/lang/Object"), (0, .class_ 3)] 3

/-- java/lang/Cloneable -/
def k4 : Class := { plain "java/lang/Cloneable" (some 0) with
  accessFlags := 1537
  interfaces := #[]
  cf := some (fileOf pool4 2 #[] #[] 1537 4 #[] #[])
  fields := #[]
  methods := #[]
  instanceTypes := #[]
  staticTypes := #[]
  resolved := Array.replicate 8 none
  statics := none }

def pool5 : Array CpInfo := pool [(1, u "java/io/Serializable"), (0, .class_ 1), (0, u "java/lang/Object"), (0, .class_ 3)] 3

/-- java/io/Serializable -/
def k5 : Class := { plain "java/io/Serializable" (some 0) with
  accessFlags := 1537
  interfaces := #[]
  cf := some (fileOf pool5 2 #[] #[] 1537 4 #[] #[])
  fields := #[]
  methods := #[]
  instanceTypes := #[]
  staticTypes := #[]
  resolved := Array.replicate 8 none
  statics := none }

/-- the primitive byte -/
def k6 : Class := { plain "byte" none with kind := .primitive 'B', accessFlags := 0x411 }
/-- [B -/
def k7 : Class := { plain "[B" (some 0) with kind := .array 6 .byte, interfaces := #[4, 5], accessFlags := 1041 }

/-- the primitive int -/
def k8 : Class := { plain "int" none with kind := .primitive 'I', accessFlags := 0x411 }
/-- [I -/
def k9 : Class := { plain "[I" (some 0) with kind := .array 8 .int, interfaces := #[4, 5], accessFlags := 1041 }

def heap : Heap := #[{ cls := 2, slots := #[.int 0, .int 0, .int 0, .int 0, .int 0, .int 0, .int 0, .int 0, .int 0, .int 0, .int 0, .int 0, .int 0, .int 0, .int 0, .int 0, .int 0, .int 0, .int 0, .int 0, .int 0, .int 0, .int 0, .int 0, .int 0, .int 0, .int 0, .int 0, .int 0, .int 0, .int 0, .int 0, .int 0, .int 0, .int 0, .int 0, .int 0, .int 0, .int 0, .ref 1, .int 0, .int 0, .null, .int 0, .null, .int 0, .int 0, .int 0, .int 0], vm := .statics 2 },
  { cls := 7, slots := #[.int 4, .int 4, .int 4, .int 4, .int 4, .int 4, .int 4, .int 4, .int 4, .int 4, .int 4, .int 4, .int 4, .int 4, .int 4, .int 4, .int 4, .int 4, .int 4, .int 4, .int 4, .int 4, .int 4, .int 4, .int 4, .int 4, .int 4, .int 8, .int 4, .int 4, .int 4, .int 4, .int 4, .int 4, .int 4, .int 4, .int 4, .int 4, .int 4, .int 4, .int 4, .int 4, .int 4, .int 4, .int 4, .int 4, .int 4, .int 4, .int 4, .int 4, .int 4, .int 4, .int 4, .int 4, .int 4, .int 4, .int 4, .int 4, .int 4, .int 4, .int 4, .int 4, .int 4, .int 4, .int 4, .int 4, .int 4, .int 4, .int 4, .int 4, .int 4, .int 4, .int 4, .int 4, .int 4, .int 4, .int 4, .int 4, .int 4, .int 4, .int 4, .int 4, .int 4, .int 4, .int 4, .int 4, .int 4, .int 4, .int 4, .int 4, .int 4, .int 4, .int 4, .int 4, .int 4, .int 4, .int 4, .int 1, .int 0, .int 0, .int 0, .int 1, .int 0, .int 0, .int 0, .int 1, .int 0, .int 0, .int 0, .int 0, .int 0, .int 1, .int 0, .int 0, .int 0, .int 0, .int 0, .int 1, .int 0, .int 0, .int 0, .int 2, .int 0, .int 4, .int 4, .int 4, .int 4, .int 4], vm := .none }]
def classes : Array Class := #[k0, k1, k2, k3, k4, k5, k6, k7, k8, k9]
def interned : List (Array UInt16 × Addr) := []
def slotsUsed : Nat := 177
def theMethod : MethodId := ⟨1, 2⟩
def args0 : Array Value := #[.int 5, .int 9]
def aboutOver (below : List Frame) : State where
  vm := { classes := classes, interned := interned.toArray }
  heap := heap
  slotsUsed := slotsUsed
  threads := #[{ frames := .invoking theMethod args0 :: below }]
def below0 : List Frame := [.native { method := ⟨0, 0⟩, args := #[] }]
def about1 : State := aboutOver below0
def p0 : Program := .bare "" "" ""
def e0 : Env := launch0.env 0 0 0
theorem w_frames : about1.frames = Frame.invoking theMethod args0 :: below0 := rfl
set_option maxRecDepth 65536 in
theorem w_args : argsFit about1.vm theMethod args0 = true := by decide +kernel
set_option maxRecDepth 65536 in
theorem w_heap : heapFits about1 = true := by decide +kernel
set_option maxRecDepth 65536 in
theorem w_runnable : about1.curStatus? = some .runnable := by decide +kernel
set_option maxRecDepth 65536 in
theorem w_alone : about1.alone = true := by decide +kernel
set_option maxRecDepth 65536 in
theorem w_named : about1.methodNamed? x = some theMethod := by decide +kernel
set_option maxRecDepth 65536 in
theorem w_hears : about1.hears theMethod below0 = true := by decide +kernel
set_option maxRecDepth 65536 in
theorem w_ripe : about1.ripe theMethod args0 below0 = true := by decide +kernel
theorem w_running : about1.status = .running := rfl
set_option maxRecDepth 65536 in
theorem w_room : about1.hasRoom e0.platform room_1 = true :=
  launch0.hasRoom_least _ room_1 (by decide +kernel) (by decide +kernel) (by decide +kernel) (by decide +kernel) (by decide +kernel) (by decide +kernel)
theorem allAtoms_all (ts : List Jvm.Cond) (a : Array Jvm.Value) (st : Jvm.State) : (allAtoms ts).before a st = ts.all (fun c => c.before a st) := by
  induction ts with
  | nil => rfl
  | cons c t ih =>
    show (Jvm.Cond.and c (allAtoms t)).before a st = _
    rw [Jvm.Cond.before_and, ih, List.all_cons]
def words1 : List Jvm.Cond := Jvm.Cond.code x code maxLocals ret :: tables_1
/-- a 'code' word, met by the world's own term for the bytes: nothing is compared byte by byte -/
theorem code_word {y : MethodName} {bytes : ByteArray} {mx : Nat} {rt : Option FieldType} {a : Array Value} {s : State} {m : MethodId} {meth : Method} {c : Code} (h1 : s.methodNamed? y = some m) (h2 : s.vm.method? m = some meth) (h3 : meth.code = some c) (h4 : c.code = bytes)
    (h5 : (c.maxLocals == mx && c.exceptionTable.isEmpty && decide (c.maxStack ≤ mostOperands) && decide (meth.sig.returnType = rt) && !meth.locks && decide (parseMethodDescriptor y.desc = some meth.sig)) = true) : (Jvm.Cond.code y bytes mx rt).before a s = true := by
  simp only [Bool.and_eq_true, beq_iff_eq, Bool.not_eq_true', decide_eq_true_eq] at h5
  obtain ⟨⟨⟨⟨⟨g1, g2⟩, g3⟩, g4⟩, g5⟩, g6⟩ := h5
  simp [Cond.before, Cond.holds, Cond.value, h1, h2, h3, h4, g1, g2, g3, g4, g5, g6]
def isCode : Jvm.Cond → Bool
  | .code _ _ _ _ => true
  | _ => false
theorem all_split {L : List Jvm.Cond} {P : Jvm.Cond → Bool} (h1 : L.all (fun c => isCode c || P c) = true) (h2 : ∀ c ∈ L.filter isCode, P c = true) : L.all P = true := by
  refine List.all_eq_true.mpr fun c hc => ?_
  have h := List.all_eq_true.mp h1 c hc
  rcases Bool.eq_false_or_eq_true (isCode c) with hi | hi
  · exact h2 c (List.mem_filter.mpr ⟨hc, hi⟩)
  · simpa [hi] using h
set_option maxRecDepth 65536 in
theorem w_c0 : (Jvm.Cond.code x code maxLocals ret).before args0 about1 = true := code_word (m := ⟨1, 2⟩) (meth := k1m2) (c := k1c2) (by decide +kernel) rfl rfl rfl (by decide +kernel)
set_option maxRecDepth 65536 in
theorem w_c1 : (Jvm.Cond.code ({ cls := "com/example/stemshear/stemshear/ConditionStandInLetterPinLaw", name := "prefix", desc := "(I)I" } : Jvm.MethodName) method_2_code (1 : Nat) (Option.some Jvm.ClassFile.FieldType.int)).before args0 about1 = true := code_word (m := ⟨1, 1⟩) (meth := k1m1) (c := k1c1) (by decide +kernel) rfl rfl rfl (by decide +kernel)
set_option maxRecDepth 65536 in
theorem w_c2 : (Jvm.Cond.code ({ cls := "com/example/stemshear/stemshear/Condition", name := "standInLetter", desc := "(II)C" } : Jvm.MethodName) prog_10_method_27_code (3 : Nat) (Option.some Jvm.ClassFile.FieldType.char)).before args0 about1 = true := code_word (m := ⟨2, 3⟩) (meth := k2m3) (c := k2c3) (by decide +kernel) rfl rfl rfl (by decide +kernel)
set_option maxRecDepth 65536 in
theorem w_c3 : (Jvm.Cond.code ({ cls := "com/example/stemshear/stemshear/Condition", name := "afterLetter", desc := "(IC)I" } : Jvm.MethodName) prog_10_method_26_code (5 : Nat) (Option.some Jvm.ClassFile.FieldType.int)).before args0 about1 = true := code_word (m := ⟨2, 2⟩) (meth := k2m2) (c := k2c2) (by decide +kernel) rfl rfl rfl (by decide +kernel)
set_option maxRecDepth 65536 in
theorem w_c4 : (Jvm.Cond.code ({ cls := "com/example/stemshear/stemshear/Condition", name := "isVowel", desc := "(CZZ)Z" } : Jvm.MethodName) prog_10_method_30_code (3 : Nat) (Option.some Jvm.ClassFile.FieldType.boolean)).before args0 about1 = true := code_word (m := ⟨2, 4⟩) (meth := k2m4) (c := k2c4) (by decide +kernel) rfl rfl rfl (by decide +kernel)
set_option maxRecDepth 65536 in
theorem w_c5 : (Jvm.Cond.code ({ cls := "com/example/stemshear/stemshear/Condition", name := "kind", desc := "(C)I" } : Jvm.MethodName) prog_10_method_7_code (1 : Nat) (Option.some Jvm.ClassFile.FieldType.int)).before args0 about1 = true := code_word (m := ⟨2, 1⟩) (meth := k2m1) (c := k2c1) (by decide +kernel) rfl rfl rfl (by decide +kernel)
set_option maxRecDepth 65536 in
theorem w_c6 : (Jvm.Cond.code ({ cls := "java/lang/Math", name := "min", desc := "(II)I" } : Jvm.MethodName) jdk_29_method_69_code (2 : Nat) (Option.some Jvm.ClassFile.FieldType.int)).before args0 about1 = true := code_word (m := ⟨3, 1⟩) (meth := k3m1) (c := k3c1) (by decide +kernel) rfl rfl rfl (by decide +kernel)
def codes1 : List Jvm.Cond := [Jvm.Cond.code x code maxLocals ret, Jvm.Cond.code ({ cls := "com/example/stemshear/stemshear/ConditionStandInLetterPinLaw", name := "prefix", desc := "(I)I" } : Jvm.MethodName) method_2_code (1 : Nat) (Option.some Jvm.ClassFile.FieldType.int), Jvm.Cond.code ({ cls := "com/example/stemshear/stemshear/Condition", name := "standInLetter", desc := "(II)C" } : Jvm.MethodName) prog_10_method_27_code (3 : Nat) (Option.some Jvm.ClassFile.FieldType.char), Jvm.Cond.code ({ cls := "com/example/stemshear/stemshear/Condition", name := "afterLetter", desc := "(IC)I" } : Jvm.MethodName) prog_10_method_26_code (5 : Nat) (Option.some Jvm.ClassFile.FieldType.int), Jvm.Cond.code ({ cls := "com/example/stemshear/stemshear/Condition", name := "isVowel", desc := "(CZZ)Z" } : Jvm.MethodName) prog_10_method_30_code (3 : Nat) (Option.some Jvm.ClassFile.FieldType.boolean), Jvm.Cond.code ({ cls := "com/example/stemshear/stemshear/Condition", name := "kind", desc := "(C)I" } : Jvm.MethodName) prog_10_method_7_code (1 : Nat) (Option.some Jvm.ClassFile.FieldType.int), Jvm.Cond.code ({ cls := "java/lang/Math", name := "min", desc := "(II)I" } : Jvm.MethodName) jdk_29_method_69_code (2 : Nat) (Option.some Jvm.ClassFile.FieldType.int)]
set_option maxRecDepth 65536 in
theorem codes_eq : words1.filter isCode = codes1 := rfl
theorem w_codes : ∀ c ∈ words1.filter isCode, c.before args0 about1 = true := by
  rw [codes_eq]
  intro c hc
  simp only [codes1, List.mem_cons, List.not_mem_nil, or_false] at hc
  rcases hc with rfl | rfl | rfl | rfl | rfl | rfl | rfl
  · exact w_c0
  · exact w_c1
  · exact w_c2
  · exact w_c3
  · exact w_c4
  · exact w_c5
  · exact w_c6
set_option maxRecDepth 65536 in
theorem w_t1 : (words1.take 24).all (fun c => isCode c || c.before args0 about1) = true := by decide +kernel
set_option maxRecDepth 65536 in
theorem w_t2 : (words1.drop 24).all (fun c => isCode c || c.before args0 about1) = true := by decide +kernel
theorem w_tables : (allAtoms (Jvm.Cond.code x code maxLocals ret :: tables_1)).before args0 about1 = true := by
  rw [allAtoms_all]
  show words1.all (fun c => c.before args0 about1) = true
  refine all_split ?_ w_codes
  rw [← List.take_append_drop 24 words1, List.all_append, w_t1, w_t2]
  rfl
set_option maxRecDepth 65536 in
theorem w_case : (Jvm.Cond.and given_1 narrow_1).before args0 about1 = true := by decide +kernel
theorem w_applies : (headSpec (Jvm.Cond.code x code maxLocals ret :: tables_1) room_1).applies x e0.platform about1 = true :=
  (Spec.applies_iff w_frames).mpr ⟨w_running, w_runnable, w_alone, w_named, w_hears, w_ripe, w_room, w_tables⟩
theorem atStart : AtStart classFile x code maxLocals ret World_1 tables_1 room_1 Calls_1 rest_1 Pre_1 launch0 p0 e0 about1 theMethod args0 below0 :=
  ⟨lists_1, trivial, launch0.admits_env _ _ _, launch0.least_env, fairChoices_fair.cas, fairChoices_fair.clock, w_frames, w_args, w_heap, w_applies, trivial, trivial, w_case⟩
end start1
theorem witness_1 : WitnessClaimed_1 := ⟨start1.p0, start1.e0, start1.about1, start1.theMethod, start1.args0, start1.below0, start1.atStart⟩
end Jvm.Pilot.@@N@@
