import JvmDerived
import JvmDerived.Pilot.@@N@@Statement
import JvmDerived.Pilot.@@N@@Code
set_option linter.unusedVariables false
set_option linter.unusedSimpArgs false
namespace Jvm.Own
open Sem ClassFile Op Lib Jvm.Stand Jvm.Free Jvm.LawKit Jvm.RoadKit
section Steps
variable {p : Program} {l : Launch} {e : Env} {R : Room} {s : State} {m : MethodId} {args : Array Value} {below : List Frame} {meth : Method} {c : Code} {T t : State} {locs : List Loc} {cells slots : Nat} {pc : Nat} {Ls Ls' : Array Slot} {S : List Value}
theorem iloadN (X : Stand p l e R s m args below meth c T locs cells slots) (hx : p.tables.exec = Jvm.exec) {k : Fin 4} {v : Int32} (hd : decode c.code pc = .ok (.iload_n k, 1)) (hl : Ls[k.val]? = some (.val (.int v))) (hr : Steps p.tables e below (T.setTop (mkF m (pc + 1) Ls (.int v :: S))) t) : Steps p.tables e below (T.setTop (mkF m pc Ls S)) t := XS.iloadN X.here hx rfl hd hl hr
theorem iload (X : Stand p l e R s m args below meth c T locs cells slots) (hx : p.tables.exec = Jvm.exec) {k : Nat} {v : Int32} (hd : decode c.code pc = .ok (.iload k, 2)) (hl : Ls[k]? = some (.val (.int v))) (hr : Steps p.tables e below (T.setTop (mkF m (pc + 2) Ls (.int v :: S))) t) : Steps p.tables e below (T.setTop (mkF m pc Ls S)) t := XS.iload X.here hx rfl hd hl hr
theorem istoreN (X : Stand p l e R s m args below meth c T locs cells slots) (hx : p.tables.exec = Jvm.exec) {k : Fin 4} {v : Int32} (Ls' : Array Slot) (hd : decode c.code pc = .ok (.istore_n k, 1)) (hl : storeLocals Ls k.val (.int v) = some Ls') (hr : Steps p.tables e below (T.setTop (mkF m (pc + 1) Ls' S)) t) : Steps p.tables e below (T.setTop (mkF m pc Ls (.int v :: S))) t := XS.istoreN X.here hx rfl hd rfl hl hr
theorem istore (X : Stand p l e R s m args below meth c T locs cells slots) (hx : p.tables.exec = Jvm.exec) {k : Nat} {v : Int32} (Ls' : Array Slot) (hd : decode c.code pc = .ok (.istore k, 2)) (hl : storeLocals Ls k (.int v) = some Ls') (hr : Steps p.tables e below (T.setTop (mkF m (pc + 2) Ls' S)) t) : Steps p.tables e below (T.setTop (mkF m pc Ls (.int v :: S))) t := XS.istore X.here hx rfl hd rfl hl hr
theorem lloadN (X : Stand p l e R s m args below meth c T locs cells slots) (hx : p.tables.exec = Jvm.exec) {k : Fin 4} {v : Int64} (hd : decode c.code pc = .ok (.lload_n k, 1)) (hl : Ls[k.val]? = some (.val (.long v))) (hr : Steps p.tables e below (T.setTop (mkF m (pc + 1) Ls (.long v :: S))) t) : Steps p.tables e below (T.setTop (mkF m pc Ls S)) t := XS.lloadN X.here hx rfl hd hl hr
theorem lload (X : Stand p l e R s m args below meth c T locs cells slots) (hx : p.tables.exec = Jvm.exec) {k : Nat} {v : Int64} (hd : decode c.code pc = .ok (.lload k, 2)) (hl : Ls[k]? = some (.val (.long v))) (hr : Steps p.tables e below (T.setTop (mkF m (pc + 2) Ls (.long v :: S))) t) : Steps p.tables e below (T.setTop (mkF m pc Ls S)) t := XS.lload X.here hx rfl hd hl hr
theorem lstoreN (X : Stand p l e R s m args below meth c T locs cells slots) (hx : p.tables.exec = Jvm.exec) {k : Fin 4} {v : Int64} (Ls' : Array Slot) (hd : decode c.code pc = .ok (.lstore_n k, 1)) (hl : storeLocals Ls k.val (.long v) = some Ls') (hr : Steps p.tables e below (T.setTop (mkF m (pc + 1) Ls' S)) t) : Steps p.tables e below (T.setTop (mkF m pc Ls (.long v :: S))) t := XS.lstoreN X.here hx rfl hd rfl hl hr
theorem lstore (X : Stand p l e R s m args below meth c T locs cells slots) (hx : p.tables.exec = Jvm.exec) {k : Nat} {v : Int64} (Ls' : Array Slot) (hd : decode c.code pc = .ok (.lstore k, 2)) (hl : storeLocals Ls k (.long v) = some Ls') (hr : Steps p.tables e below (T.setTop (mkF m (pc + 2) Ls' S)) t) : Steps p.tables e below (T.setTop (mkF m pc Ls (.long v :: S))) t := XS.lstore X.here hx rfl hd rfl hl hr
theorem aloadN (X : Stand p l e R s m args below meth c T locs cells slots) (hx : p.tables.exec = Jvm.exec) {k : Fin 4} {v : Value} (hd : decode c.code pc = .ok (.aload_n k, 1)) (hl : Ls[k.val]? = some (.val v)) (hv : v.isRef = true) (hr : Steps p.tables e below (T.setTop (mkF m (pc + 1) Ls (v :: S))) t) : Steps p.tables e below (T.setTop (mkF m pc Ls S)) t := XS.aloadN X.here hx rfl hd hl hv hr
theorem aload (X : Stand p l e R s m args below meth c T locs cells slots) (hx : p.tables.exec = Jvm.exec) {k : Nat} {v : Value} (hd : decode c.code pc = .ok (.aload k, 2)) (hl : Ls[k]? = some (.val v)) (hv : v.isRef = true) (hr : Steps p.tables e below (T.setTop (mkF m (pc + 2) Ls (v :: S))) t) : Steps p.tables e below (T.setTop (mkF m pc Ls S)) t := XS.aload X.here hx rfl hd hl hv hr
theorem astoreN (X : Stand p l e R s m args below meth c T locs cells slots) (hx : p.tables.exec = Jvm.exec) {k : Fin 4} {v : Value} (Ls' : Array Slot) (hd : decode c.code pc = .ok (.astore_n k, 1)) (hv : v.isRef = true) (hl : storeLocals Ls k.val v = some Ls') (hr : Steps p.tables e below (T.setTop (mkF m (pc + 1) Ls' S)) t) : Steps p.tables e below (T.setTop (mkF m pc Ls (v :: S))) t := XS.astoreN X.here hx rfl hd rfl hv hl hr
theorem astore (X : Stand p l e R s m args below meth c T locs cells slots) (hx : p.tables.exec = Jvm.exec) {k : Nat} {v : Value} (Ls' : Array Slot) (hd : decode c.code pc = .ok (.astore k, 2)) (hv : v.isRef = true) (hl : storeLocals Ls k v = some Ls') (hr : Steps p.tables e below (T.setTop (mkF m (pc + 2) Ls' S)) t) : Steps p.tables e below (T.setTop (mkF m pc Ls (v :: S))) t := XS.astore X.here hx rfl hd rfl hv hl hr
theorem iconst (X : Stand p l e R s m args below meth c T locs cells slots) (hx : p.tables.exec = Jvm.exec) {i : Int} (v : Int32) (hd : decode c.code pc = .ok (.iconst i, 1)) (hv : Int32.ofInt i = v) (hr : Steps p.tables e below (T.setTop (mkF m (pc + 1) Ls (.int v :: S))) t) : Steps p.tables e below (T.setTop (mkF m pc Ls S)) t := XS.iconst X.here hx rfl hd (hv ▸ hr)
theorem bipush (X : Stand p l e R s m args below meth c T locs cells slots) (hx : p.tables.exec = Jvm.exec) {i : Int} (v : Int32) (hd : decode c.code pc = .ok (.bipush i, 2)) (hv : (Int8.ofInt i).toInt32 = v) (hr : Steps p.tables e below (T.setTop (mkF m (pc + 2) Ls (.int v :: S))) t) : Steps p.tables e below (T.setTop (mkF m pc Ls S)) t := XS.bipush X.here hx rfl hd (hv ▸ hr)
theorem sipush (X : Stand p l e R s m args below meth c T locs cells slots) (hx : p.tables.exec = Jvm.exec) {i : Int} (v : Int32) (hd : decode c.code pc = .ok (.sipush i, 3)) (hv : (Int16.ofInt i).toInt32 = v) (hr : Steps p.tables e below (T.setTop (mkF m (pc + 3) Ls (.int v :: S))) t) : Steps p.tables e below (T.setTop (mkF m pc Ls S)) t := XS.sipush X.here hx rfl hd (hv ▸ hr)
theorem lconst (X : Stand p l e R s m args below meth c T locs cells slots) (hx : p.tables.exec = Jvm.exec) {k : Fin 2} (v : Int64) (hd : decode c.code pc = .ok (.lconst k, 1)) (hv : Int64.ofNat k = v) (hr : Steps p.tables e below (T.setTop (mkF m (pc + 1) Ls (.long v :: S))) t) : Steps p.tables e below (T.setTop (mkF m pc Ls S)) t := XS.lconst X.here hx rfl hd (hv ▸ hr)
theorem aconstNull (X : Stand p l e R s m args below meth c T locs cells slots) (hx : p.tables.exec = Jvm.exec)  (hd : decode c.code pc = .ok (.aconst_null, 1)) (hr : Steps p.tables e below (T.setTop (mkF m (pc + 1) Ls (.null :: S))) t) : Steps p.tables e below (T.setTop (mkF m pc Ls S)) t := XS.aconstNull X.here hx rfl hd hr
theorem iadd (X : Stand p l e R s m args below meth c T locs cells slots) (hx : p.tables.exec = Jvm.exec) {x y : Int32} (hd : decode c.code pc = .ok (.iadd, 1)) (hr : Steps p.tables e below (T.setTop (mkF m (pc + 1) Ls (.int (x + y) :: S))) t) : Steps p.tables e below (T.setTop (mkF m pc Ls (.int y :: .int x :: S))) t := XS.iadd X.here hx rfl hd rfl hr
theorem isub (X : Stand p l e R s m args below meth c T locs cells slots) (hx : p.tables.exec = Jvm.exec) {x y : Int32} (hd : decode c.code pc = .ok (.isub, 1)) (hr : Steps p.tables e below (T.setTop (mkF m (pc + 1) Ls (.int (x - y) :: S))) t) : Steps p.tables e below (T.setTop (mkF m pc Ls (.int y :: .int x :: S))) t := XS.isub X.here hx rfl hd rfl hr
theorem imul (X : Stand p l e R s m args below meth c T locs cells slots) (hx : p.tables.exec = Jvm.exec) {x y : Int32} (hd : decode c.code pc = .ok (.imul, 1)) (hr : Steps p.tables e below (T.setTop (mkF m (pc + 1) Ls (.int (x * y) :: S))) t) : Steps p.tables e below (T.setTop (mkF m pc Ls (.int y :: .int x :: S))) t := XS.imul X.here hx rfl hd rfl hr
theorem iand (X : Stand p l e R s m args below meth c T locs cells slots) (hx : p.tables.exec = Jvm.exec) {x y : Int32} (hd : decode c.code pc = .ok (.iand, 1)) (hr : Steps p.tables e below (T.setTop (mkF m (pc + 1) Ls (.int (x &&& y) :: S))) t) : Steps p.tables e below (T.setTop (mkF m pc Ls (.int y :: .int x :: S))) t := XS.iand X.here hx rfl hd rfl hr
theorem ior (X : Stand p l e R s m args below meth c T locs cells slots) (hx : p.tables.exec = Jvm.exec) {x y : Int32} (hd : decode c.code pc = .ok (.ior, 1)) (hr : Steps p.tables e below (T.setTop (mkF m (pc + 1) Ls (.int (x ||| y) :: S))) t) : Steps p.tables e below (T.setTop (mkF m pc Ls (.int y :: .int x :: S))) t := XS.ior X.here hx rfl hd rfl hr
theorem ixor (X : Stand p l e R s m args below meth c T locs cells slots) (hx : p.tables.exec = Jvm.exec) {x y : Int32} (hd : decode c.code pc = .ok (.ixor, 1)) (hr : Steps p.tables e below (T.setTop (mkF m (pc + 1) Ls (.int (x ^^^ y) :: S))) t) : Steps p.tables e below (T.setTop (mkF m pc Ls (.int y :: .int x :: S))) t := XS.ixor X.here hx rfl hd rfl hr
theorem ishl (X : Stand p l e R s m args below meth c T locs cells slots) (hx : p.tables.exec = Jvm.exec) {x y : Int32} (hd : decode c.code pc = .ok (.ishl, 1)) (hr : Steps p.tables e below (T.setTop (mkF m (pc + 1) Ls (.int (x <<< (y &&& 31)) :: S))) t) : Steps p.tables e below (T.setTop (mkF m pc Ls (.int y :: .int x :: S))) t := XS.ishl X.here hx rfl hd rfl hr
theorem ishr (X : Stand p l e R s m args below meth c T locs cells slots) (hx : p.tables.exec = Jvm.exec) {x y : Int32} (hd : decode c.code pc = .ok (.ishr, 1)) (hr : Steps p.tables e below (T.setTop (mkF m (pc + 1) Ls (.int (x >>> (y &&& 31)) :: S))) t) : Steps p.tables e below (T.setTop (mkF m pc Ls (.int y :: .int x :: S))) t := XS.ishr X.here hx rfl hd rfl hr
theorem iushr (X : Stand p l e R s m args below meth c T locs cells slots) (hx : p.tables.exec = Jvm.exec) {x y : Int32} (hd : decode c.code pc = .ok (.iushr, 1)) (hr : Steps p.tables e below (T.setTop (mkF m (pc + 1) Ls (.int ((x.toUInt32 >>> (y &&& 31).toUInt32).toInt32) :: S))) t) : Steps p.tables e below (T.setTop (mkF m pc Ls (.int y :: .int x :: S))) t := XS.iushr X.here hx rfl hd rfl hr
theorem ladd (X : Stand p l e R s m args below meth c T locs cells slots) (hx : p.tables.exec = Jvm.exec) {x y : Int64} (hd : decode c.code pc = .ok (.ladd, 1)) (hr : Steps p.tables e below (T.setTop (mkF m (pc + 1) Ls (.long (x + y) :: S))) t) : Steps p.tables e below (T.setTop (mkF m pc Ls (.long y :: .long x :: S))) t := XS.ladd X.here hx rfl hd rfl hr
theorem lsub (X : Stand p l e R s m args below meth c T locs cells slots) (hx : p.tables.exec = Jvm.exec) {x y : Int64} (hd : decode c.code pc = .ok (.lsub, 1)) (hr : Steps p.tables e below (T.setTop (mkF m (pc + 1) Ls (.long (x - y) :: S))) t) : Steps p.tables e below (T.setTop (mkF m pc Ls (.long y :: .long x :: S))) t := XS.lsub X.here hx rfl hd rfl hr
theorem lmul (X : Stand p l e R s m args below meth c T locs cells slots) (hx : p.tables.exec = Jvm.exec) {x y : Int64} (hd : decode c.code pc = .ok (.lmul, 1)) (hr : Steps p.tables e below (T.setTop (mkF m (pc + 1) Ls (.long (x * y) :: S))) t) : Steps p.tables e below (T.setTop (mkF m pc Ls (.long y :: .long x :: S))) t := XS.lmul X.here hx rfl hd rfl hr
theorem land (X : Stand p l e R s m args below meth c T locs cells slots) (hx : p.tables.exec = Jvm.exec) {x y : Int64} (hd : decode c.code pc = .ok (.land, 1)) (hr : Steps p.tables e below (T.setTop (mkF m (pc + 1) Ls (.long (x &&& y) :: S))) t) : Steps p.tables e below (T.setTop (mkF m pc Ls (.long y :: .long x :: S))) t := XS.land X.here hx rfl hd rfl hr
theorem lor (X : Stand p l e R s m args below meth c T locs cells slots) (hx : p.tables.exec = Jvm.exec) {x y : Int64} (hd : decode c.code pc = .ok (.lor, 1)) (hr : Steps p.tables e below (T.setTop (mkF m (pc + 1) Ls (.long (x ||| y) :: S))) t) : Steps p.tables e below (T.setTop (mkF m pc Ls (.long y :: .long x :: S))) t := XS.lor X.here hx rfl hd rfl hr
theorem lxor (X : Stand p l e R s m args below meth c T locs cells slots) (hx : p.tables.exec = Jvm.exec) {x y : Int64} (hd : decode c.code pc = .ok (.lxor, 1)) (hr : Steps p.tables e below (T.setTop (mkF m (pc + 1) Ls (.long (x ^^^ y) :: S))) t) : Steps p.tables e below (T.setTop (mkF m pc Ls (.long y :: .long x :: S))) t := XS.lxor X.here hx rfl hd rfl hr
theorem lshl (X : Stand p l e R s m args below meth c T locs cells slots) (hx : p.tables.exec = Jvm.exec) {x : Int64} {y : Int32} (hd : decode c.code pc = .ok (.lshl, 1)) (hr : Steps p.tables e below (T.setTop (mkF m (pc + 1) Ls (.long (x <<< (y &&& 0x3f).toInt64) :: S))) t) : Steps p.tables e below (T.setTop (mkF m pc Ls (.int y :: .long x :: S))) t := XS.lshl X.here hx rfl hd rfl hr
theorem lshr (X : Stand p l e R s m args below meth c T locs cells slots) (hx : p.tables.exec = Jvm.exec) {x : Int64} {y : Int32} (hd : decode c.code pc = .ok (.lshr, 1)) (hr : Steps p.tables e below (T.setTop (mkF m (pc + 1) Ls (.long (x >>> (y &&& 0x3f).toInt64) :: S))) t) : Steps p.tables e below (T.setTop (mkF m pc Ls (.int y :: .long x :: S))) t := XS.lshr X.here hx rfl hd rfl hr
theorem lushr (X : Stand p l e R s m args below meth c T locs cells slots) (hx : p.tables.exec = Jvm.exec) {x : Int64} {y : Int32} (hd : decode c.code pc = .ok (.lushr, 1)) (hr : Steps p.tables e below (T.setTop (mkF m (pc + 1) Ls (.long ((x.toUInt64 >>> (y &&& 0x3f).toInt64.toUInt64).toInt64) :: S))) t) : Steps p.tables e below (T.setTop (mkF m pc Ls (.int y :: .long x :: S))) t := XS.lushr X.here hx rfl hd rfl hr
theorem idiv (X : Stand p l e R s m args below meth c T locs cells slots) (hx : p.tables.exec = Jvm.exec) {x y : Int32} (hd : decode c.code pc = .ok (.idiv, 1)) (hy : y ≠ 0) (hr : Steps p.tables e below (T.setTop (mkF m (pc + 1) Ls (.int (x / y) :: S))) t) : Steps p.tables e below (T.setTop (mkF m pc Ls (.int y :: .int x :: S))) t := XS.idiv X.here hx rfl hd rfl hy hr
theorem irem (X : Stand p l e R s m args below meth c T locs cells slots) (hx : p.tables.exec = Jvm.exec) {x y : Int32} (hd : decode c.code pc = .ok (.irem, 1)) (hy : y ≠ 0) (hr : Steps p.tables e below (T.setTop (mkF m (pc + 1) Ls (.int (x % y) :: S))) t) : Steps p.tables e below (T.setTop (mkF m pc Ls (.int y :: .int x :: S))) t := iremM X hx rfl hd rfl hy hr
theorem ldiv (X : Stand p l e R s m args below meth c T locs cells slots) (hx : p.tables.exec = Jvm.exec) {x y : Int64} (hd : decode c.code pc = .ok (.ldiv, 1)) (hy : y ≠ 0) (hr : Steps p.tables e below (T.setTop (mkF m (pc + 1) Ls (.long (x / y) :: S))) t) : Steps p.tables e below (T.setTop (mkF m pc Ls (.long y :: .long x :: S))) t := XS.ldiv X.here hx rfl hd rfl hy hr
theorem lrem (X : Stand p l e R s m args below meth c T locs cells slots) (hx : p.tables.exec = Jvm.exec) {x y : Int64} (hd : decode c.code pc = .ok (.lrem, 1)) (hy : y ≠ 0) (hr : Steps p.tables e below (T.setTop (mkF m (pc + 1) Ls (.long (x - (x / y) * y) :: S))) t) : Steps p.tables e below (T.setTop (mkF m pc Ls (.long y :: .long x :: S))) t := XS.lrem X.here hx rfl hd rfl hy hr
theorem ineg (X : Stand p l e R s m args below meth c T locs cells slots) (hx : p.tables.exec = Jvm.exec) {x : Int32} (hd : decode c.code pc = .ok (.ineg, 1)) (hr : Steps p.tables e below (T.setTop (mkF m (pc + 1) Ls (.int (-x) :: S))) t) : Steps p.tables e below (T.setTop (mkF m pc Ls (.int x :: S))) t := XS.ineg X.here hx rfl hd rfl hr
theorem i2b (X : Stand p l e R s m args below meth c T locs cells slots) (hx : p.tables.exec = Jvm.exec) {x : Int32} (hd : decode c.code pc = .ok (.i2b, 1)) (hr : Steps p.tables e below (T.setTop (mkF m (pc + 1) Ls (.int (x.toInt8.toInt32) :: S))) t) : Steps p.tables e below (T.setTop (mkF m pc Ls (.int x :: S))) t := XS.i2b X.here hx rfl hd rfl hr
theorem i2c (X : Stand p l e R s m args below meth c T locs cells slots) (hx : p.tables.exec = Jvm.exec) {x : Int32} (hd : decode c.code pc = .ok (.i2c, 1)) (hr : Steps p.tables e below (T.setTop (mkF m (pc + 1) Ls (.int (x.toUInt32.toUInt16.toUInt32.toInt32) :: S))) t) : Steps p.tables e below (T.setTop (mkF m pc Ls (.int x :: S))) t := XS.i2c X.here hx rfl hd rfl hr
theorem i2s (X : Stand p l e R s m args below meth c T locs cells slots) (hx : p.tables.exec = Jvm.exec) {x : Int32} (hd : decode c.code pc = .ok (.i2s, 1)) (hr : Steps p.tables e below (T.setTop (mkF m (pc + 1) Ls (.int (x.toInt16.toInt32) :: S))) t) : Steps p.tables e below (T.setTop (mkF m pc Ls (.int x :: S))) t := XS.i2s X.here hx rfl hd rfl hr
theorem i2l (X : Stand p l e R s m args below meth c T locs cells slots) (hx : p.tables.exec = Jvm.exec) {x : Int32} (hd : decode c.code pc = .ok (.i2l, 1)) (hr : Steps p.tables e below (T.setTop (mkF m (pc + 1) Ls (.long (x.toInt64) :: S))) t) : Steps p.tables e below (T.setTop (mkF m pc Ls (.int x :: S))) t := XS.i2l X.here hx rfl hd rfl hr
theorem l2i (X : Stand p l e R s m args below meth c T locs cells slots) (hx : p.tables.exec = Jvm.exec) {x : Int64} (hd : decode c.code pc = .ok (.l2i, 1)) (hr : Steps p.tables e below (T.setTop (mkF m (pc + 1) Ls (.int (x.toInt32) :: S))) t) : Steps p.tables e below (T.setTop (mkF m pc Ls (.long x :: S))) t := XS.l2i X.here hx rfl hd rfl hr
theorem lneg (X : Stand p l e R s m args below meth c T locs cells slots) (hx : p.tables.exec = Jvm.exec) {x : Int64} (hd : decode c.code pc = .ok (.lneg, 1)) (hr : Steps p.tables e below (T.setTop (mkF m (pc + 1) Ls (.long (-x) :: S))) t) : Steps p.tables e below (T.setTop (mkF m pc Ls (.long x :: S))) t := XS.lneg X.here hx rfl hd rfl hr
theorem iinc (X : Stand p l e R s m args below meth c T locs cells slots) (hx : p.tables.exec = Jvm.exec) {k : Nat} {cst : Int} {x : Int32} (v : Int32) (Ls' : Array Slot) (hd : decode c.code pc = .ok (.iinc k cst, 3)) (hl : Ls[k]? = some (.val (.int x))) (hv : x + Int32.ofInt cst = v) (hl' : storeLocals Ls k (.int v) = some Ls') (hr : Steps p.tables e below (T.setTop (mkF m (pc + 3) Ls' S)) t) : Steps p.tables e below (T.setTop (mkF m pc Ls S)) t := XS.iinc X.here hx rfl hd hl (hv ▸ hl') hr
theorem dup (X : Stand p l e R s m args below meth c T locs cells slots) (hx : p.tables.exec = Jvm.exec) {v : Value} (hd : decode c.code pc = .ok (.dup, 1)) (hc : v.category = 1) (hr : Steps p.tables e below (T.setTop (mkF m (pc + 1) Ls (v :: v :: S))) t) : Steps p.tables e below (T.setTop (mkF m pc Ls (v :: S))) t := XS.dup X.here hx rfl hd rfl hc hr
theorem dupX1 (X : Stand p l e R s m args below meth c T locs cells slots) (hx : p.tables.exec = Jvm.exec) {v w : Value} (hd : decode c.code pc = .ok (.dup_x1, 1)) (hc : v.category = 1) (hc2 : w.category = 1) (hr : Steps p.tables e below (T.setTop (mkF m (pc + 1) Ls (v :: w :: v :: S))) t) : Steps p.tables e below (T.setTop (mkF m pc Ls (v :: w :: S))) t := XS.dupX1 X.here hx rfl hd rfl hc hc2 hr
theorem pop (X : Stand p l e R s m args below meth c T locs cells slots) (hx : p.tables.exec = Jvm.exec) {v : Value} (hd : decode c.code pc = .ok (.pop, 1)) (hc : v.category = 1) (hr : Steps p.tables e below (T.setTop (mkF m (pc + 1) Ls S)) t) : Steps p.tables e below (T.setTop (mkF m pc Ls (v :: S))) t := XS.pop X.here hx rfl hd rfl hc hr
theorem goto (X : Stand p l e R s m args below meth c T locs cells slots) (hx : p.tables.exec = Jvm.exec) {o : Int} (pc' : Nat) (hd : decode c.code pc = .ok (.goto o, 3)) (ho : 0 ≤ (pc : Int) + o) (hp : ((pc : Int) + o).toNat = pc') (hr : Steps p.tables e below (T.setTop (mkF m pc' Ls S)) t) : Steps p.tables e below (T.setTop (mkF m pc Ls S)) t := XS.goto X.here hx rfl rfl hd ho hp hr
theorem ifYes (X : Stand p l e R s m args below meth c T locs cells slots) (hx : p.tables.exec = Jvm.exec) {cd : ClassFile.Cond} {o : Int} {x : Int32} (pc' : Nat) (hd : decode c.code pc = .ok (.ifCond cd o, 3)) (hc : ifCond.holds cd x = true) (ho : 0 ≤ (pc : Int) + o) (hp : ((pc : Int) + o).toNat = pc') (hr : Steps p.tables e below (T.setTop (mkF m pc' Ls S)) t) : Steps p.tables e below (T.setTop (mkF m pc Ls (.int x :: S))) t := XS.ifYes X.here hx rfl rfl hd rfl hc ho hp hr
theorem ifNo (X : Stand p l e R s m args below meth c T locs cells slots) (hx : p.tables.exec = Jvm.exec) {cd : ClassFile.Cond} {o : Int} {x : Int32} (hd : decode c.code pc = .ok (.ifCond cd o, 3)) (hc : ifCond.holds cd x = false) (hr : Steps p.tables e below (T.setTop (mkF m (pc + 3) Ls S)) t) : Steps p.tables e below (T.setTop (mkF m pc Ls (.int x :: S))) t := XS.ifNo X.here hx rfl hd rfl hc hr
theorem icmpYes (X : Stand p l e R s m args below meth c T locs cells slots) (hx : p.tables.exec = Jvm.exec) {cd : ClassFile.Cond} {o : Int} {x y : Int32} (pc' : Nat) (hd : decode c.code pc = .ok (.if_icmp cd o, 3)) (hc : if_icmp.holds cd x y = true) (ho : 0 ≤ (pc : Int) + o) (hp : ((pc : Int) + o).toNat = pc') (hr : Steps p.tables e below (T.setTop (mkF m pc' Ls S)) t) : Steps p.tables e below (T.setTop (mkF m pc Ls (.int y :: .int x :: S))) t := XS.icmpYes X.here hx rfl rfl hd rfl hc ho hp hr
theorem icmpNo (X : Stand p l e R s m args below meth c T locs cells slots) (hx : p.tables.exec = Jvm.exec) {cd : ClassFile.Cond} {o : Int} {x y : Int32} (hd : decode c.code pc = .ok (.if_icmp cd o, 3)) (hc : if_icmp.holds cd x y = false) (hr : Steps p.tables e below (T.setTop (mkF m (pc + 3) Ls S)) t) : Steps p.tables e below (T.setTop (mkF m pc Ls (.int y :: .int x :: S))) t := XS.icmpNo X.here hx rfl hd rfl hc hr
theorem lcmp (X : Stand p l e R s m args below meth c T locs cells slots) (hx : p.tables.exec = Jvm.exec) {x y : Int64} (hd : decode c.code pc = .ok (.lcmp, 1)) (hr : Steps p.tables e below (T.setTop (mkF m (pc + 1) Ls (.int (lcmpW x y) :: S))) t) : Steps p.tables e below (T.setTop (mkF m pc Ls (.long y :: .long x :: S))) t := XS.lcmp X.here hx rfl hd rfl hr
theorem ifnullYes (X : Stand p l e R s m args below meth c T locs cells slots) (hx : p.tables.exec = Jvm.exec) {o : Int}  (pc' : Nat) (hd : decode c.code pc = .ok (.ifnull o, 3)) (ho : 0 ≤ (pc : Int) + o) (hp : ((pc : Int) + o).toNat = pc') (hr : Steps p.tables e below (T.setTop (mkF m pc' Ls S)) t) : Steps p.tables e below (T.setTop (mkF m pc Ls (.null :: S))) t := XS.ifnullYes X.here hx rfl rfl hd rfl ho hp hr
theorem ifnonnullYes (X : Stand p l e R s m args below meth c T locs cells slots) (hx : p.tables.exec = Jvm.exec) {o : Int} {b : Addr} (pc' : Nat) (hd : decode c.code pc = .ok (.ifnonnull o, 3)) (ho : 0 ≤ (pc : Int) + o) (hp : ((pc : Int) + o).toNat = pc') (hr : Steps p.tables e below (T.setTop (mkF m pc' Ls S)) t) : Steps p.tables e below (T.setTop (mkF m pc Ls (.ref b :: S))) t := XS.ifnonnullYes X.here hx rfl rfl hd rfl ho hp hr
theorem ifnullNo (X : Stand p l e R s m args below meth c T locs cells slots) (hx : p.tables.exec = Jvm.exec) {o : Int} {b : Addr} (hd : decode c.code pc = .ok (.ifnull o, 3)) (hr : Steps p.tables e below (T.setTop (mkF m (pc + 3) Ls S)) t) : Steps p.tables e below (T.setTop (mkF m pc Ls (.ref b :: S))) t := XS.ifnullNo X.here hx rfl hd rfl hr
theorem ifnonnullNo (X : Stand p l e R s m args below meth c T locs cells slots) (hx : p.tables.exec = Jvm.exec) {o : Int}  (hd : decode c.code pc = .ok (.ifnonnull o, 3)) (hr : Steps p.tables e below (T.setTop (mkF m (pc + 3) Ls S)) t) : Steps p.tables e below (T.setTop (mkF m pc Ls (.null :: S))) t := XS.ifnonnullNo X.here hx rfl hd rfl hr
theorem acmp (X : Stand p l e R s m args below meth c T locs cells slots) (hx : p.tables.exec = Jvm.exec) {cd : ACond} {x y : Value} {o : Int} (h1 : x.isRef = true) (h2 : y.isRef = true) (pc' : Nat) (same : Bool) (hd : decode c.code pc = .ok (.if_acmp cd o, 3)) (hq : decide (x = y) = same) (ho : 0 ≤ (pc : Int) + o) (hp : pc' = if acV cd same = true then ((pc : Int) + o).toNat else pc + 3) (hr : Steps p.tables e below (T.setTop (mkF m pc' Ls S)) t) : Steps p.tables e below (T.setTop (mkF m pc Ls (y :: x :: S))) t := Jvm.RoadKit.acmp (g := mkF m pc Ls (y :: x :: S)) X hx rfl h1 h2 (pc0 := pc) rfl hd rfl hq ho hp hr
theorem ldcI (X : Stand p l e R s m args below meth c T locs cells slots) (hx : p.tables.exec = Jvm.exec) {Z : State} {a0 : Array Value} {own : String} {index : Nat} (v : Int32) (hZ : Z.Warmed39 s.vm) (hown : s.vm.findClass own = some m.cls) (w : (Cond.constant own index v).before a0 Z = true) (hd : decode c.code pc = .ok (.ldc index, 2)) (hr : Steps p.tables e below (T.setTop (mkF m (pc + 2) Ls (.int v :: S))) t) : Steps p.tables e below (T.setTop (mkF m pc Ls S)) t := Jvm.Stand.ldcI (g := mkF m pc Ls S) X hx hown (mv hZ w) rfl hd hr
theorem ldc2J (X : Stand p l e R s m args below meth c T locs cells slots) (hx : p.tables.exec = Jvm.exec) {Z : State} {a0 : Array Value} {own : String} {index : Nat} (v : Int64) (hZ : Z.Warmed39 s.vm) (hown : s.vm.findClass own = some m.cls) (w : (Cond.constantLong own index v).before a0 Z = true) (hd : decode c.code pc = .ok (.ldc2_w index, 3)) (hr : Steps p.tables e below (T.setTop (mkF m (pc + 3) Ls (.long v :: S))) t) : Steps p.tables e below (T.setTop (mkF m pc Ls S)) t := Jvm.Stand.ldc2J (g := mkF m pc Ls S) X hx hown (mv hZ w) rfl hd hr
theorem iaload (X : Stand p l e R s m args below meth c T locs cells slots) (hx : p.tables.exec = Jvm.exec) {Z : State} {h : Heap} {a : Addr} {cl : Cell} {j : Int32} (v : Value) (hZ : Z.Warmed39 s.vm) (eT : T.heap = h) (A : Arr Z h a cl .int) (hin : ¬ (j < 0 ∨ cl.slots.size ≤ j.toNatClampNeg)) (hat : cl.slots[j.toNatClampNeg]? = some v) (hd : decode c.code pc = .ok (.iaload, 1)) (hr : Steps p.tables e below (T.setTop (mkF m (pc + 1) Ls (v :: S))) t) : Steps p.tables e below (T.setTop (mkF m pc Ls (.int j :: .ref a :: S))) t := X.iaload hx (j := j) (v := v) (by rw [eT]; exact A.1) (State.isArrayOf_alike hZ.alike A.2.1) A.2.2 hin hat (g := mkF m pc Ls (.int j :: .ref a :: S)) rfl rfl hd _ hr
theorem caload (X : Stand p l e R s m args below meth c T locs cells slots) (hx : p.tables.exec = Jvm.exec) {Z : State} {h : Heap} {a : Addr} {cl : Cell} {j : Int32} (v : Value) (hZ : Z.Warmed39 s.vm) (eT : T.heap = h) (A : Arr Z h a cl .char) (hin : ¬ (j < 0 ∨ cl.slots.size ≤ j.toNatClampNeg)) (hat : cl.slots[j.toNatClampNeg]? = some v) (hd : decode c.code pc = .ok (.caload, 1)) (hr : Steps p.tables e below (T.setTop (mkF m (pc + 1) Ls (v :: S))) t) : Steps p.tables e below (T.setTop (mkF m pc Ls (.int j :: .ref a :: S))) t := X.caload hx (j := j) (v := v) (by rw [eT]; exact A.1) (State.isArrayOf_alike hZ.alike A.2.1) A.2.2 hin hat (g := mkF m pc Ls (.int j :: .ref a :: S)) rfl rfl hd _ hr
theorem baload (X : Stand p l e R s m args below meth c T locs cells slots) (hx : p.tables.exec = Jvm.exec) {Z : State} {h : Heap} {a : Addr} {cl : Cell} {j : Int32} (v : Value) (hZ : Z.Warmed39 s.vm) (eT : T.heap = h) (A : Arr Z h a cl .byte) (hin : ¬ (j < 0 ∨ cl.slots.size ≤ j.toNatClampNeg)) (hat : cl.slots[j.toNatClampNeg]? = some v) (hd : decode c.code pc = .ok (.baload, 1)) (hr : Steps p.tables e below (T.setTop (mkF m (pc + 1) Ls (v :: S))) t) : Steps p.tables e below (T.setTop (mkF m pc Ls (.int j :: .ref a :: S))) t := X.baloadBytes hx (j := j) (v := v) (by rw [eT]; exact A.1) (State.isArrayOf_alike hZ.alike A.2.1) A.2.2 hin hat (g := mkF m pc Ls (.int j :: .ref a :: S)) rfl rfl hd _ hr
theorem laload (X : Stand p l e R s m args below meth c T locs cells slots) (hx : p.tables.exec = Jvm.exec) {Z : State} {h : Heap} {a : Addr} {cl : Cell} {j : Int32} (v : Value) (hZ : Z.Warmed39 s.vm) (eT : T.heap = h) (A : Arr Z h a cl .long) (hin : ¬ (j < 0 ∨ cl.slots.size ≤ j.toNatClampNeg)) (hat : cl.slots[j.toNatClampNeg]? = some v) (hd : decode c.code pc = .ok (.laload, 1)) (hr : Steps p.tables e below (T.setTop (mkF m (pc + 1) Ls (v :: S))) t) : Steps p.tables e below (T.setTop (mkF m pc Ls (.int j :: .ref a :: S))) t := X.laload hx (j := j) (v := v) (by rw [eT]; exact A.1) (State.isArrayOf_alike hZ.alike A.2.1) A.2.2 hin hat (g := mkF m pc Ls (.int j :: .ref a :: S)) rfl rfl hd _ hr
theorem arraylength (X : Stand p l e R s m args below meth c T locs cells slots) (hx : p.tables.exec = Jvm.exec) {Z : State} {h : Heap} {a : Addr} {cl : Cell} {ty : FieldType} (n : Int32) (hZ : Z.Warmed39 s.vm) (eT : T.heap = h) (A : Arr Z h a cl ty) (hn : cl.slots.size.toInt32 = n) (hd : decode c.code pc = .ok (.arraylength, 1)) (hr : Steps p.tables e below (T.setTop (mkF m (pc + 1) Ls (.int n :: S))) t) : Steps p.tables e below (T.setTop (mkF m pc Ls (.ref a :: S))) t := X.arraylength hx (cell := cl) (by rw [eT]; exact A.1) (State.isArrayOf_alike hZ.alike A.2.1) (g := mkF m pc Ls (.ref a :: S)) rfl rfl hd _ (hn ▸ hr)
end Steps
/-! what a body is said to leave -/
def Con (l : Launch) (Z : State) (y : MethodName) (bytes : ByteArray) (maxL : Nat) (ret : Option FieldType) (rm : Room) (as' : Array Value) (h0 : Heap) (Q : Option Value → Heap → List Loc → Prop) : Prop :=
  ∀ ws : List Jvm.Cond, MetFree l y (head1 (Jvm.Cond.code y bytes maxL ret :: ws) rm) (fun a U => a = as' ∧ Z.Warmed39 U.vm ∧ U.heap = h0) (fun _ _ _ _ _ => True) (fun _ U o U' => ∃ v L, o = .returned v ∧ Q v U'.heap L ∧ FrameEnd U o U' L rm.cells rm.slots)
/-- it returns v and nothing is written or made -/
abbrev Pure (v : Value) (h0 : Heap) (v' : Option Value) (h : Heap) (L : List Loc) : Prop := v' = some v ∧ L = [] ∧ h = h0
/-- what the law leaves -/
abbrev Law1 (h0 : Heap) (v : Option Value) (h : Heap) (L : List Loc) : Prop := v = some (.int 1) ∧ Fr h0.size L
theorem Con.mono {l : Launch} {Z : State} {y : MethodName} {bytes : ByteArray} {maxL : Nat} {ret : Option FieldType} {rm : Room} {as' : Array Value} {h0 : Heap} {Q Q' : Option Value → Heap → List Loc → Prop} (hM : Con l Z y bytes maxL ret rm as' h0 Q) (hQ : ∀ v h L, Q v h L → Q' v h L) : Con l Z y bytes maxL ret rm as' h0 Q' := by
  intro ws p e ha hc hk s m args below hf happ hP hK
  obtain ⟨n, o, h1, h2, h3, v, L, h4, h5, h6⟩ := hM ws p e ha hc hk s m args below hf happ hP hK
  exact ⟨n, o, h1, h2, h3, v, L, h4, hQ _ _ _ h5, h6⟩
theorem Con.law {l : Launch} {Z : State} {y : MethodName} {bytes : ByteArray} {maxL : Nat} {ret : Option FieldType} {rm : Room} {as' : Array Value} {h0 : Heap} {v : Value} (hM : Con l Z y bytes maxL ret rm as' h0 (Pure v h0)) (e : v = .int 1) : Con l Z y bytes maxL ret rm as' h0 (Law1 h0) :=
  hM.mono fun _ _ _ ⟨h1, h2, _⟩ => ⟨by rw [h1, e], by rw [h2]; exact Fr.nil _⟩
/-- where a walk must come to -/
abbrev Fin (p : Program) (e : Env) (below : List Frame) (B0 s : State) (C D : Nat) (Q : Option Value → Heap → List Loc → Prop) : Prop := ∃ s₂ o, Steps p.tables e below B0 s₂ ∧ s₂.status = .running ∧ Ended s₂ below o ∧ ∃ v L, o = .returned v ∧ Q v s₂.heap L ∧ FrameEnd s o s₂ L C D
section Ends
variable {p : Program} {l : Launch} {e : Env} {R : Room} {s : State} {m : MethodId} {args : Array Value} {below : List Frame} {meth : Method} {c : Code} {T B0 : State} {locs : List Loc} {cells slots C D : Nat} {pc : Nat} {Ls : Array Slot} {rest : List Value} {Q : Option Value → Heap → List Loc → Prop}
theorem retI (X : Stand p l e R s m args below meth c T locs cells slots) (hx : p.tables.exec = Jvm.exec) {z : Int32} (hret : meth.sig.returnType = some .int) (hd : decode c.code pc = .ok (.ireturn, 1)) {fs : List Frame}
    (hl : ∀ (f : JFrame) (acts : List Action), f.method = m → f.locked = none → f.entered = [] → (doReturn e (T.setTop f) acts (some (.int z))).1 = T.setFrames fs) : Steps p.tables e below (T.setTop (mkF m pc Ls (.int z :: rest))) (T.setFrames fs) :=
  retOut X hx hret rfl (Or.inl ⟨rfl, Or.inl rfl, z, rfl⟩) hd hl
theorem finI (X : Stand p l e R s m args below meth c T locs cells slots) (hx : p.tables.exec = Jvm.exec) (hlk : meth.locks = false) (hret : meth.sig.returnType = some .int) {z : Int32} (hd : decode c.code pc = .ok (.ireturn, 1))
    (K : ∀ t, Steps p.tables e below (T.setTop (mkF m pc Ls (.int z :: rest))) t → Steps p.tables e below B0 t) (hC : cells ≤ C) (hD : slots ≤ D) (hQ : Q (some (.int z)) T.heap locs) :
    Fin p e below B0 s C D Q := by
  obtain ⟨fs, hr, hrun, hended, hW, hsame⟩ := X.leave (v := some (.int z)) (fun h => by rw [hret] at h; cases h) hlk
  exact ⟨_, _, K _ (retI X hx hret hd hr), hrun, hended, _, _, rfl, hQ, ⟨_, rfl⟩, hW, hsame.mono hC hD⟩
theorem finN (X : Stand p l e R s m args below meth c T locs cells slots) (hx : p.tables.exec = Jvm.exec) (hlk : meth.locks = false) {ty : FieldType} (hret : meth.sig.returnType = some ty) (ht : ty = .boolean ∨ ty = .byte ∨ ty = .char ∨ ty = .short) {z : Int32} (hd : decode c.code pc = .ok (.ireturn, 1))
    (K : ∀ t, Steps p.tables e below (T.setTop (mkF m pc Ls (.int z :: rest))) t → Steps p.tables e below B0 t) (hC : cells ≤ C) (hD : slots ≤ D) (hQ : Q (some (.int (nar ty z))) T.heap locs) :
    Fin p e below B0 s C D Q := by
  obtain ⟨fs, hr, hrun, hended, hW, hsame⟩ := X.leave (v := some (.int (nar ty z))) (fun h => by rw [hret] at h; cases h) hlk
  exact ⟨_, _, K _ (retN X hx hret ht hd hr), hrun, hended, _, _, rfl, hQ, ⟨_, rfl⟩, hW, hsame.mono hC hD⟩
theorem finJ (X : Stand p l e R s m args below meth c T locs cells slots) (hx : p.tables.exec = Jvm.exec) (hlk : meth.locks = false) (hret : meth.sig.returnType = some .long) {z : Int64} (hd : decode c.code pc = .ok (.lreturn, 1))
    (K : ∀ t, Steps p.tables e below (T.setTop (mkF m pc Ls (.long z :: rest))) t → Steps p.tables e below B0 t) (hC : cells ≤ C) (hD : slots ≤ D) (hQ : Q (some (.long z)) T.heap locs) :
    Fin p e below B0 s C D Q := by
  obtain ⟨fs, hr, hrun, hended, hW, hsame⟩ := X.leave (v := some (.long z)) (fun h => by rw [hret] at h; cases h) hlk
  exact ⟨_, _, K _ (retOut X hx hret rfl (Or.inr (Or.inl ⟨rfl, rfl, z, rfl⟩)) hd hr), hrun, hended, _, _, rfl, hQ, ⟨_, rfl⟩, hW, hsame.mono hC hD⟩
theorem narrow_ref {ty : FieldType} {v : Value} (ht : ty.isReference = true) (hv : v.isRef = true) : narrow ty v = v := by
  cases ty <;> first | (cases ht; done) | (cases v <;> first | rfl | (cases hv; done))
theorem finA (X : Stand p l e R s m args below meth c T locs cells slots) (hx : p.tables.exec = Jvm.exec) (hlk : meth.locks = false) {ty : FieldType} (hret : meth.sig.returnType = some ty) (ht : ty.isReference = true) {v : Value} (hv : v.isRef = true) (hd : decode c.code pc = .ok (.areturn, 1))
    (K : ∀ t, Steps p.tables e below (T.setTop (mkF m pc Ls (v :: rest))) t → Steps p.tables e below B0 t) (hC : cells ≤ C) (hD : slots ≤ D) (hQ : Q (some v) T.heap locs) :
    Fin p e below B0 s C D Q := by
  obtain ⟨fs, hr, hrun, hended, hW, hsame⟩ := X.leave (v := some v) (fun h => by rw [hret] at h; cases h) hlk
  exact ⟨_, _, K _ (retOut X hx hret (narrow_ref ht hv) (Or.inr (Or.inr (Or.inr (Or.inr ⟨rfl, ht, hv⟩)))) hd hr), hrun, hended, _, _, rfl, hQ, ⟨_, rfl⟩, hW, hsame.mono hC hD⟩
theorem finV (X : Stand p l e R s m args below meth c T locs cells slots) (hx : p.tables.exec = Jvm.exec) (hlk : meth.locks = false) (hret : meth.sig.returnType = none) (hd : decode c.code pc = .ok (.return_, 1)) 
    (K : ∀ t, Steps p.tables e below (T.setTop (mkF m pc Ls [])) t → Steps p.tables e below B0 t) (hC : cells ≤ C) (hD : slots ≤ D) (hQ : Q none T.heap locs) :
    Fin p e below B0 s C D Q := by
  obtain ⟨fs, hr, hrun, hended, hW, hsame⟩ := X.leave (v := none) (fun _ => rfl) hlk
  exact ⟨_, _, K _ (X.returnOut hx hret hd hr), hrun, hended, _, _, rfl, hQ, ⟨_, rfl⟩, hW, hsame.mono hC hD⟩
end Ends
section Calls
variable {p : Program} {l : Launch} {e : Env} {R : Room} {s : State} {m : MethodId} {args : Array Value} {below : List Frame} {meth : Method} {c : Code} {T : State} {locs : List Loc} {cells slots : Nat} {pc : Nat} {Ls : Array Slot} {Z : State} {a0 : Array Value} {h : Heap}
/-- a static call by its contract -/
theorem callC (X : Stand p l e R s m args below meth c T locs cells slots) (hx : p.tables.exec = Jvm.exec) (hZ : Z.Warmed39 s.vm) (eT : T.heap = h) {own : String} {index : Nat} {y : MethodName} {bytes : ByteArray} {maxL : Nat} {ret : Option FieldType} {rm : Room} {Q : Option Value → Heap → List Loc → Prop}
    (argsL rest : List Value) (hM : Con l Z y bytes maxL ret rm argsL.toArray h Q) (hown : s.vm.findClass own = some m.cls) (w1 : (Cond.methodLink own index y).before a0 Z = true) (w2 : (Cond.static y).before a0 Z = true) (w3 : (Cond.initialized y.cls).before a0 Z = true) (w4 : (Cond.code y bytes maxL ret).before a0 Z = true)
    (hy : y.cls ≠ "java/lang/invoke/MethodHandle" ∧ y.cls ≠ "java/lang/invoke/VarHandle") (W : Nat) (hf : rm.frames + 1 ≤ R.frames) (hl : W + (maxL + 11) + rm.locals ≤ R.locals) (hcR : cells + rm.cells ≤ R.cells) (hsR : slots + rm.slots ≤ R.slots) (hsz : Ls.size = c.maxLocals)
    {S : List Value} (hlen : ∀ sig, parseMethodDescriptor y.desc = some sig → argsL.length = sig.parameters.length) (hS : S = argsL.reverse ++ rest) (hW : (rest.map fun v => v.category).sum ≤ W) (hd : decode c.code pc = .ok (.invokestatic index, 3)) :
    ∃ (T' : State) (v : Option Value) (L : List Loc), Stand p l e R s m args below meth c T' (locs ++ L) (cells + rm.cells) (slots + rm.slots) ∧ Q v T'.heap L ∧ ∀ t, Steps p.tables e below (T'.setTop (mkF m (pc + 3) Ls (v.toList ++ rest))) t → Steps p.tables e below (T.setTop (mkF m pc Ls S)) t := by
  obtain ⟨v, _, ⟨T', L', k', n'⟩, -, X', ⟨L, hQ, l', y', z'⟩, st⟩ := Jvm.LawKit.callS X hx (y := y) hown (mvT hZ w1) (mvT hZ w2) (mvT hZ w3) (mvT hZ w4) hy (backOf (W := W) (hM []) hZ w4 w3 hf hl) (g := mkF m pc Ls S) rfl hsz (argsL := argsL) (rest := rest) hlen hS (by show 2 * 0 + _ ≤ _; rw [Nat.mul_zero, Nat.zero_add]; exact hW) hd (fun _ _ => ⟨rfl, eT, hcR, hsR⟩)
  dsimp only [Pt.U, Pt.locs, Pt.cells, Pt.slots] at X' l' y' z' st hQ
  subst l' y' z'
  exact ⟨T', v, L, X', hQ, st⟩
theorem callP (X : Stand p l e R s m args below meth c T locs cells slots) (hx : p.tables.exec = Jvm.exec) (hZ : Z.Warmed39 s.vm) (eT : T.heap = h) {own : String} {index : Nat} {y : MethodName} {bytes : ByteArray} {maxL : Nat} {ret : Option FieldType} {rm : Room} {v : Value}
    (argsL rest : List Value) (hM : Con l Z y bytes maxL ret rm argsL.toArray h (Pure v h)) (hown : s.vm.findClass own = some m.cls) (w1 : (Cond.methodLink own index y).before a0 Z = true) (w2 : (Cond.static y).before a0 Z = true) (w3 : (Cond.initialized y.cls).before a0 Z = true) (w4 : (Cond.code y bytes maxL ret).before a0 Z = true)
    (hy : y.cls ≠ "java/lang/invoke/MethodHandle" ∧ y.cls ≠ "java/lang/invoke/VarHandle") (W : Nat) (hrc : rm.cells = 0) (hrs : rm.slots = 0) (hf : rm.frames + 1 ≤ R.frames) (hl : W + (maxL + 11) + rm.locals ≤ R.locals) (hcR : cells ≤ R.cells) (hsR : slots ≤ R.slots) (hsz : Ls.size = c.maxLocals)
    {S : List Value} (hlen : ∀ sig, parseMethodDescriptor y.desc = some sig → argsL.length = sig.parameters.length) (hS : S = argsL.reverse ++ rest) (hW : (rest.map fun v => v.category).sum ≤ W) (hd : decode c.code pc = .ok (.invokestatic index, 3)) :
    ∃ T' : State, Stand p l e R s m args below meth c T' locs cells slots ∧ T'.heap = h ∧ ∀ t, Steps p.tables e below (T'.setTop (mkF m (pc + 3) Ls (v :: rest))) t → Steps p.tables e below (T.setTop (mkF m pc Ls S)) t := by
  obtain ⟨T', v', L, X', ⟨rfl, rfl, hh⟩, st⟩ := callC X hx hZ eT argsL rest hM hown w1 w2 w3 w4 hy W hf hl (by rw [hrc]; exact hcR) (by rw [hrs]; exact hsR) hsz hlen hS hW hd
  rw [hrc, hrs, List.append_nil] at X'
  exact ⟨T', X', hh, st⟩
/-- a virtual call by its contract -/
theorem callV (X : Stand p l e R s m args below meth c T locs cells slots) (hx : p.tables.exec = Jvm.exec) (hZ : Z.Warmed39 s.vm) (eT : T.heap = h) {own K : String} {index : Nat} {y : MethodName} {bytes : ByteArray} {maxL : Nat} {ret : Option FieldType} {rm : Room} {Q : Option Value → Heap → List Loc → Prop}
    (b : Addr) (argsL rest : List Value) (hM : Con l Z y bytes maxL ret rm (Value.ref b :: argsL).toArray h Q) (hown : s.vm.findClass own = some m.cls) (E : Exa Z h b K) (w1 : (Cond.methodLink own index y).before a0 Z = true) (w2 : (Cond.declares y).before a0 Z = true) (w3 : (Cond.selects K y y).before a0 Z = true) (w4 : (Cond.instanceMethod y).before a0 Z = true) (w5 : (Cond.initialized y.cls).before a0 Z = true) (w6 : (Cond.code y bytes maxL ret).before a0 Z = true)
    (hy : y.cls ≠ "java/lang/invoke/MethodHandle" ∧ y.cls ≠ "java/lang/invoke/VarHandle") (W : Nat) (hf : rm.frames + 1 ≤ R.frames) (hl : W + (maxL + 11) + rm.locals ≤ R.locals) (hcR : cells + rm.cells ≤ R.cells) (hsR : slots + rm.slots ≤ R.slots) (hsz : Ls.size = c.maxLocals)
    {S : List Value} (hlen : ∀ sig, parseMethodDescriptor y.desc = some sig → argsL.length = sig.parameters.length) (hS : S = argsL.reverse ++ .ref b :: rest) (hW : (rest.map fun v => v.category).sum ≤ W) (hd : decode c.code pc = .ok (.invokevirtual index, 3)) :
    ∃ (T' : State) (v : Option Value) (L : List Loc), Stand p l e R s m args below meth c T' (locs ++ L) (cells + rm.cells) (slots + rm.slots) ∧ Q v T'.heap L ∧ ∀ t, Steps p.tables e below (T'.setTop (mkF m (pc + 3) Ls (v.toList ++ rest))) t → Steps p.tables e below (T.setTop (mkF m pc Ls S)) t := by
  obtain ⟨cB, kB, q1, q2, q3⟩ := isOf hZ eT E
  obtain ⟨v, _, ⟨T', L', k', n'⟩, -, X', ⟨L, hQ, l', y', z'⟩, st⟩ := X.virtualBack hx (y := y) (z := y) hown (mvT hZ w1) (mvT hZ w2) (notFace_of_selects (args := #[]) (mvT hZ w3)) (mvT hZ w3) (mvT hZ w4) hy (backOf (W := W) (hM []) hZ w6 w5 hf hl) q1 q3 (g := mkF m pc Ls S) rfl hsz (Steps.refl _) (argsL := argsL) (rest := rest) hlen hS (by show 2 * 0 + _ ≤ _; rw [Nat.mul_zero, Nat.zero_add]; exact hW) hd (fun _ _ => ⟨rfl, eT, hcR, hsR⟩)
  dsimp only [Pt.U, Pt.locs, Pt.cells, Pt.slots] at X' l' y' z' st hQ
  subst l' y' z'
  exact ⟨T', v, L, X', hQ, fun t k => st.trans k⟩
theorem callVP (X : Stand p l e R s m args below meth c T locs cells slots) (hx : p.tables.exec = Jvm.exec) (hZ : Z.Warmed39 s.vm) (eT : T.heap = h) {own K : String} {index : Nat} {y : MethodName} {bytes : ByteArray} {maxL : Nat} {ret : Option FieldType} {rm : Room} {v : Value}
    (b : Addr) (argsL rest : List Value) (hM : Con l Z y bytes maxL ret rm (Value.ref b :: argsL).toArray h (Pure v h)) (hown : s.vm.findClass own = some m.cls) (E : Exa Z h b K) (w1 : (Cond.methodLink own index y).before a0 Z = true) (w2 : (Cond.declares y).before a0 Z = true) (w3 : (Cond.selects K y y).before a0 Z = true) (w4 : (Cond.instanceMethod y).before a0 Z = true) (w5 : (Cond.initialized y.cls).before a0 Z = true) (w6 : (Cond.code y bytes maxL ret).before a0 Z = true)
    (hy : y.cls ≠ "java/lang/invoke/MethodHandle" ∧ y.cls ≠ "java/lang/invoke/VarHandle") (W : Nat) (hrc : rm.cells = 0) (hrs : rm.slots = 0) (hf : rm.frames + 1 ≤ R.frames) (hl : W + (maxL + 11) + rm.locals ≤ R.locals) (hcR : cells ≤ R.cells) (hsR : slots ≤ R.slots) (hsz : Ls.size = c.maxLocals)
    {S : List Value} (hlen : ∀ sig, parseMethodDescriptor y.desc = some sig → argsL.length = sig.parameters.length) (hS : S = argsL.reverse ++ .ref b :: rest) (hW : (rest.map fun v => v.category).sum ≤ W) (hd : decode c.code pc = .ok (.invokevirtual index, 3)) :
    ∃ T' : State, Stand p l e R s m args below meth c T' locs cells slots ∧ T'.heap = h ∧ ∀ t, Steps p.tables e below (T'.setTop (mkF m (pc + 3) Ls (v :: rest))) t → Steps p.tables e below (T.setTop (mkF m pc Ls S)) t := by
  obtain ⟨T', v', L, X', ⟨rfl, rfl, hh⟩, st⟩ := callV X hx hZ eT b argsL rest hM hown E w1 w2 w3 w4 w5 w6 hy W hf hl (by rw [hrc]; exact hcR) (by rw [hrs]; exact hsR) hsz hlen hS hW hd
  rw [hrc, hrs, List.append_nil] at X'
  exact ⟨T', X', hh, st⟩
theorem getS (X : Stand p l e R s m args below meth c T locs cells slots) (hx : p.tables.exec = Jvm.exec) (hZ : Z.Warmed39 s.vm) (eT : T.heap = h) {own R0 O n d host : String} {index : Nat} (hown : s.vm.findClass own = some m.cls) (w : (Cond.fieldLink own index R0 n d).before a0 Z = true ∨ (Cond.fieldLinkNest own index R0 n d host).before a0 Z = true) (via : Via Z R0 O n d) {v : Value} (F : Sta Z h O n d v) {S : List Value} (hd : decode c.code pc = .ok (.getstatic index, 3)) :
    ∃ T' : State, Stand p l e R s m args below meth c T' locs cells slots ∧ T'.heap = h ∧ ∀ t, Steps p.tables e below (T'.setTop (mkF m (pc + 3) Ls (v :: S))) t → Steps p.tables e below (T.setTop (mkF m pc Ls S)) t := getS2 (g := mkF m pc Ls S) X hx hZ hown w via eT F rfl hd
theorem getF (X : Stand p l e R s m args below meth c T locs cells slots) (hx : p.tables.exec = Jvm.exec) (hZ : Z.Warmed39 s.vm) (eT : T.heap = h) {own R0 O n d host : String} {index : Nat} (hown : s.vm.findClass own = some m.cls) (w : (Cond.fieldLink own index R0 n d).before a0 Z = true ∨ (Cond.fieldLinkNest own index R0 n d host).before a0 Z = true) (via : Via Z R0 O n d) {a : Addr} {v : Value} (F : Fld Z h a O n d v) {S : List Value} (hd : decode c.code pc = .ok (.getfield index, 3)) :
    ∃ T' : State, Stand p l e R s m args below meth c T' locs cells slots ∧ T'.heap = h ∧ ∀ t, Steps p.tables e below (T'.setTop (mkF m (pc + 3) Ls (v :: S))) t → Steps p.tables e below (T.setTop (mkF m pc Ls (.ref a :: S))) t := Jvm.RoadKit.getF (g := mkF m pc Ls (.ref a :: S)) X hx hZ hown w via eT F rfl rfl hd
end Calls
end Jvm.Own
namespace Jvm.Own
open Sem ClassFile Op Lib Jvm.Stand Jvm.Free Jvm.LawKit Jvm.RoadKit
theorem Ext.refl (h : Heap) : Ext h h := ⟨Nat.le_refl _, fun _ _ q => q⟩
theorem Ext.trans {h0 h h' : Heap} (A : Ext h0 h) (B : Ext h h') : Ext h0 h' := ⟨Nat.le_trans A.1 B.1, fun a c q => B.2 a c (A.2 a c q)⟩
theorem Ext.keep {h0 h h' : Heap} {ws : List Addr} (A : Ext h0 h) (K : Keep h h' ws) (q : ∀ x ∈ ws, h0.size ≤ x) : Ext h0 h' := ⟨Nat.le_trans A.1 K.1, fun a c r => K.2.1 a c (A.2 a c r) fun z => absurd (Array.getElem?_eq_some_iff.mp r).1 (Nat.not_lt.mpr (q a z))⟩
theorem Ext.wr {h0 h h' : Heap} {a : Addr} {sl : Nat} {v : Value} (A : Ext h0 h) (W : Wr h h' a sl v) (q : h0.size ≤ a) : Ext h0 h' := Ext.keep A (Keep.of_wr W) fun x hx => by cases List.mem_singleton.mp hx; exact q
theorem sta_keep {Z : State} {h h' : Heap} {C n d K : String} {v : Value} {x : Addr} (F : Sta Z h C n d v) (Kp : Keep h h' [x]) (E : Exa Z h x K) : Sta Z h' C n d v := by
  obtain ⟨cf, i, k, f, st, cell, h1, h2, h3, h4, h5, h6, h7⟩ := F
  refine ⟨cf, i, k, f, st, cell, h1, h2, h3, h4, Kp.2.1 st cell h5 fun hm => ?_, h6, h7⟩
  cases List.mem_singleton.mp hm
  obtain ⟨c2, _, g1, -, -, g4, -⟩ := E
  cases h5.symm.trans g1
  rw [h6] at g4; cases g4
/-- an array of ints (chars, bytes, booleans) by its list -/
def CA (Z : State) (h : Heap) (a : Addr) (ty : FieldType) (xs : List Int32) : Prop := ∃ k, Arv Z h a k ty (Int32.ofNat xs.length) (xs.map Value.int) (.int 0) ∧ xs.length < 2 ^ 31
theorem CA.ext {Z : State} {h h' : Heap} {a : Addr} {ty : FieldType} {xs : List Int32} (F : CA Z h a ty xs) (E : Ext h h') : CA Z h' a ty xs := by obtain ⟨k, V, q⟩ := F; exact ⟨k, V.ext E, q⟩
theorem CA.keep {Z : State} {h h' : Heap} {a : Addr} {ty : FieldType} {xs : List Int32} {ws : List Addr} (F : CA Z h a ty xs) (K : Keep h h' ws) (n : a ∉ ws) : CA Z h' a ty xs := by obtain ⟨k, V, q⟩ := F; exact ⟨k, V.keep K n, q⟩
theorem CA.other {Z : State} {h h' : Heap} {a b : Addr} {ty : FieldType} {xs : List Int32} {sl : Nat} {v : Value} (F : CA Z h b ty xs) (W : Wr h h' a sl v) (n : b ≠ a) : CA Z h' b ty xs := by obtain ⟨k, V, q⟩ := F; exact ⟨k, V.other W n, q⟩
theorem CA.lt {Z : State} {h : Heap} {a : Addr} {ty : FieldType} {xs : List Int32} (F : CA Z h a ty xs) : a < h.size := by obtain ⟨k, V, q⟩ := F; exact V.lt
theorem ofNat_clamp {n : Nat} (h : n < 2 ^ 31) : (Int32.ofNat n).toNatClampNeg = n := by
  show (Int32.ofNat n).toInt.toNat = n
  rw [Int32.toInt_ofNat_small h]; rfl
theorem CA.len {Z : State} {h : Heap} {a : Addr} {ty : FieldType} {xs : List Int32} (F : CA Z h a ty xs) : ∃ cl, Arr Z h a cl ty ∧ cl.slots.size.toInt32 = Int32.ofNat xs.length := by
  obtain ⟨k, ⟨cl, A, -, S, M, -⟩, q⟩ := F
  exact ⟨cl, A, len_of S M⟩
theorem CA.get {Z : State} {h : Heap} {a : Addr} {ty : FieldType} {xs : List Int32} (F : CA Z h a ty xs) {j : Int32} (h0 : ¬ j < 0) (h1 : j.toNatClampNeg < xs.length) : ∃ cl, Arr Z h a cl ty ∧ ¬ (j < 0 ∨ cl.slots.size ≤ j.toNatClampNeg) ∧ cl.slots[j.toNatClampNeg]? = some (.int (xs.getD j.toNatClampNeg 0)) := by
  obtain ⟨k, ⟨cl, A, -, S, M, H, -⟩, q⟩ := F
  rw [ofNat_clamp q] at S
  refine ⟨cl, A, fun z => z.elim h0 fun z => by omega, ?_⟩
  rw [H _ (by omega)]
  simp [h1]
/-- an array of longs by its list -/
def LA (Z : State) (h : Heap) (a : Addr) (xs : List Int64) : Prop := ∃ k, Arv Z h a k .long (Int32.ofNat xs.length) (xs.map Value.long) (.long 0) ∧ xs.length < 2 ^ 31
theorem LA.ext {Z : State} {h h' : Heap} {a : Addr} {xs : List Int64} (F : LA Z h a xs) (E : Ext h h') : LA Z h' a xs := by obtain ⟨k, V, q⟩ := F; exact ⟨k, V.ext E, q⟩
theorem LA.keep {Z : State} {h h' : Heap} {a : Addr} {xs : List Int64} {ws : List Addr} (F : LA Z h a xs) (K : Keep h h' ws) (n : a ∉ ws) : LA Z h' a xs := by obtain ⟨k, V, q⟩ := F; exact ⟨k, V.keep K n, q⟩
theorem LA.other {Z : State} {h h' : Heap} {a b : Addr} {xs : List Int64} {sl : Nat} {v : Value} (F : LA Z h b xs) (W : Wr h h' a sl v) (n : b ≠ a) : LA Z h' b xs := by obtain ⟨k, V, q⟩ := F; exact ⟨k, V.other W n, q⟩
theorem LA.lt {Z : State} {h : Heap} {a : Addr} {xs : List Int64} (F : LA Z h a xs) : a < h.size := by obtain ⟨k, V, q⟩ := F; exact V.lt
section Heap
variable {p : Program} {l : Launch} {e : Env} {R : Room} {s : State} {m : MethodId} {args : Array Value} {below : List Frame} {meth : Method} {c : Code} {T : State} {locs : List Loc} {cells slots : Nat} {pc : Nat} {Ls : Array Slot} {S : List Value} {Z : State} {a0 : Array Value} {h : Heap}
theorem newO (X : Stand p l e R s m args below meth c T locs cells slots) (hx : p.tables.exec = Jvm.exec) (hZ : Z.Warmed39 s.vm) (eT : T.heap = h) {own C : String} {index n : Nat} (hown : s.vm.findClass own = some m.cls) (w : (Cond.classLink own index C).before a0 Z = true) (wi : (Cond.instantiable C n).before a0 Z = true) (wz : (Cond.initialized C).before a0 Z = true)
    (hd : decode c.code pc = .ok (.new index, 3)) (hc : cells + 1 ≤ R.cells) (hl : slots + n ≤ R.slots) :
    ∃ (T' : State) (h' : Heap) (b : Addr), Stand p l e R s m args below meth c T' locs (cells + 1) (slots + n) ∧ T'.heap = h' ∧ Ext h h' ∧ b = h.size ∧ Exa Z h' b C ∧ (∀ {O nm d : String} {ty : FieldType}, Laid Z a0 C O nm d → parseFieldDescriptor d = some ty → Fld Z h' b O nm d (defaultValue ty)) ∧
      ∀ t, Steps p.tables e below (T'.setTop (mkF m (pc + 3) Ls (.ref b :: S))) t → Steps p.tables e below (T.setTop (mkF m pc Ls S)) t := by
  obtain ⟨T', h', X', e', E, A, D, -, st⟩ := Jvm.RoadKit.newO X hx hZ hown w wi wz eT (g := mkF m pc Ls S) rfl hd hc hl
  exact ⟨T', h', _, X', e', E, rfl, A, D, st⟩
theorem newA (X : Stand p l e R s m args below meth c T locs cells slots) (hx : p.tables.exec = Jvm.exec) (hZ : Z.Warmed39 s.vm) (eT : T.heap = h) {aty : ArrayType} (ty : FieldType) (hty : newarray.typeOf aty = ty) (hdv : defaultValue ty = .int 0) (w : (Cond.arrayClass ty).before a0 Z = true)
    {z : Int32} (n : Nat) (hz : z = Int32.ofNat n) (hn : n < 2 ^ 26) (hd : decode c.code pc = .ok (.newarray aty, 2)) (hc : cells + 1 ≤ R.cells) (hl : slots + n ≤ R.slots) :
    ∃ (T' : State) (h' : Heap) (b : Addr), Stand p l e R s m args below meth c T' locs (cells + 1) (slots + n) ∧ T'.heap = h' ∧ Ext h h' ∧ b = h.size ∧ CA Z h' b ty (List.replicate n 0) ∧
      ∀ t, Steps p.tables e below (T'.setTop (mkF m (pc + 2) Ls (.ref b :: S))) t → Steps p.tables e below (T.setTop (mkF m pc Ls (.int z :: S))) t := by
  subst hty hz
  have q0 : ¬ Int32.ofNat n < 0 := Int32.ofNat_not_neg (show n < 2 ^ 31 by omega)
  have q1 : (Int32.ofNat n).toNatClampNeg = n := ofNat_clamp (by omega)
  obtain ⟨T', h', k, X', e', E, A, st⟩ := newP X hx hZ w eT (g := mkF m pc Ls (.int (Int32.ofNat n) :: S)) rfl hd rfl q0 (cap := n) (Nat.le_of_eq q1) (by omega) hc hl
  refine ⟨T', h', _, X', e', E, rfl, ⟨k, ?_, by simp; omega⟩, st⟩
  have V := Arv.new A q0
  rw [hdv] at V
  rw [List.length_replicate, List.map_replicate]
  exact V.pad (pad_rep [] (.int 0) n)
theorem stc (X : Stand p l e R s m args below meth c T locs cells slots) (hx : p.tables.exec = Jvm.exec) (hZ : Z.Warmed39 s.vm) (eT : T.heap = h) {a : Addr} {xs : List Int32} (F : CA Z h a .char xs) {j x : Int32} (i : Nat) (hi : j.toNatClampNeg = i) (h0 : ¬ j < 0) (h1 : i < xs.length) (hd : decode c.code pc = .ok (.castore, 1)) :
    ∃ (T' : State) (h' : Heap) (L' : List Loc), Stand p l e R s m args below meth c T' L' cells slots ∧ T'.heap = h' ∧ (∀ n0, Fr n0 locs → n0 ≤ a → Fr n0 L') ∧ Wr h h' a i (.int (nar .char x)) ∧ CA Z h' a .char (xs.set i (nar .char x)) ∧
      ∀ t, Steps p.tables e below (T'.setTop (mkF m (pc + 1) Ls S)) t → Steps p.tables e below (T.setTop (mkF m pc Ls (.int x :: .int j :: .ref a :: S))) t := by
  subst hi
  obtain ⟨k, ⟨cl, A, q1, Sz, M, H, G⟩, q⟩ := F
  have Sz' := Sz
  rw [ofNat_clamp q] at Sz'
  obtain ⟨T', h', X', e', W, st⟩ := stC X hx hZ eT A (j := j) (x := x) (fun z => z.elim h0 fun z => by omega) (g := mkF m pc Ls (.int x :: .int j :: .ref a :: S)) rfl rfl hd
  refine ⟨T', h', _, X', e', fun n0 N g => Fr.snoc X' N g, W, ⟨k, ?_, by simpa using q⟩, st⟩
  have V := Arv.set A q1 Sz M H G (fits_nar_char x) W j.toNatClampNeg rfl (by simpa using h1)
  rw [List.length_set, List.map_set]
  exact V
theorem stb (X : Stand p l e R s m args below meth c T locs cells slots) (hx : p.tables.exec = Jvm.exec) (hZ : Z.Warmed39 s.vm) (eT : T.heap = h) {a : Addr} {xs : List Int32} (F : CA Z h a .byte xs) {j x : Int32} (i : Nat) (hi : j.toNatClampNeg = i) (h0 : ¬ j < 0) (h1 : i < xs.length) (hd : decode c.code pc = .ok (.bastore, 1)) :
    ∃ (T' : State) (h' : Heap) (L' : List Loc), Stand p l e R s m args below meth c T' L' cells slots ∧ T'.heap = h' ∧ (∀ n0, Fr n0 locs → n0 ≤ a → Fr n0 L') ∧ Wr h h' a i (.int (nar .byte x)) ∧ CA Z h' a .byte (xs.set i (nar .byte x)) ∧
      ∀ t, Steps p.tables e below (T'.setTop (mkF m (pc + 1) Ls S)) t → Steps p.tables e below (T.setTop (mkF m pc Ls (.int x :: .int j :: .ref a :: S))) t := by
  subst hi
  obtain ⟨k, ⟨cl, A, q1, Sz, M, H, G⟩, q⟩ := F
  have Sz' := Sz
  rw [ofNat_clamp q] at Sz'
  obtain ⟨T', h', X', e', W, st⟩ := stB X hx hZ eT A (j := j) (x := x) (fun z => z.elim h0 fun z => by omega) (g := mkF m pc Ls (.int x :: .int j :: .ref a :: S)) rfl rfl hd
  refine ⟨T', h', _, X', e', fun n0 N g => Fr.snoc X' N g, W, ⟨k, ?_, by simpa using q⟩, st⟩
  have V := Arv.set A q1 Sz M H G (fits_nar_byte x) W j.toNatClampNeg rfl (by simpa using h1)
  rw [List.length_set, List.map_set]
  exact V
theorem newL (X : Stand p l e R s m args below meth c T locs cells slots) (hx : p.tables.exec = Jvm.exec) (hZ : Z.Warmed39 s.vm) (eT : T.heap = h) (w : (Cond.arrayClass .long).before a0 Z = true)
    {z : Int32} (n : Nat) (hz : z = Int32.ofNat n) (hn : n < 2 ^ 26) (hd : decode c.code pc = .ok (.newarray .long, 2)) (hc : cells + 1 ≤ R.cells) (hl : slots + n ≤ R.slots) :
    ∃ (T' : State) (h' : Heap) (b : Addr), Stand p l e R s m args below meth c T' locs (cells + 1) (slots + n) ∧ T'.heap = h' ∧ Ext h h' ∧ b = h.size ∧ LA Z h' b (List.replicate n 0) ∧
      ∀ t, Steps p.tables e below (T'.setTop (mkF m (pc + 2) Ls (.ref b :: S))) t → Steps p.tables e below (T.setTop (mkF m pc Ls (.int z :: S))) t := by
  subst hz
  have q0 : ¬ Int32.ofNat n < 0 := Int32.ofNat_not_neg (show n < 2 ^ 31 by omega)
  have q1 : (Int32.ofNat n).toNatClampNeg = n := ofNat_clamp (by omega)
  obtain ⟨T', h', k, X', e', E, A, st⟩ := newP X hx hZ (aty := .long) w eT (g := mkF m pc Ls (.int (Int32.ofNat n) :: S)) rfl hd rfl q0 (cap := n) (Nat.le_of_eq q1) (by omega) hc hl
  refine ⟨T', h', _, X', e', E, rfl, ⟨k, ?_, by simp; omega⟩, st⟩
  have V := Arv.new A q0
  rw [List.length_replicate, List.map_replicate]
  exact V.pad (pad_rep [] (.long 0) n)
theorem stl (X : Stand p l e R s m args below meth c T locs cells slots) (hx : p.tables.exec = Jvm.exec) (hZ : Z.Warmed39 s.vm) (eT : T.heap = h) {a : Addr} {xs : List Int64} (F : LA Z h a xs) {j : Int32} {x : Int64} (i : Nat) (hi : j.toNatClampNeg = i) (h0 : ¬ j < 0) (h1 : i < xs.length) (hd : decode c.code pc = .ok (.lastore, 1)) :
    ∃ (T' : State) (h' : Heap) (L' : List Loc), Stand p l e R s m args below meth c T' L' cells slots ∧ T'.heap = h' ∧ (∀ n0, Fr n0 locs → n0 ≤ a → Fr n0 L') ∧ Wr h h' a i (.long x) ∧ LA Z h' a (xs.set i x) ∧
      ∀ t, Steps p.tables e below (T'.setTop (mkF m (pc + 1) Ls S)) t → Steps p.tables e below (T.setTop (mkF m pc Ls (.long x :: .int j :: .ref a :: S))) t := by
  subst hi
  obtain ⟨k, ⟨cl, A, q1, Sz, M, H, G⟩, q⟩ := F
  have Sz' := Sz
  rw [ofNat_clamp q] at Sz'
  obtain ⟨T', h', X', e', W, st⟩ := stJ X hx hZ eT A (j := j) (x := x) (fun z => z.elim h0 fun z => by omega) (g := mkF m pc Ls (.long x :: .int j :: .ref a :: S)) rfl rfl hd
  refine ⟨T', h', _, X', e', fun n0 N g => Fr.snoc X' N g, W, ⟨k, ?_, by simpa using q⟩, st⟩
  have V := Arv.set A q1 Sz M H G rfl W j.toNatClampNeg rfl (by simpa using h1)
  rw [List.length_set, List.map_set]
  exact V
theorem lal (X : Stand p l e R s m args below meth c T locs cells slots) (hx : p.tables.exec = Jvm.exec) (hZ : Z.Warmed39 s.vm) (eT : T.heap = h) {a : Addr} {xs : List Int64} (F : LA Z h a xs) {j : Int32} (v : Int64) (h0 : ¬ j < 0) (h1 : j.toNatClampNeg < xs.length) (hv : xs.getD j.toNatClampNeg 0 = v) (hd : decode c.code pc = .ok (.laload, 1)) {t : State}
    (hr : Steps p.tables e below (T.setTop (mkF m (pc + 1) Ls (.long v :: S))) t) : Steps p.tables e below (T.setTop (mkF m pc Ls (.int j :: .ref a :: S))) t := by
  obtain ⟨k, ⟨cl, A, -, Sz, M, H, -⟩, q⟩ := F
  rw [ofNat_clamp q] at Sz
  have e1 := H j.toNatClampNeg (by omega)
  have e2 : (xs.map Value.long).getD j.toNatClampNeg (.long 0) = .long v := by rw [← hv]; simp [h1]
  rw [e2] at e1
  exact laload X hx (.long v) hZ eT A (fun z => z.elim h0 fun z => by omega) e1 hd hr
theorem cal (X : Stand p l e R s m args below meth c T locs cells slots) (hx : p.tables.exec = Jvm.exec) (hZ : Z.Warmed39 s.vm) (eT : T.heap = h) {a : Addr} {xs : List Int32} (F : CA Z h a .char xs) {j : Int32} (v : Int32) (h0 : ¬ j < 0) (h1 : j.toNatClampNeg < xs.length) (hv : xs.getD j.toNatClampNeg 0 = v) (hd : decode c.code pc = .ok (.caload, 1)) {t : State}
    (hr : Steps p.tables e below (T.setTop (mkF m (pc + 1) Ls (.int v :: S))) t) : Steps p.tables e below (T.setTop (mkF m pc Ls (.int j :: .ref a :: S))) t := by
  obtain ⟨cl, A, q1, q2⟩ := F.get h0 h1
  rw [hv] at q2
  exact caload X hx (.int v) hZ eT A q1 q2 hd hr
theorem putF (X : Stand p l e R s m args below meth c T locs cells slots) (hx : p.tables.exec = Jvm.exec) (hZ : Z.Warmed39 s.vm) (eT : T.heap = h) {own R0 O n d host C : String} {index kk : Nat} {ty : FieldType} (hown : s.vm.findClass own = some m.cls) (w : (Cond.fieldLink own index R0 n d).before a0 Z = true ∨ (Cond.fieldLinkNest own index R0 n d host).before a0 Z = true) (via : Via Z R0 O n d)
    {a : Addr} {v old : Value} (F : Fld Z h a O n d old) (E : Exa Z h a C) (L : (Cond.lays C O n d).before a0 Z = true ∨ ((Cond.laysFinal C O n d).before a0 Z = true ∧ own = O ∧ meth.name = "<init>")) (wi : (Cond.instantiable C kk).before a0 Z = true)
    (hty : parseFieldDescriptor d = some ty) (hn : narrow ty v = v) (hf : fits ty v = true) (hd : decode c.code pc = .ok (.putfield index, 3)) :
    ∃ (T' : State) (h' : Heap) (L' : List Loc), Stand p l e R s m args below meth c T' L' cells slots ∧ T'.heap = h' ∧ (∀ n0, Fr n0 locs → n0 ≤ a → Fr n0 L') ∧ Wr h h' a (Jvm.RoadKit.slotOf Z O n d) v ∧ Fld Z h' a O n d v ∧
      ∀ t, Steps p.tables e below (T'.setTop (mkF m (pc + 3) Ls S)) t → Steps p.tables e below (T.setTop (mkF m pc Ls (v :: .ref a :: S))) t := by
  obtain ⟨T', h', X', e', W, st⟩ := Jvm.RoadKit.putF X hx hZ hown w via eT F E L wi hty hn hf (g := mkF m pc Ls (v :: .ref a :: S)) rfl rfl hd
  exact ⟨T', h', _, X', e', fun n0 N g => Fr.snoc X' N g, W, F.same W, st⟩
theorem initO (X : Stand p l e R s m args below meth c T locs cells slots) (hx : p.tables.exec = Jvm.exec) (hZ : Z.Warmed39 s.vm) (eT : T.heap = h) {own : String} {idx : Nat} (hown : s.vm.findClass own = some m.cls) (w1 : (Cond.methodLink own idx Lib.objectInit).before a0 Z = true) (w2 : (Cond.instanceMethod Lib.objectInit).before a0 Z = true)
    (w3 : (Cond.code Lib.objectInit ⟨#[0xb1]⟩ 1 none).before a0 Z = true) (hsz : Ls.size = c.maxLocals) {a : Addr} (hd : decode c.code pc = .ok (.invokespecial idx, 3)) (hf : 1 ≤ R.frames) (W : Nat) (hW : (S.map fun v => v.category).sum ≤ W) (hl : W + 12 ≤ R.locals) :
    ∃ T' : State, Stand p l e R s m args below meth c T' locs cells slots ∧ T'.heap = h ∧ ∀ t, Steps p.tables e below (T'.setTop (mkF m (pc + 3) Ls S)) t → Steps p.tables e below (T.setTop (mkF m pc Ls (.ref a :: S))) t :=
  Jvm.RoadKit.initO X hx hZ hown w1 w2 w3 eT (g := mkF m pc Ls (.ref a :: S)) rfl hsz rfl hd hf (W := W) (by show 2 * 0 + _ ≤ _; rw [Nat.mul_zero, Nat.zero_add]; exact hW) hl
/-- a constructor by its payer -/
theorem callIB (X : Stand p l e R s m args below meth c T locs cells slots) (hx : p.tables.exec = Jvm.exec) (hZ : Z.Warmed39 s.vm) (eT : T.heap = h) {own : String} {index : Nat} {y : MethodName} {bytes : ByteArray} {maxL : Nat} {rc rs : Nat} {Q : Option Value → Heap → List Loc → Prop} (hy1 : y.name = "<init>")
    (a : Addr) (argsL rest : List Value) (W : Nat) (hB : Back l R p e below s args y 3 W (fun A b => b = (Value.ref a :: argsL).toArray ∧ A.U.heap = h ∧ A.cells + rc ≤ R.cells ∧ A.slots + rs ≤ R.slots) (fun A _ v B => ∃ L, Q v B.U.heap L ∧ B.locs = A.locs ++ L ∧ B.cells = A.cells + rc ∧ B.slots = A.slots + rs))
    (hown : s.vm.findClass own = some m.cls) (w1 : (Cond.methodLink own index y).before a0 Z = true) (w2 : (Cond.instanceMethod y).before a0 Z = true) (w4 : (Cond.code y bytes maxL none).before a0 Z = true)
    (hy : y.cls ≠ "java/lang/invoke/MethodHandle" ∧ y.cls ≠ "java/lang/invoke/VarHandle") (hcR : cells + rc ≤ R.cells) (hsR : slots + rs ≤ R.slots) (hsz : Ls.size = c.maxLocals)
    {S : List Value} (hlen : ∀ sig, parseMethodDescriptor y.desc = some sig → argsL.length = sig.parameters.length) (hS : S = argsL.reverse ++ .ref a :: rest) (hW : (rest.map fun v => v.category).sum ≤ W) (hd : decode c.code pc = .ok (.invokespecial index, 3)) :
    ∃ (T' : State) (h' : Heap) (v : Option Value) (L M : List Loc), Stand p l e R s m args below meth c T' M (cells + rc) (slots + rs) ∧ T'.heap = h' ∧ (∀ n0, Fr n0 locs → Fr n0 L → Fr n0 M) ∧ Q v h' L ∧ ∀ t, Steps p.tables e below (T'.setTop (mkF m (pc + 3) Ls (v.toList ++ rest))) t → Steps p.tables e below (T.setTop (mkF m pc Ls S)) t := by
  obtain ⟨v, _, ⟨T', L', k', n'⟩, -, X', ⟨L, hQ, l', y', z'⟩, st⟩ := X.specialBack hx (y := y) hy1 hown (mvT hZ w1) (mvT hZ w2) (mvT hZ w4) hy hB (g := mkF m pc Ls S) rfl hsz (Steps.refl _) (a := a) (argsL := argsL) (rest := rest) hlen hS (by show 2 * 0 + _ ≤ _; rw [Nat.mul_zero, Nat.zero_add]; exact hW) hd (fun _ _ => ⟨rfl, eT, hcR, hsR⟩)
  dsimp only [Pt.U, Pt.locs, Pt.cells, Pt.slots] at X' l' y' z' st hQ
  subst l' y' z'
  exact ⟨T', _, v, L, _, X', rfl, fun n0 A B => Fr.app A B, hQ, fun t k => st.trans k⟩
theorem callI (X : Stand p l e R s m args below meth c T locs cells slots) (hx : p.tables.exec = Jvm.exec) (hZ : Z.Warmed39 s.vm) (eT : T.heap = h) {own : String} {index : Nat} {y : MethodName} {bytes : ByteArray} {maxL : Nat} {rm : Room} {Q : Option Value → Heap → List Loc → Prop} (hy1 : y.name = "<init>")
    (a : Addr) (argsL rest : List Value) (hM : Con l Z y bytes maxL none rm (Value.ref a :: argsL).toArray h Q)
    (hown : s.vm.findClass own = some m.cls) (w1 : (Cond.methodLink own index y).before a0 Z = true) (w2 : (Cond.instanceMethod y).before a0 Z = true) (w3 : (Cond.initialized y.cls).before a0 Z = true) (w4 : (Cond.code y bytes maxL none).before a0 Z = true)
    (hy : y.cls ≠ "java/lang/invoke/MethodHandle" ∧ y.cls ≠ "java/lang/invoke/VarHandle") (W : Nat) (hf : rm.frames + 1 ≤ R.frames) (hl : W + (maxL + 11) + rm.locals ≤ R.locals) (hcR : cells + rm.cells ≤ R.cells) (hsR : slots + rm.slots ≤ R.slots) (hsz : Ls.size = c.maxLocals)
    {S : List Value} (hlen : ∀ sig, parseMethodDescriptor y.desc = some sig → argsL.length = sig.parameters.length) (hS : S = argsL.reverse ++ .ref a :: rest) (hW : (rest.map fun v => v.category).sum ≤ W) (hd : decode c.code pc = .ok (.invokespecial index, 3)) :
    ∃ (T' : State) (h' : Heap) (v : Option Value) (L M : List Loc), Stand p l e R s m args below meth c T' M (cells + rm.cells) (slots + rm.slots) ∧ T'.heap = h' ∧ (∀ n0, Fr n0 locs → Fr n0 L → Fr n0 M) ∧ Q v h' L ∧ ∀ t, Steps p.tables e below (T'.setTop (mkF m (pc + 3) Ls (v.toList ++ rest))) t → Steps p.tables e below (T.setTop (mkF m pc Ls S)) t :=
  callIB X hx hZ eT hy1 a argsL rest W (backOf (W := W) (hM []) hZ w4 w3 hf hl) hown w1 w2 w4 hy hcR hsR hsz hlen hS hW hd
/-- a static call by its contract, the heap and the places named -/
theorem callH (X : Stand p l e R s m args below meth c T locs cells slots) (hx : p.tables.exec = Jvm.exec) (hZ : Z.Warmed39 s.vm) (eT : T.heap = h) {own : String} {index : Nat} {y : MethodName} {bytes : ByteArray} {maxL : Nat} {ret : Option FieldType} {rm : Room} {Q : Option Value → Heap → List Loc → Prop}
    (argsL rest : List Value) (hM : Con l Z y bytes maxL ret rm argsL.toArray h Q) (hown : s.vm.findClass own = some m.cls) (w1 : (Cond.methodLink own index y).before a0 Z = true) (w2 : (Cond.static y).before a0 Z = true) (w3 : (Cond.initialized y.cls).before a0 Z = true) (w4 : (Cond.code y bytes maxL ret).before a0 Z = true)
    (hy : y.cls ≠ "java/lang/invoke/MethodHandle" ∧ y.cls ≠ "java/lang/invoke/VarHandle") (W : Nat) (hf : rm.frames + 1 ≤ R.frames) (hl : W + (maxL + 11) + rm.locals ≤ R.locals) (hcR : cells + rm.cells ≤ R.cells) (hsR : slots + rm.slots ≤ R.slots) (hsz : Ls.size = c.maxLocals)
    {S : List Value} (hlen : ∀ sig, parseMethodDescriptor y.desc = some sig → argsL.length = sig.parameters.length) (hS : S = argsL.reverse ++ rest) (hW : (rest.map fun v => v.category).sum ≤ W) (hd : decode c.code pc = .ok (.invokestatic index, 3)) :
    ∃ (T' : State) (h' : Heap) (v : Option Value) (L M : List Loc), Stand p l e R s m args below meth c T' M (cells + rm.cells) (slots + rm.slots) ∧ T'.heap = h' ∧ (∀ n0, Fr n0 locs → Fr n0 L → Fr n0 M) ∧ Q v h' L ∧ ∀ t, Steps p.tables e below (T'.setTop (mkF m (pc + 3) Ls (v.toList ++ rest))) t → Steps p.tables e below (T.setTop (mkF m pc Ls S)) t := by
  obtain ⟨T', v, L, X', hQ, st⟩ := callC X hx hZ eT argsL rest hM hown w1 w2 w3 w4 hy W hf hl hcR hsR hsz hlen hS hW hd
  exact ⟨T', _, v, L, _, X', rfl, fun n0 A B => Fr.app A B, hQ, st⟩
/-- a virtual call by a payer that writes nothing -/
theorem callVB (X : Stand p l e R s m args below meth c T locs cells slots) (hx : p.tables.exec = Jvm.exec) (hZ : Z.Warmed39 s.vm) (eT : T.heap = h) {own K : String} {index : Nat} {y : MethodName} {Q : Option Value → Heap → List Loc → Prop}
    (b : Addr) (argsL rest : List Value) (W : Nat) (hB : Back l R p e below s args y 3 W (fun A a => a = (Value.ref b :: argsL).toArray ∧ A.U.heap = h ∧ A.cells + 0 ≤ R.cells ∧ A.slots + 0 ≤ R.slots) (fun A _ v B => ∃ L, Q v B.U.heap L ∧ B.locs = A.locs ++ L ∧ B.cells = A.cells + 0 ∧ B.slots = A.slots + 0)) (hQ0 : ∀ v h' L, Q v h' L → L = [] ∧ h' = h)
    (hown : s.vm.findClass own = some m.cls) (E : Exa Z h b K) (w1 : (Cond.methodLink own index y).before a0 Z = true) (w2 : (Cond.declares y).before a0 Z = true) (w3 : (Cond.selects K y y).before a0 Z = true) (w4 : (Cond.instanceMethod y).before a0 Z = true)
    (hy : y.cls ≠ "java/lang/invoke/MethodHandle" ∧ y.cls ≠ "java/lang/invoke/VarHandle") (hcR : cells ≤ R.cells) (hsR : slots ≤ R.slots) (hsz : Ls.size = c.maxLocals)
    {S : List Value} (hlen : ∀ sig, parseMethodDescriptor y.desc = some sig → argsL.length = sig.parameters.length) (hS : S = argsL.reverse ++ .ref b :: rest) (hW : (rest.map fun v => v.category).sum ≤ W) (hd : decode c.code pc = .ok (.invokevirtual index, 3)) :
    ∃ (T' : State) (v : Option Value), Stand p l e R s m args below meth c T' locs cells slots ∧ T'.heap = h ∧ Q v h [] ∧ ∀ t, Steps p.tables e below (T'.setTop (mkF m (pc + 3) Ls (v.toList ++ rest))) t → Steps p.tables e below (T.setTop (mkF m pc Ls S)) t := by
  obtain ⟨cB, kB, q1, q2, q3⟩ := isOf hZ eT E
  obtain ⟨v, _, ⟨T', L', k', n'⟩, -, X', ⟨L, hQ, l', y', z'⟩, st⟩ := X.virtualBack hx (y := y) (z := y) hown (mvT hZ w1) (mvT hZ w2) (notFace_of_selects (args := #[]) (mvT hZ w3)) (mvT hZ w3) (mvT hZ w4) hy hB q1 q3 (g := mkF m pc Ls S) rfl hsz (Steps.refl _) (argsL := argsL) (rest := rest) hlen hS (by show 2 * 0 + _ ≤ _; rw [Nat.mul_zero, Nat.zero_add]; exact hW) hd (fun _ _ => ⟨rfl, eT, hcR, hsR⟩)
  dsimp only [Pt.U, Pt.locs, Pt.cells, Pt.slots] at X' l' y' z' st hQ
  obtain ⟨rfl, hh⟩ := hQ0 _ _ _ hQ
  rw [List.append_nil] at l'
  subst l' y' z'
  rw [hh] at hQ
  exact ⟨T', v, X', hh, hQ, fun t k => st.trans k⟩
/-- a constructor that writes nothing -/
theorem callIP (X : Stand p l e R s m args below meth c T locs cells slots) (hx : p.tables.exec = Jvm.exec) (hZ : Z.Warmed39 s.vm) (eT : T.heap = h) {own : String} {index : Nat} {y : MethodName} {bytes : ByteArray} {maxL : Nat} {rm : Room} (hy1 : y.name = "<init>")
    (a : Addr) (argsL rest : List Value) (hM : Con l Z y bytes maxL none rm (Value.ref a :: argsL).toArray h (fun v h' L => v = none ∧ L = [] ∧ h' = h))
    (hown : s.vm.findClass own = some m.cls) (w1 : (Cond.methodLink own index y).before a0 Z = true) (w2 : (Cond.instanceMethod y).before a0 Z = true) (w3 : (Cond.initialized y.cls).before a0 Z = true) (w4 : (Cond.code y bytes maxL none).before a0 Z = true)
    (hy : y.cls ≠ "java/lang/invoke/MethodHandle" ∧ y.cls ≠ "java/lang/invoke/VarHandle") (W : Nat) (hrc : rm.cells = 0) (hrs : rm.slots = 0) (hf : rm.frames + 1 ≤ R.frames) (hl : W + (maxL + 11) + rm.locals ≤ R.locals) (hcR : cells ≤ R.cells) (hsR : slots ≤ R.slots) (hsz : Ls.size = c.maxLocals)
    {S : List Value} (hlen : ∀ sig, parseMethodDescriptor y.desc = some sig → argsL.length = sig.parameters.length) (hS : S = argsL.reverse ++ .ref a :: rest) (hW : (rest.map fun v => v.category).sum ≤ W) (hd : decode c.code pc = .ok (.invokespecial index, 3)) :
    ∃ T' : State, Stand p l e R s m args below meth c T' locs cells slots ∧ T'.heap = h ∧ ∀ t, Steps p.tables e below (T'.setTop (mkF m (pc + 3) Ls rest)) t → Steps p.tables e below (T.setTop (mkF m pc Ls S)) t := by
  obtain ⟨v, _, ⟨T', L', k', n'⟩, -, X', ⟨L, ⟨rfl, rfl, hh⟩, l', y', z'⟩, st⟩ := X.specialBack hx (y := y) hy1 hown (mvT hZ w1) (mvT hZ w2) (mvT hZ w4) hy (backOf (W := W) (Q := fun v h' L => v = none ∧ L = [] ∧ h' = h) (hM []) hZ w4 w3 hf hl) (g := mkF m pc Ls S) rfl hsz (Steps.refl _) (a := a) (argsL := argsL) (rest := rest) hlen hS (by show 2 * 0 + _ ≤ _; rw [Nat.mul_zero, Nat.zero_add]; exact hW) hd (fun _ _ => ⟨rfl, eT, by rw [hrc]; exact hcR, by rw [hrs]; exact hsR⟩)
  dsimp only [Pt.U, Pt.locs, Pt.cells, Pt.slots] at X' l' y' z' st hh
  rw [List.append_nil] at l'
  rw [hrc] at y'; rw [hrs] at z'
  subst l' y' z'
  exact ⟨T', X', hh, fun t k => st.trans k⟩
theorem aal (X : Stand p l e R s m args below meth c T locs cells slots) (hx : p.tables.exec = Jvm.exec) (hZ : Z.Warmed39 s.vm) (eT : T.heap = h) {a : Addr} {cl : Cell} {ty : FieldType} (A : Arr Z h a cl ty) (hty : ty.isReference = true) {j : Int32} (v : Value) (hin : ¬ (j < 0 ∨ cl.slots.size ≤ j.toNatClampNeg)) (hat : cl.slots[j.toNatClampNeg]? = some v) (hd : decode c.code pc = .ok (.aaload, 1)) {t : State}
    (hr : Steps p.tables e below (T.setTop (mkF m (pc + 1) Ls (v :: S))) t) : Steps p.tables e below (T.setTop (mkF m pc Ls (.int j :: .ref a :: S))) t :=
  X.aaload hx (j := j) (v := v) (by rw [eT]; exact A.1) (State.isArrayOf_alike hZ.alike A.2.1) hty A.2.2 hin hat (g := mkF m pc Ls (.int j :: .ref a :: S)) rfl rfl hd _ hr
theorem instY (X : Stand p l e R s m args below meth c T locs cells slots) (hx : p.tables.exec = Jvm.exec) (hZ : Z.Warmed39 s.vm) (eT : T.heap = h) {own K : String} {index : Nat} (hown : s.vm.findClass own = some m.cls) (w : (Cond.classLink own index K).before a0 Z = true) {a : Addr} (F : Ins Z h a K true) (hd : decode c.code pc = .ok (.instanceof index, 3)) :
    ∃ T' : State, Stand p l e R s m args below meth c T' locs cells slots ∧ T'.heap = h ∧ ∀ t, Steps p.tables e below (T'.setTop (mkF m (pc + 3) Ls (.int 1 :: S))) t → Steps p.tables e below (T.setTop (mkF m pc Ls (.ref a :: S))) t := Jvm.RoadKit.instY (g := mkF m pc Ls (.ref a :: S)) X hx hZ hown w eT F rfl rfl hd
theorem castY (X : Stand p l e R s m args below meth c T locs cells slots) (hx : p.tables.exec = Jvm.exec) (hZ : Z.Warmed39 s.vm) (eT : T.heap = h) {own K : String} {index : Nat} (hown : s.vm.findClass own = some m.cls) (w : (Cond.classLink own index K).before a0 Z = true) {a : Addr} (F : Ins Z h a K true) (hd : decode c.code pc = .ok (.checkcast index, 3)) :
    ∃ T' : State, Stand p l e R s m args below meth c T' locs cells slots ∧ T'.heap = h ∧ ∀ t, Steps p.tables e below (T'.setTop (mkF m (pc + 3) Ls (.ref a :: S))) t → Steps p.tables e below (T.setTop (mkF m pc Ls (.ref a :: S))) t := Jvm.RoadKit.castY (g := mkF m pc Ls (.ref a :: S)) X hx hZ hown w eT F rfl rfl hd
theorem instN (X : Stand p l e R s m args below meth c T locs cells slots) (hx : p.tables.exec = Jvm.exec) (hZ : Z.Warmed39 s.vm) (eT : T.heap = h) {own K C : String} {index : Nat} (hown : s.vm.findClass own = some m.cls) (w : (Cond.classLink own index K).before a0 Z = true) {a : Addr} (E : Exa Z h a C) {n : Nat} (wi : (Cond.instantiable K n).before a0 Z = true) {t : List String} (hw : ∀ d ∈ Cond.chainWords (C :: t), d.before a0 Z = true) (hn : K ∉ C :: t) (hd : decode c.code pc = .ok (.instanceof index, 3)) :
    ∃ T' : State, Stand p l e R s m args below meth c T' locs cells slots ∧ T'.heap = h ∧ ∀ t, Steps p.tables e below (T'.setTop (mkF m (pc + 3) Ls (.int 0 :: S))) t → Steps p.tables e below (T.setTop (mkF m pc Ls (.ref a :: S))) t := by
  obtain ⟨cy, ky, h1, h2, h3, h4, -⟩ := Cond.instantiable_spec wi
  obtain ⟨cell, k, e1, e2, -⟩ := id E
  have h5 : ky.isInterface = false := by cases hi : ky.isInterface <;> simp [hi] at h4 ⊢
  exact instNo (g := mkF m pc Ls (.ref a :: S)) X hx hZ hown w eT E ⟨_, _, e2, h1, Vm.notAssignable_of_chain e2 h1 h2 h3 h5 hw hn⟩ rfl rfl hd
theorem instNull (X : Stand p l e R s m args below meth c T locs cells slots) (hx : p.tables.exec = Jvm.exec) {index : Nat} {t : State} (hd : decode c.code pc = .ok (.instanceof index, 3)) (hr : Steps p.tables e below (T.setTop (mkF m (pc + 3) Ls (.int 0 :: S))) t) : Steps p.tables e below (T.setTop (mkF m pc Ls (.null :: S))) t := X.instanceofNull hx (g := mkF m pc Ls (.null :: S)) rfl rfl hd _ hr
theorem more (X : Stand p l e R s m args below meth c T locs cells slots) {C D : Nat} (hC : cells ≤ C) (hD : slots ≤ D) : Stand p l e R s m args below meth c T locs C D := X.more hC hD
end Heap
end Jvm.Own
/- laws to paste: Road.backV, Road.chN, Road.codOf (cut by pick.py; bodies as the Statement names them) -/
namespace Jvm.Pilot.@@N@@
namespace StrChars
open Jvm Sem ClassFile Op Lib Jvm.Stand Jvm.Free.XT Jvm.Free.ALB Jvm.Free.JM Jvm.Free
open Jvm.Lib.Cold (StaticIs)
/-- a char array whose places are chars -/
def Ch (a : Addr) (A : Cell) (U : State) : Prop := Arr .char a A U ∧ Typed .char A
theorem Ch.mv {a : Addr} {A : Cell} {U U' : State} (h : Ch a A U) (hal : U.vm.Alike U'.vm) (hh : U'.heap = U.heap) : Ch a A U' := ⟨h.1.mv hal hh, h.2⟩
theorem Ch.keep {a : Addr} {A : Cell} {U U' : State} (h : Ch a A U) (hal : U.vm.Alike U'.vm) (hk : U'.heap[a]? = some A) : Ch a A U' := ⟨h.1.keep hal hk, h.2⟩
/-- what place i of a char[]'s cell holds -/
def cv (A : Cell) (i : Nat) : Int32 := match A.slots[i]? with | some (.int x) => x | _ => 0
theorem Ch.get {a : Addr} {A : Cell} {U : State} (h : Ch a A U) {i : Nat} (hi : i < A.slots.size) : A.slots[i]? = some (.int (cv A i)) := by
  have e := Array.getElem?_eq_getElem hi
  have f := h.2 i _ e
  unfold cv; rw [e]
  generalize A.slots[i] = v at f
  cases v <;> simp [fits] at f ⊢
/-- the byte that i2b leaves of a char -/
def lo8 (x : Int32) : Int32 := x.toInt8.toInt32
theorem fits_lo8 (y : Int32) : fits .byte (.int (lo8 y)) = true := by
  have h1 := y.toInt8.le_toInt
  have h2 := y.toInt8.toInt_lt
  simp only [lo8, fits, Bool.and_eq_true, decide_eq_true_eq, Int32.le_iff_toInt_le, Int8.toInt_toInt32, show (-128 : Int32).toInt = -128 from by decide, show (127 : Int32).toInt = 127 from by decide]
  omega
/-- A' is A but that each place j of lo .. hi - 1 holds f j -/
def Laid (A A' : Cell) (lo hi : Nat) (f : Nat → Value) : Prop := A'.cls = A.cls ∧ A'.vm = A.vm ∧ A'.slots.size = A.slots.size ∧ ∀ i, A'.slots[i]? = if lo ≤ i ∧ i < hi then some (f i) else A.slots[i]?
theorem Laid.zero (A : Cell) (lo : Nat) (f : Nat → Value) : Laid A A lo (lo + 0) f := ⟨rfl, rfl, rfl, fun i => by rw [if_neg (by omega)]⟩
theorem Laid.step {A Ak : Cell} {lo k : Nat} {f : Nat → Value} {v : Value} (h : Laid A Ak lo k f) (hlo : lo ≤ k) (hk : k < Ak.slots.size) (hv : v = f k) : Laid A (Ak.setSlot k v) lo (k + 1) f := by
  refine ⟨h.1, h.2.1, by simpa [Cell.setSlot] using h.2.2.1, fun i => ?_⟩
  by_cases e : k = i
  · subst e; rw [Cell.slots_setSlot_self v hk, if_pos (by omega), hv]
  · rw [Cell.slots_setSlot_ne v e, h.2.2.2 i]
    by_cases q : lo ≤ i ∧ i < k
    · rw [if_pos q, if_pos (by omega)]
    · rw [if_neg q, if_neg (by omega)]
def U16 : String := "java/lang/StringUTF16"
namespace Cmp5
def yN : MethodName := ⟨"java/lang/StringUTF16", "compress", "([CI[BII)I"⟩
abbrev yB : ByteArray := jdk_52_method_21_code
theorem d0 : decode yB 0 = .ok (.iconst 0, 1) := by decide +kernel
theorem d1 : decode yB 1 = .ok (.istore 5, 2) := by decide +kernel
theorem d3 : decode yB 3 = .ok (.iload 5, 2) := by decide +kernel
theorem d5 : decode yB 5 = .ok (.iload 4, 2) := by decide +kernel
theorem d7 : decode yB 7 = .ok (.if_icmp (.ge) 37, 3) := by decide +kernel
theorem d10 : decode yB 10 = .ok (.aload_n 0, 1) := by decide +kernel
theorem d11 : decode yB 11 = .ok (.iload_n 1, 1) := by decide +kernel
theorem d12 : decode yB 12 = .ok (.caload, 1) := by decide +kernel
theorem d13 : decode yB 13 = .ok (.istore 6, 2) := by decide +kernel
theorem d15 : decode yB 15 = .ok (.iload 6, 2) := by decide +kernel
theorem d17 : decode yB 17 = .ok (.sipush 255, 3) := by decide +kernel
theorem d20 : decode yB 20 = .ok (.if_icmp (.le) 6, 3) := by decide +kernel
theorem d26 : decode yB 26 = .ok (.aload_n 2, 1) := by decide +kernel
theorem d27 : decode yB 27 = .ok (.iload_n 3, 1) := by decide +kernel
theorem d28 : decode yB 28 = .ok (.iload 6, 2) := by decide +kernel
theorem d30 : decode yB 30 = .ok (.i2b, 1) := by decide +kernel
theorem d31 : decode yB 31 = .ok (.bastore, 1) := by decide +kernel
theorem d32 : decode yB 32 = .ok (.iinc 1 1, 3) := by decide +kernel
theorem d35 : decode yB 35 = .ok (.iinc 3 1, 3) := by decide +kernel
theorem d38 : decode yB 38 = .ok (.iinc 5 1, 3) := by decide +kernel
theorem d41 : decode yB 41 = .ok (.goto (-38), 3) := by decide +kernel
theorem d44 : decode yB 44 = .ok (.iload 4, 2) := by decide +kernel
theorem d46 : decode yB 46 = .ok (.ireturn, 1) := by decide +kernel
def site : List Cond := []
def tab : Cond := tabOf yN yB 7 (some .int) site
def P (b : Addr) (A : Cell) (d : Addr) (B : Cell) (o q len : Nat) (args : Array Value) (s : State) : Prop := args = #[.ref b, .int (Int32.ofNat o), .ref d, .int (Int32.ofNat q), .int (Int32.ofNat len)] ∧ Ch b A s ∧ Arr .byte d B s ∧ b ≠ d ∧ o + len ≤ A.slots.size ∧ q + len ≤ B.slots.size ∧ ∀ i, i < len → ¬ 255 < cv A (o + i)
def E (b : Addr) (A : Cell) (d : Addr) (B : Cell) (o q len : Nat) (r : Option Value) (s u : State) : Prop := r = some (.int (Int32.ofNat len)) ∧ ∃ B', Put d B' s u ∧ Laid B B' q (q + len) (fun j => Value.int (lo8 (cv A (o + (j - q)))))
/-- no char of the range above 255: len; the places written hold each char's low byte -/
theorem law (l : Launch) (b : Addr) (A : Cell) (d : Addr) (B : Cell) (o q len : Nat) : Law l yN 5 5 0 0 yB 7 (some .int) site (P b A d B o q len) (E b A d B o q len) (copyLocs d q len) 0 0 := by
  refine Law.of_walk (plainFor_of_name (by decide +kernel)) (by decide +kernel) (by decide +kernel) (by decide) (fun _ _ h => by rw [h.1]; rfl) (fun _ U U' hal hh h => ⟨h.1, h.2.1.mv hal hh, h.2.2.1.mv hal hh, h.2.2.2⟩) (fun r U U' V V' h1 hal h2 h => ⟨h.1, h.2.elim fun B' q => ⟨B', q.1.mv h1 h2, q.2⟩⟩) ?_
  intro p e s m args below meth c s₁ X0 hexec hbytes hml hret hlk hnm hown hh0 W hP
  obtain ⟨rfl, hA, hB, hne, l1, l2, hp⟩ := hP
  have c1 : Steps p.tables e below (s₁.setTop (entryFrame m #[.ref b, .int (Int32.ofNat o), .ref d, .int (Int32.ofNat q), .int (Int32.ofNat len)] 7)) (s₁.setTop (mkF m 0 #[.val (.ref b), .val (.int (Int32.ofNat o)), .val (.ref d), .val (.int (Int32.ofNat q)), .val (.int (Int32.ofNat len)), .unset, .unset] [])) := entry rfl
  have hA0 := hA.1.mv X0.warmed.alike hh0
  have hB0 := hB.mv X0.warmed.alike hh0
  have a31 := hA.1.2.2.2
  have c2 : Steps p.tables e below (s₁.setTop (entryFrame m #[.ref b, .int (Int32.ofNat o), .ref d, .int (Int32.ofNat q), .int (Int32.ofNat len)] 7)) (s₁.setTop (mkF m 3 #[.val (.ref b), .val (.int (Int32.ofNat o)), .val (.ref d), .val (.int (Int32.ofNat q)), .val (.int (Int32.ofNat len)), .val (.int 0), .unset] [])) := c1.trans (by
    refine iconstV X0.here hexec rfl 0 (hb hbytes d0) (by decide) ?_
    refine XS.istore X0.here hexec rfl (hb hbytes d1) rfl rfl ?_
    exact Steps.refl _)
  have loop : ∀ (r i : Nat), i + r = len → ∀ (z : Slot), (z = .unset ∨ ∃ w, z = .val w ∧ w.category = 1) → ∀ (Tl : State) (Bk : Cell), Stand p l e { frames := 0, locals := 0, cells := 0, slots := 0 } s m #[.ref b, .int (Int32.ofNat o), .ref d, .int (Int32.ofNat q), .int (Int32.ofNat len)] below meth c Tl ([] ++ copyLocs d q i) 0 0 → Put d Bk s₁ Tl → Laid B Bk q (q + i) (fun j => Value.int (lo8 (cv A (o + (j - q))))) →
      Steps p.tables e below (s₁.setTop (entryFrame m #[.ref b, .int (Int32.ofNat o), .ref d, .int (Int32.ofNat q), .int (Int32.ofNat len)] 7)) (Tl.setTop (mkF m 3 #[.val (.ref b), .val (.int (Int32.ofNat (o + i))), .val (.ref d), .val (.int (Int32.ofNat (q + i))), .val (.int (Int32.ofNat len)), .val (.int (Int32.ofNat i)), z] [])) → ∃ (T' : State) (B' : Cell) (z' : Slot), Stand p l e { frames := 0, locals := 0, cells := 0, slots := 0 } s m #[.ref b, .int (Int32.ofNat o), .ref d, .int (Int32.ofNat q), .int (Int32.ofNat len)] below meth c T' ([] ++ copyLocs d q len) 0 0 ∧ Put d B' s₁ T' ∧ Laid B B' q (q + len) (fun j => Value.int (lo8 (cv A (o + (j - q))))) ∧
      Steps p.tables e below (s₁.setTop (entryFrame m #[.ref b, .int (Int32.ofNat o), .ref d, .int (Int32.ofNat q), .int (Int32.ofNat len)] 7)) (T'.setTop (mkF m 3 #[.val (.ref b), .val (.int (Int32.ofNat (o + len))), .val (.ref d), .val (.int (Int32.ofNat (q + len))), .val (.int (Int32.ofNat len)), .val (.int (Int32.ofNat len)), z'] [])) := by
    intro r
    induction r with
    | zero =>
      intro i hi z hz Tl Bk Xl pl fl cl
      have hil : i = len := by omega
      rw [hil] at Xl fl cl
      exact ⟨Tl, Bk, z, Xl, pl, fl, cl⟩
    | succ r ih =>
      intro i hi z hz Tl Bk Xl pl fl cl
      have all := X0.warmed.alike.symm.trans Xl.warmed.alike
      have hAl := hA0.keep all (pl.other hne hA0.1)
      have hBk := hB0.like all pl.1 fl.1 fl.2.1 fl.2.2.1
      have hlt : q + i < Bk.slots.size := by rw [fl.2.2.1]; omega
      have c3 : Steps p.tables e below (s₁.setTop (entryFrame m #[.ref b, .int (Int32.ofNat o), .ref d, .int (Int32.ofNat q), .int (Int32.ofNat len)] 7)) (Tl.setTop (mkF m 12 #[.val (.ref b), .val (.int (Int32.ofNat (o + i))), .val (.ref d), .val (.int (Int32.ofNat (q + i))), .val (.int (Int32.ofNat len)), .val (.int (Int32.ofNat i)), z] [.int (Int32.ofNat (o + i)), .ref b])) := cl.trans (by
        refine XS.iload Xl.here hexec rfl (hb hbytes d3) rfl ?_
        refine XS.iload Xl.here hexec rfl (hb hbytes d5) rfl ?_
        refine XS.icmpNo Xl.here hexec rfl (hb hbytes d7) rfl (ii_ge_f (lt32 (by omega) (by omega))) ?_
        refine XS.aloadN Xl.here hexec rfl (hb hbytes d10) rfl rfl ?_
        refine XS.iloadN Xl.here hexec rfl (hb hbytes d11) rfl ?_
        exact Steps.refl _)
      have c4 : Steps p.tables e below (s₁.setTop (entryFrame m #[.ref b, .int (Int32.ofNat o), .ref d, .int (Int32.ofNat q), .int (Int32.ofNat len)] 7)) (Tl.setTop (mkF m 13 #[.val (.ref b), .val (.int (Int32.ofNat (o + i))), .val (.ref d), .val (.int (Int32.ofNat (q + i))), .val (.int (Int32.ofNat len)), .val (.int (Int32.ofNat i)), z] [.int (cv A (o + i))])) := c3.trans (by
        refine Xl.aget hexec hAl rfl (hA.get (i := o + i) (by omega)) rfl rfl (hb hbytes d12) ?_
        exact Steps.refl _)
      have c5 : Steps p.tables e below (s₁.setTop (entryFrame m #[.ref b, .int (Int32.ofNat o), .ref d, .int (Int32.ofNat q), .int (Int32.ofNat len)] 7)) (Tl.setTop (mkF m 15 #[.val (.ref b), .val (.int (Int32.ofNat (o + i))), .val (.ref d), .val (.int (Int32.ofNat (q + i))), .val (.int (Int32.ofNat len)), .val (.int (Int32.ofNat i)), .val (.int (cv A (o + i)))] [])) := c4.trans (by
        refine XS.istoreS Xl.here hexec rfl (hb hbytes d13) rfl rfl hz ?_
        exact Steps.refl _)
      have c6 : Steps p.tables e below (s₁.setTop (entryFrame m #[.ref b, .int (Int32.ofNat o), .ref d, .int (Int32.ofNat q), .int (Int32.ofNat len)] 7)) (Tl.setTop (mkF m 31 #[.val (.ref b), .val (.int (Int32.ofNat (o + i))), .val (.ref d), .val (.int (Int32.ofNat (q + i))), .val (.int (Int32.ofNat len)), .val (.int (Int32.ofNat i)), .val (.int (cv A (o + i)))] [.int (lo8 (cv A (o + i))), .int (Int32.ofNat (q + i)), .ref d])) := c5.trans (by
        refine XS.iload Xl.here hexec rfl (hb hbytes d15) rfl ?_
        refine sipushV Xl.here hexec rfl 255 (hb hbytes d17) (by decide) ?_
        refine XS.icmpYes Xl.here hexec rfl (pc0 := 20) rfl (hb hbytes d20) rfl (ii_le_t (hp i (by omega))) (by decide) rfl ?_
        refine XS.aloadN Xl.here hexec rfl (hb hbytes d26) rfl rfl ?_
        refine XS.iloadN Xl.here hexec rfl (hb hbytes d27) rfl ?_
        refine XS.iload Xl.here hexec rfl (hb hbytes d28) rfl ?_
        refine i2b Xl.here hexec rfl (hb hbytes d30) rfl ?_
        exact Steps.refl _)
      obtain ⟨T7, X7, p7, st7⟩ := Xl.aput hexec hBk rfl hlt rfl (fits_lo8 (cv A (o + i))) (g := (mkF m 31 #[.val (.ref b), .val (.int (Int32.ofNat (o + i))), .val (.ref d), .val (.int (Int32.ofNat (q + i))), .val (.int (Int32.ofNat len)), .val (.int (Int32.ofNat i)), .val (.int (cv A (o + i)))] [.int (lo8 (cv A (o + i))), .int (Int32.ofNat (q + i)), .ref d])) rfl (rest := []) rfl (hb hbytes d31)
      have c8 : Steps p.tables e below (s₁.setTop (entryFrame m #[.ref b, .int (Int32.ofNat o), .ref d, .int (Int32.ofNat q), .int (Int32.ofNat len)] 7)) (T7.setTop (mkF m 32 #[.val (.ref b), .val (.int (Int32.ofNat (o + i))), .val (.ref d), .val (.int (Int32.ofNat (q + i))), .val (.int (Int32.ofNat len)), .val (.int (Int32.ofNat i)), .val (.int (cv A (o + i)))] [])) := c6.trans (st7 _ (Steps.refl _))
      have c9 : Steps p.tables e below (s₁.setTop (entryFrame m #[.ref b, .int (Int32.ofNat o), .ref d, .int (Int32.ofNat q), .int (Int32.ofNat len)] 7)) (T7.setTop (mkF m 3 #[.val (.ref b), .val (.int (Int32.ofNat (o + i) + 1)), .val (.ref d), .val (.int (Int32.ofNat (q + i) + 1)), .val (.int (Int32.ofNat len)), .val (.int (Int32.ofNat i + 1)), .val (.int (cv A (o + i)))] [])) := c8.trans (by
        refine iincV X7.here hexec rfl 1 (hb hbytes d32) (by decide) rfl rfl ?_
        refine iincV X7.here hexec rfl 1 (hb hbytes d35) (by decide) rfl rfl ?_
        refine iincV X7.here hexec rfl 1 (hb hbytes d38) (by decide) rfl rfl ?_
        refine XS.goto X7.here hexec rfl (pc0 := 41) rfl (hb hbytes d41) (by decide) rfl ?_
        exact Steps.refl _)
      have c10 : Steps p.tables e below (s₁.setTop (entryFrame m #[.ref b, .int (Int32.ofNat o), .ref d, .int (Int32.ofNat q), .int (Int32.ofNat len)] 7)) (T7.setTop (mkF m 3 #[.val (.ref b), .val (.int (Int32.ofNat (o + (i + 1)))), .val (.ref d), .val (.int (Int32.ofNat (q + (i + 1)))), .val (.int (Int32.ofNat len)), .val (.int (Int32.ofNat (i + 1))), .val (.int (cv A (o + i)))] [])) := by
        have := c9
        rw [succ32, succ32, succ32] at this
        exact this
      exact ih (i + 1) (by omega) _ (Or.inr ⟨_, rfl, rfl⟩) T7 _ (by rw [copyLocs_step, ← List.append_assoc]; exact X7) (pl.trans p7) (fl.step (by omega) hlt (by simp)) c10
  obtain ⟨T9, B9, z9, X9, p9, f9, g9⟩ := loop len 0 (by omega) .unset (Or.inl rfl) s₁ B (by simpa [copyLocs] using X0) ⟨hB0.1, fun _ _ => rfl, rfl⟩ (Laid.zero _ _ _) c2
  have c11 : Steps p.tables e below (s₁.setTop (entryFrame m #[.ref b, .int (Int32.ofNat o), .ref d, .int (Int32.ofNat q), .int (Int32.ofNat len)] 7)) (T9.setTop (mkF m 46 #[.val (.ref b), .val (.int (Int32.ofNat (o + len))), .val (.ref d), .val (.int (Int32.ofNat (q + len))), .val (.int (Int32.ofNat len)), .val (.int (Int32.ofNat len)), z9] [.int (Int32.ofNat len)])) := g9.trans (by
    refine XS.iload X9.here hexec rfl (hb hbytes d3) rfl ?_
    refine XS.iload X9.here hexec rfl (hb hbytes d5) rfl ?_
    refine XS.icmpYes X9.here hexec rfl (pc0 := 7) rfl (hb hbytes d7) rfl (ii_ge_t (nlt32 (by omega) (Nat.le_refl _))) (by decide) rfl ?_
    refine XS.iload X9.here hexec rfl (hb hbytes d44) rfl ?_
    exact Steps.refl _)
  exact ⟨T9, some (.int (Int32.ofNat len)), _, _, _, X9, by simp, rfl, rfl, (fun h => by cases h), ⟨rfl, B9, p9.from hh0, f9⟩, fun fs hl => c11.trans (X9.ireturnOut hexec hret rfl (Or.inl rfl) (hb hbytes d46) hl)⟩
end Cmp5
namespace Cmp3
def yN : MethodName := ⟨"java/lang/StringUTF16", "compress", "([CII)[B"⟩
abbrev yB : ByteArray := jdk_52_method_16_code
theorem d0 : decode yB 0 = .ok (.iload_n 2, 1) := by decide +kernel
theorem d1 : decode yB 1 = .ok (.newarray .byte, 2) := by decide +kernel
theorem d3 : decode yB 3 = .ok (.astore_n 3, 1) := by decide +kernel
theorem d4 : decode yB 4 = .ok (.aload_n 0, 1) := by decide +kernel
theorem d5 : decode yB 5 = .ok (.iload_n 1, 1) := by decide +kernel
theorem d6 : decode yB 6 = .ok (.aload_n 3, 1) := by decide +kernel
theorem d7 : decode yB 7 = .ok (.iconst 0, 1) := by decide +kernel
theorem d8 : decode yB 8 = .ok (.iload_n 2, 1) := by decide +kernel
theorem d9 : decode yB 9 = .ok (.invokestatic 115, 3) := by decide +kernel
theorem d12 : decode yB 12 = .ok (.istore 4, 2) := by decide +kernel
theorem d14 : decode yB 14 = .ok (.iload 4, 2) := by decide +kernel
theorem d16 : decode yB 16 = .ok (.iload_n 2, 1) := by decide +kernel
theorem d17 : decode yB 17 = .ok (.if_icmp (.eq) 40, 3) := by decide +kernel
theorem d57 : decode yB 57 = .ok (.aload_n 3, 1) := by decide +kernel
theorem d58 : decode yB 58 = .ok (.areturn, 1) := by decide +kernel
def site : List Cond := [.arrayClass .byte, Cmp5.tab] ++ staticW U16 115 Cmp5.yN
def tab : Cond := tabOf yN yB 6 (some (.array .byte)) site
def P (b : Addr) (A : Cell) (o len : Nat) (args : Array Value) (s : State) : Prop := args = #[.ref b, .int (Int32.ofNat o), .int (Int32.ofNat len)] ∧ Ch b A s ∧ o + len ≤ A.slots.size ∧ len ≤ 536870912 ∧ ∀ i, i < len → ¬ 255 < cv A (o + i)
def E (b : Addr) (A : Cell) (o len : Nat) (r : Option Value) (s u : State) : Prop := NewArr .byte "[B" len (fun j => .int (lo8 (cv A (o + j)))) r s u ∧ u.heap.size = s.heap.size + 1
/-- no char of the range above 255: a new byte[] of their low bytes -/
theorem law (l : Launch) (b : Addr) (A : Cell) (o len : Nat) : Law l yN 3 3 1 18 yB 6 (some (.array .byte)) site (P b A o len) (E b A o len) [] 1 len := by
  refine Law.of_walk (plainFor_of_name (by decide +kernel)) (by decide +kernel) (by decide +kernel) (by decide) (fun _ _ h => by rw [h.1]; rfl) (fun _ U U' hal hh h => ⟨h.1, h.2.1.mv hal hh, h.2.2⟩) (fun r U U' V V' h1 hal h2 h => ⟨NewArr.mv r U U' V V' h1 hal h2 h.1, by rw [h1, h2]; exact h.2⟩) ?_
  intro p e s m args below meth c s₁ X0 hexec hbytes hml hret hlk hnm hown hh0 W hP
  obtain ⟨rfl, hA, l1, l2, hp⟩ := hP
  have a31 := hA.1.2.2.2
  have c1 : Steps p.tables e below (s₁.setTop (entryFrame m #[.ref b, .int (Int32.ofNat o), .int (Int32.ofNat len)] 6)) (s₁.setTop (mkF m 0 #[.val (.ref b), .val (.int (Int32.ofNat o)), .val (.int (Int32.ofNat len)), .unset, .unset, .unset] [])) := entry rfl
  have c2 : Steps p.tables e below (s₁.setTop (entryFrame m #[.ref b, .int (Int32.ofNat o), .int (Int32.ofNat len)] 6)) (s₁.setTop (mkF m 1 #[.val (.ref b), .val (.int (Int32.ofNat o)), .val (.int (Int32.ofNat len)), .unset, .unset, .unset] [.int (Int32.ofNat len)])) := c1.trans (by
    refine XS.iloadN X0.here hexec rfl (hb hbytes d0) rfl ?_
    exact Steps.refl _)
  obtain ⟨T3, B3, X3, ba3, bs3, bv3, bh3, bf3, st3⟩ := X0.anew hexec (atype := .byte) (wk W (.arrayClass .byte)) rfl (by show len * 1 ≤ _; omega) (by omega) (g := (mkF m 1 #[.val (.ref b), .val (.int (Int32.ofNat o)), .val (.int (Int32.ofNat len)), .unset, .unset, .unset] [.int (Int32.ofNat len)])) rfl (hb hbytes d1) (rest := []) rfl (Nat.le_refl _) (by show 0 + len ≤ len; omega)
  rw [hh0] at ba3 st3
  have kp3 : XT.Kept s T3 := (XT.Kept.of_eq hh0).push bh3
  have hA3 := hA.keep X3.warmed.alike (kp3 _ _ hA.1.1)
  have hne : b ≠ s.heap.size := hA.1.ne
  have c4 : Steps p.tables e below (s₁.setTop (entryFrame m #[.ref b, .int (Int32.ofNat o), .int (Int32.ofNat len)] 6)) (T3.setTop (mkF m 3 #[.val (.ref b), .val (.int (Int32.ofNat o)), .val (.int (Int32.ofNat len)), .unset, .unset, .unset] [.ref s.heap.size])) := c2.trans (st3 _ (Steps.refl _))
  have c5 : Steps p.tables e below (s₁.setTop (entryFrame m #[.ref b, .int (Int32.ofNat o), .int (Int32.ofNat len)] 6)) (T3.setTop (mkF m 9 #[.val (.ref b), .val (.int (Int32.ofNat o)), .val (.int (Int32.ofNat len)), .val (.ref s.heap.size), .unset, .unset] [.int (Int32.ofNat len), .int 0, .ref s.heap.size, .int (Int32.ofNat o), .ref b])) := c4.trans (by
    refine XS.astoreN X3.here hexec rfl (hb hbytes d3) rfl rfl rfl ?_
    refine XS.aloadN X3.here hexec rfl (hb hbytes d4) rfl rfl ?_
    refine XS.iloadN X3.here hexec rfl (hb hbytes d5) rfl ?_
    refine XS.aloadN X3.here hexec rfl (hb hbytes d6) rfl rfl ?_
    refine iconstV X3.here hexec rfl 0 (hb hbytes d7) (by decide) ?_
    refine XS.iloadN X3.here hexec rfl (hb hbytes d8) rfl ?_
    exact Steps.refl _)
  obtain ⟨v6, T6, X6, E6, g6⟩ := X3.callS hexec (Cmp5.law l b A s.heap.size B3 o 0 len) hown (wks W (staticW U16 115 Cmp5.yN)) (wk W Cmp5.tab) (W := 0) (Nat.le_of_ble_eq_true rfl) (Nat.le_of_ble_eq_true rfl) (Nat.le_refl _) (by show 0 + len + 0 ≤ len; omega) (g := (mkF m 9 #[.val (.ref b), .val (.int (Int32.ofNat o)), .val (.int (Int32.ofNat len)), .val (.ref s.heap.size), .unset, .unset] [.int (Int32.ofNat len), .int (Int32.ofNat 0), .ref s.heap.size, .int (Int32.ofNat o), .ref b])) rfl (by rw [hml]; rfl) c5 (argsL := [.ref b, .int (Int32.ofNat o), .ref s.heap.size, .int (Int32.ofNat 0), .int (Int32.ofNat len)]) (rest := []) rfl rfl (by show 2 * 0 + 0 ≤ _; decide) (hb hbytes d9) (⟨rfl, hA3, ba3, hne, l1, by rw [bs3]; simp, hp⟩)
  obtain ⟨rfl, B6, p6, f6⟩ := E6
  have c7 : Steps p.tables e below (s₁.setTop (entryFrame m #[.ref b, .int (Int32.ofNat o), .int (Int32.ofNat len)] 6)) (T6.setTop (mkF m 12 #[.val (.ref b), .val (.int (Int32.ofNat o)), .val (.int (Int32.ofNat len)), .val (.ref s.heap.size), .unset, .unset] [.int (Int32.ofNat len)])) := g6
  have c8 : Steps p.tables e below (s₁.setTop (entryFrame m #[.ref b, .int (Int32.ofNat o), .int (Int32.ofNat len)] 6)) (T6.setTop (mkF m 58 #[.val (.ref b), .val (.int (Int32.ofNat o)), .val (.int (Int32.ofNat len)), .val (.ref s.heap.size), .val (.int (Int32.ofNat len)), .unset] [.ref s.heap.size])) := c7.trans (by
    refine XS.istore X6.here hexec rfl (hb hbytes d12) rfl rfl ?_
    refine XS.iload X6.here hexec rfl (hb hbytes d14) rfl ?_
    refine XS.iloadN X6.here hexec rfl (hb hbytes d16) rfl ?_
    refine XS.icmpYes X6.here hexec rfl (pc0 := 17) rfl (hb hbytes d17) rfl (ii_eq_t rfl) (by decide) rfl ?_
    refine XS.aloadN X6.here hexec rfl (hb hbytes d57) rfl rfl ?_
    exact Steps.refl _)
  have X8 := X6.wide (L' := []) (cells' := 1) (slots' := len) (fun x hx hlt => by
    simp only [List.nil_append, copyLocs, List.mem_map, List.mem_range] at hx
    obtain ⟨i, -, rfl⟩ := hx
    exact absurd hlt (Nat.lt_irrefl _)) (Nat.le_refl _) (by omega)
  exact ⟨T6, some (.ref s.heap.size), _, _, _, X8, rfl, rfl, rfl, (fun h => by cases h), ⟨⟨rfl, B6, ba3.like (X3.warmed.alike.symm.trans X6.warmed.alike) p6.1 f6.1 f6.2.1 f6.2.2.1, f6.2.1.trans bv3, by rw [X6.warmed.alike.findClass, f6.1]; exact bf3, by rw [f6.2.2.1, bs3]; simp, fun j hj => by rw [f6.2.2.2 j, if_pos (by omega)]; rfl, kp3.put p6 (Nat.le_refl _)⟩, by rw [p6.2.2, bh3, hh0]; simp⟩, fun fs hl => c8.trans (X8.areturnOut hexec rfl hret rfl (hb hbytes d58) hl)⟩
end Cmp3
namespace CodL
def yN : MethodName := ⟨"java/lang/StringUTF16", "coderFromArrayLen", "([BI)B"⟩
abbrev yB : ByteArray := jdk_52_method_15_code
theorem d0 : decode yB 0 = .ok (.iload_n 1, 1) := by decide +kernel
theorem d1 : decode yB 1 = .ok (.aload_n 0, 1) := by decide +kernel
theorem d2 : decode yB 2 = .ok (.arraylength, 1) := by decide +kernel
theorem d3 : decode yB 3 = .ok (.isub, 1) := by decide +kernel
theorem d4 : decode yB 4 = .ok (.bipush 31, 2) := by decide +kernel
theorem d6 : decode yB 6 = .ok (.iushr, 1) := by decide +kernel
theorem d7 : decode yB 7 = .ok (.i2b, 1) := by decide +kernel
theorem d8 : decode yB 8 = .ok (.ireturn, 1) := by decide +kernel
def site : List Cond := []
def tab : Cond := tabOf yN yB 2 (some .byte) site
def P (d : Addr) (B : Cell) (args : Array Value) (s : State) : Prop := args = #[.ref d, .int (Int32.ofNat B.slots.size)] ∧ Arr .byte d B s
def E (r : Option Value) (s u : State) : Prop := XT.PureE (some (.int 0)) r s u
/-- an array as long as the number of chars: LATIN1 -/
theorem law (l : Launch) (d : Addr) (B : Cell) : Law l yN 2 2 0 0 yB 2 (some .byte) site (P d B) E [] 0 0 := by
  refine Law.of_walk (plainFor_of_name (by decide +kernel)) (by decide +kernel) (by decide +kernel) (by decide) (fun _ _ h => by rw [h.1]; rfl) (fun _ U U' hal hh h => ⟨h.1, h.2.mv hal hh⟩) (fun r U U' V V' h1 hal h2 h => XT.PureE.mv r U U' V V' h1 hal h2 h) ?_
  intro p e s m args below meth c s₁ X0 hexec hbytes hml hret hlk hnm hown hh0 W hP
  obtain ⟨rfl, hB⟩ := hP
  have hB0 := hB.mv X0.warmed.alike hh0
  have c1 : Steps p.tables e below (s₁.setTop (entryFrame m #[.ref d, .int (Int32.ofNat B.slots.size)] 2)) (s₁.setTop (mkF m 0 #[.val (.ref d), .val (.int (Int32.ofNat B.slots.size))] [])) := entry rfl
  have c2 : Steps p.tables e below (s₁.setTop (entryFrame m #[.ref d, .int (Int32.ofNat B.slots.size)] 2)) (s₁.setTop (mkF m 2 #[.val (.ref d), .val (.int (Int32.ofNat B.slots.size))] [.ref d, .int (Int32.ofNat B.slots.size)])) := c1.trans (by
    refine XS.iloadN X0.here hexec rfl (hb hbytes d0) rfl ?_
    refine XS.aloadN X0.here hexec rfl (hb hbytes d1) rfl rfl ?_
    exact Steps.refl _)
  have c3 : Steps p.tables e below (s₁.setTop (entryFrame m #[.ref d, .int (Int32.ofNat B.slots.size)] 2)) (s₁.setTop (mkF m 8 #[.val (.ref d), .val (.int (Int32.ofNat B.slots.size))] [.int (lo8 (ushr (Int32.ofNat B.slots.size - Int32.ofNat B.slots.size) 31))])) := c2.trans (by
    refine X0.alen hexec hB0 rfl rfl (hb hbytes d2) ?_
    refine XS.isub X0.here hexec rfl (hb hbytes d3) rfl ?_
    refine bipushV X0.here hexec rfl 31 (hb hbytes d4) (by decide) ?_
    refine iushr X0.here hexec rfl (hb hbytes d6) rfl ?_
    refine i2b X0.here hexec rfl (hb hbytes d7) rfl ?_
    exact Steps.refl _)
  have e0 : lo8 (ushr (Int32.ofNat B.slots.size - Int32.ofNat B.slots.size) 31) = 0 := by rw [Int32.sub_self]; decide
  rw [e0] at c3
  exact ⟨s₁, some (.int 0), _, _, _, X0, rfl, rfl, rfl, (fun h => by cases h), ⟨rfl, hh0⟩, fun fs hl => c3.trans (X0.ireturnOut hexec hret rfl (Or.inr (Or.inr (Or.inl rfl))) (hb hbytes d8) hl)⟩
end CodL
/-- the String at a is Latin-1 over a new byte[] (the heap's one new cell): the low bytes of the len chars of A from o on; every cell but a is kept -/
def Got (a : Addr) (D : Cell) (fV fC : Field) (A : Cell) (o len : Nat) (r : Option Value) (s u : State) : Prop := r = none ∧ ∃ D' V : Cell, Blank "java/lang/String" a D' u ∧ Same D D' [fV.slot, fC.slot] ∧ D'.slots[fV.slot]? = some (.ref s.heap.size) ∧ D'.slots[fC.slot]? = some (.int 0) ∧ Arr .byte s.heap.size V u ∧ V.vm = .none ∧ u.vm.findClass "[B" = some V.cls ∧ V.slots.size = len ∧ (∀ j, j < len → V.slots[j]? = some (.int (lo8 (cv A (o + j))))) ∧ (∀ (y : Addr) (c : Cell), y ≠ a → s.heap[y]? = some c → u.heap[y]? = some c) ∧ u.heap.size = s.heap.size + 1
theorem Got.mv {a : Addr} {D A : Cell} {fV fC : Field} {o len : Nat} : ∀ r (U U' V V' : State), U'.heap = U.heap → V.vm.Alike V'.vm → V'.heap = V.heap → Got a D fV fC A o len r U V → Got a D fV fC A o len r U' V' :=
  fun r U U' V V' h1 hal h2 ⟨e0, D', X, a1, a2, a3, a4, a5, a6, a7, a8, a9, a10, a11⟩ => ⟨e0, D', X, a1.mv hal h2, a2, by rw [h1]; exact a3, a4, by rw [h1]; exact a5.mv hal h2, a6, by rw [hal.findClass]; exact a7, a8, a9, by rw [h1, h2]; exact a10, by rw [h1, h2]; exact a11⟩
namespace New4
def yN : MethodName := ⟨"java/lang/String", "<init>", "([CIILjava/lang/Void;)V"⟩
abbrev yB : ByteArray := jdk_42_method_149_code
theorem d0 : decode yB 0 = .ok (.aload_n 0, 1) := by decide +kernel
theorem d1 : decode yB 1 = .ok (.invokespecial 1, 3) := by decide +kernel
theorem d4 : decode yB 4 = .ok (.iload_n 3, 1) := by decide +kernel
theorem d5 : decode yB 5 = .ok (.ifCond (.ne) 22, 3) := by decide +kernel
theorem d27 : decode yB 27 = .ok (.getstatic 38, 3) := by decide +kernel
theorem d30 : decode yB 30 = .ok (.ifCond (.eq) 28, 3) := by decide +kernel
theorem d33 : decode yB 33 = .ok (.aload_n 1, 1) := by decide +kernel
theorem d34 : decode yB 34 = .ok (.iload_n 2, 1) := by decide +kernel
theorem d35 : decode yB 35 = .ok (.iload_n 3, 1) := by decide +kernel
theorem d36 : decode yB 36 = .ok (.invokestatic 177, 3) := by decide +kernel
theorem d39 : decode yB 39 = .ok (.astore 5, 2) := by decide +kernel
theorem d41 : decode yB 41 = .ok (.aload_n 0, 1) := by decide +kernel
theorem d42 : decode yB 42 = .ok (.aload 5, 2) := by decide +kernel
theorem d44 : decode yB 44 = .ok (.iload_n 3, 1) := by decide +kernel
theorem d45 : decode yB 45 = .ok (.invokestatic 47, 3) := by decide +kernel
theorem d48 : decode yB 48 = .ok (.putfield 15, 3) := by decide +kernel
theorem d51 : decode yB 51 = .ok (.aload_n 0, 1) := by decide +kernel
theorem d52 : decode yB 52 = .ok (.aload 5, 2) := by decide +kernel
theorem d54 : decode yB 54 = .ok (.putfield 9, 3) := by decide +kernel
theorem d57 : decode yB 57 = .ok (.return_, 1) := by decide +kernel
def site : List Cond := [.fieldLink "java/lang/String" 38 "java/lang/String" "COMPACT_STRINGS" "Z", Cmp3.tab, CodL.tab, .laysFinal "java/lang/String" "java/lang/String" "value" "[B", .fieldLink "java/lang/String" 9 "java/lang/String" "value" "[B", .laysFinal "java/lang/String" "java/lang/String" "coder" "B", .fieldLink "java/lang/String" 15 "java/lang/String" "coder" "B"] ++ objW "java/lang/String" 1 ++ staticW "java/lang/String" 177 Cmp3.yN ++ staticW "java/lang/String" 47 CodL.yN
def tab : Cond := tabOf yN yB 6 none site
def P (a : Addr) (D : Cell) (fV fC : Field) (b : Addr) (A : Cell) (z : Int32) (o len : Nat) (args : Array Value) (s : State) : Prop := args = #[.ref a, .ref b, .int (Int32.ofNat o), .int (Int32.ofNat len), .null] ∧ Blank "java/lang/String" a D s ∧ Found "java/lang/String" "value" "[B" fV s ∧ Found "java/lang/String" "coder" "B" fC s ∧ Ch b A s ∧ StaticIs s "java/lang/String" "COMPACT_STRINGS" "Z" (.int z) ∧ ¬ z = 0 ∧ 0 < len ∧ o + len ≤ A.slots.size ∧ len ≤ 536870912 ∧ ∀ i, i < len → ¬ 255 < cv A (o + i)
def E (a : Addr) (D : Cell) (fV fC : Field) (A : Cell) (o len : Nat) (r : Option Value) (s u : State) : Prop := Got a D fV fC A o len r s u
/-- len > 0, no char of the range above 255: a Latin-1 String of their low bytes -/
theorem law (l : Launch) (a : Addr) (D : Cell) (fV fC : Field) (b : Addr) (A : Cell) (z : Int32) (o len : Nat) : Law l yN 5 4 2 35 yB 6 none site (P a D fV fC b A z o len) (E a D fV fC A o len) [⟨a, fC.slot⟩, ⟨a, fV.slot⟩] 1 len := by
  refine Law.of_walk (plainFor_of_name (by decide +kernel)) (by decide +kernel) (by decide +kernel) (by decide) (fun _ _ h => by rw [h.1]; rfl) (fun _ U U' hal hh h => ⟨h.1, h.2.1.mv hal hh, h.2.2.1.al hal, h.2.2.2.1.al hal, h.2.2.2.2.1.mv hal hh, h.2.2.2.2.2.1.there hal hh, h.2.2.2.2.2.2⟩) (fun r U U' V V' h1 hal h2 h => Got.mv r U U' V V' h1 hal h2 h) ?_
  intro p e s m args below meth c s₁ X0 hexec hbytes hml hret hlk hnm hown hh0 W hP
  obtain ⟨rfl, hB, f1, f2, hA, s1, hz, l0, l1, l2, hp⟩ := hP
  have a31 := hA.1.2.2.2
  have c1 : Steps p.tables e below (s₁.setTop (entryFrame m #[.ref a, .ref b, .int (Int32.ofNat o), .int (Int32.ofNat len), .null] 6)) (s₁.setTop (mkF m 0 #[.val (.ref a), .val (.ref b), .val (.int (Int32.ofNat o)), .val (.int (Int32.ofNat len)), .val .null, .unset] [])) := entry rfl
  have c2 : Steps p.tables e below (s₁.setTop (entryFrame m #[.ref a, .ref b, .int (Int32.ofNat o), .int (Int32.ofNat len), .null] 6)) (s₁.setTop (mkF m 1 #[.val (.ref a), .val (.ref b), .val (.int (Int32.ofNat o)), .val (.int (Int32.ofNat len)), .val .null, .unset] [.ref a])) := c1.trans (by
    refine XS.aloadN X0.here hexec rfl (hb hbytes d0) rfl rfl ?_
    exact Steps.refl _)
  obtain ⟨T3, X3, q3, st3⟩ := X0.oinit hexec hown (wks W (objW "java/lang/String" 1)) (g := (mkF m 1 #[.val (.ref a), .val (.ref b), .val (.int (Int32.ofNat o)), .val (.int (Int32.ofNat len)), .val .null, .unset] [.ref a])) rfl (by rw [hml]; rfl) (rest := []) rfl (hb hbytes d1) (W := 0) (by show 2 * 0 + 0 ≤ _; decide) (Nat.le_of_ble_eq_true rfl) (Nat.le_of_ble_eq_true rfl)
  have hh3 := q3.trans hh0
  have c4 : Steps p.tables e below (s₁.setTop (entryFrame m #[.ref a, .ref b, .int (Int32.ofNat o), .int (Int32.ofNat len), .null] 6)) (T3.setTop (mkF m 27 #[.val (.ref a), .val (.ref b), .val (.int (Int32.ofNat o)), .val (.int (Int32.ofNat len)), .val .null, .unset] [])) := (c2.trans (st3 _ (Steps.refl _))).trans (by
    refine XS.iloadN X3.here hexec rfl (hb hbytes d4) rfl ?_
    refine XS.ifYes X3.here hexec rfl (pc0 := 5) rfl (hb hbytes d5) rfl (i0_ne_t (nz32 (by omega) l0)) (by decide) rfl ?_
    exact Steps.refl _)
  obtain ⟨T5, X5, q5, st5⟩ := X3.sget hexec hown (wk W (.fieldLink "java/lang/String" 38 "java/lang/String" "COMPACT_STRINGS" "Z")) s1 (fun _ _ h => by rw [hh3]; exact h) (g := (mkF m 27 #[.val (.ref a), .val (.ref b), .val (.int (Int32.ofNat o)), .val (.int (Int32.ofNat len)), .val .null, .unset] [])) rfl (hb hbytes d27)
  have hh5 := q5.trans hh3
  have c6 : Steps p.tables e below (s₁.setTop (entryFrame m #[.ref a, .ref b, .int (Int32.ofNat o), .int (Int32.ofNat len), .null] 6)) (T5.setTop (mkF m 30 #[.val (.ref a), .val (.ref b), .val (.int (Int32.ofNat o)), .val (.int (Int32.ofNat len)), .val .null, .unset] [.int z])) := c4.trans (st5 _ (Steps.refl _))
  have c7 : Steps p.tables e below (s₁.setTop (entryFrame m #[.ref a, .ref b, .int (Int32.ofNat o), .int (Int32.ofNat len), .null] 6)) (T5.setTop (mkF m 36 #[.val (.ref a), .val (.ref b), .val (.int (Int32.ofNat o)), .val (.int (Int32.ofNat len)), .val .null, .unset] [.int (Int32.ofNat len), .int (Int32.ofNat o), .ref b])) := c6.trans (by
    refine XS.ifNo X5.here hexec rfl (hb hbytes d30) rfl (i0_eq_f hz) ?_
    refine XS.aloadN X5.here hexec rfl (hb hbytes d33) rfl rfl ?_
    refine XS.iloadN X5.here hexec rfl (hb hbytes d34) rfl ?_
    refine XS.iloadN X5.here hexec rfl (hb hbytes d35) rfl ?_
    exact Steps.refl _)
  obtain ⟨v8, T8, X8, E8, g8⟩ := X5.callS hexec (Cmp3.law l b A o len) hown (wks W (staticW "java/lang/String" 177 Cmp3.yN)) (wk W Cmp3.tab) (W := 0) (Nat.le_of_ble_eq_true rfl) (Nat.le_of_ble_eq_true rfl) (Nat.le_refl _) (by show 0 + len ≤ len; omega) (g := (mkF m 36 #[.val (.ref a), .val (.ref b), .val (.int (Int32.ofNat o)), .val (.int (Int32.ofNat len)), .val .null, .unset] [.int (Int32.ofNat len), .int (Int32.ofNat o), .ref b])) rfl (by rw [hml]; rfl) c7 (argsL := [.ref b, .int (Int32.ofNat o), .int (Int32.ofNat len)]) (rest := []) rfl rfl (by show 2 * 0 + 0 ≤ _; decide) (hb hbytes d36) (⟨rfl, hA.mv X5.warmed.alike hh5, l1, l2, hp⟩)
  obtain ⟨e8, z8⟩ := E8
  obtain ⟨rfl, N, n1, n2, n3, n4, n5, n6⟩ := NewArr.mv _ T5 s _ _ hh5.symm (Vm.Alike.refl _) rfl e8
  rw [hh5] at z8
  have hB1 := hB.keep X8.warmed.alike (n6 _ _ hB.1)
  have hne : s.heap.size ≠ a := (Nat.ne_of_lt (Array.getElem?_eq_some_iff.mp hB.1).1).symm
  have c9 : Steps p.tables e below (s₁.setTop (entryFrame m #[.ref a, .ref b, .int (Int32.ofNat o), .int (Int32.ofNat len), .null] 6)) (T8.setTop (mkF m 39 #[.val (.ref a), .val (.ref b), .val (.int (Int32.ofNat o)), .val (.int (Int32.ofNat len)), .val .null, .unset] [.ref s.heap.size])) := g8
  have c10 : Steps p.tables e below (s₁.setTop (entryFrame m #[.ref a, .ref b, .int (Int32.ofNat o), .int (Int32.ofNat len), .null] 6)) (T8.setTop (mkF m 45 #[.val (.ref a), .val (.ref b), .val (.int (Int32.ofNat o)), .val (.int (Int32.ofNat len)), .val .null, .val (.ref s.heap.size)] [.int (Int32.ofNat N.slots.size), .ref s.heap.size, .ref a])) := by
    have hc : Steps p.tables e below (s₁.setTop (entryFrame m #[.ref a, .ref b, .int (Int32.ofNat o), .int (Int32.ofNat len), .null] 6)) (T8.setTop (mkF m 45 #[.val (.ref a), .val (.ref b), .val (.int (Int32.ofNat o)), .val (.int (Int32.ofNat len)), .val .null, .val (.ref s.heap.size)] [.int (Int32.ofNat len), .ref s.heap.size, .ref a])) := c9.trans (by
      refine XS.astore X8.here hexec rfl (hb hbytes d39) rfl rfl rfl ?_
      refine XS.aloadN X8.here hexec rfl (hb hbytes d41) rfl rfl ?_
      refine XS.aload X8.here hexec rfl (hb hbytes d42) rfl rfl ?_
      refine XS.iloadN X8.here hexec rfl (hb hbytes d44) rfl ?_
      exact Steps.refl _)
    rw [n4]; exact hc
  obtain ⟨v11, T11, X11, E11, g11⟩ := X8.callS hexec (CodL.law l s.heap.size N) hown (wks W (staticW "java/lang/String" 47 CodL.yN)) (wk W CodL.tab) (W := 1) (Nat.le_of_ble_eq_true rfl) (Nat.le_of_ble_eq_true rfl) (Nat.le_refl _) (by show 0 + len + 0 ≤ len; omega) (g := (mkF m 45 #[.val (.ref a), .val (.ref b), .val (.int (Int32.ofNat o)), .val (.int (Int32.ofNat len)), .val .null, .val (.ref s.heap.size)] [.int (Int32.ofNat N.slots.size), .ref s.heap.size, .ref a])) rfl (by rw [hml]; rfl) c10 (argsL := [.ref s.heap.size, .int (Int32.ofNat N.slots.size)]) (rest := [.ref a]) rfl rfl (by show 2 * 0 + (1 + 0) ≤ _; decide) (hb hbytes d45) (⟨rfl, n1⟩)
  obtain ⟨rfl, q11⟩ := E11
  have hB11 := hB1.mv (X8.warmed.alike.symm.trans X11.warmed.alike) q11
  have c12 : Steps p.tables e below (s₁.setTop (entryFrame m #[.ref a, .ref b, .int (Int32.ofNat o), .int (Int32.ofNat len), .null] 6)) (T11.setTop (mkF m 48 #[.val (.ref a), .val (.ref b), .val (.int (Int32.ofNat o)), .val (.int (Int32.ofNat len)), .val .null, .val (.ref s.heap.size)] [.int 0, .ref a])) := g11
  obtain ⟨T13, X13, p13, bl13, sl13, st13⟩ := X11.finit hexec hown (wk W (.fieldLink "java/lang/String" 15 "java/lang/String" "coder" "B")) (Or.inr ⟨_, (wk W (.laysFinal "java/lang/String" "java/lang/String" "coder" "B"))⟩) (Or.inl ⟨rfl, hnm⟩) f2 (Or.inl rfl) hB11 (t := .byte) (by decide +kernel) rfl (g := (mkF m 48 #[.val (.ref a), .val (.ref b), .val (.int (Int32.ofNat o)), .val (.int (Int32.ofNat len)), .val .null, .val (.ref s.heap.size)] [.int 0, .ref a])) rfl (rest := []) rfl (hb hbytes d48)
  have c14 : Steps p.tables e below (s₁.setTop (entryFrame m #[.ref a, .ref b, .int (Int32.ofNat o), .int (Int32.ofNat len), .null] 6)) (T13.setTop (mkF m 54 #[.val (.ref a), .val (.ref b), .val (.int (Int32.ofNat o)), .val (.int (Int32.ofNat len)), .val .null, .val (.ref s.heap.size)] [.ref s.heap.size, .ref a])) := (c12.trans (st13 _ (Steps.refl _))).trans (by
    refine XS.aloadN X13.here hexec rfl (hb hbytes d51) rfl rfl ?_
    refine XS.aload X13.here hexec rfl (hb hbytes d52) rfl rfl ?_
    exact Steps.refl _)
  obtain ⟨T15, X15, p15, bl15, sl15, st15⟩ := X13.finit hexec hown (wk W (.fieldLink "java/lang/String" 9 "java/lang/String" "value" "[B")) (Or.inr ⟨_, (wk W (.laysFinal "java/lang/String" "java/lang/String" "value" "[B"))⟩) (Or.inl ⟨rfl, hnm⟩) f1 (Or.inl rfl) bl13 (t := (.array .byte)) (by decide +kernel) rfl (g := (mkF m 54 #[.val (.ref a), .val (.ref b), .val (.int (Int32.ofNat o)), .val (.int (Int32.ofNat len)), .val .null, .val (.ref s.heap.size)] [.ref s.heap.size, .ref a])) rfl (rest := []) rfl (hb hbytes d54)
  have c16 : Steps p.tables e below (s₁.setTop (entryFrame m #[.ref a, .ref b, .int (Int32.ofNat o), .int (Int32.ofNat len), .null] 6)) (T15.setTop (mkF m 57 #[.val (.ref a), .val (.ref b), .val (.int (Int32.ofNat o)), .val (.int (Int32.ofNat len)), .val .null, .val (.ref s.heap.size)] [])) := c14.trans (st15 _ (Steps.refl _))
  have ap := apart (Or.inr ⟨_, (wk W (.laysFinal "java/lang/String" "java/lang/String" "value" "[B"))⟩) (Or.inr ⟨_, (wk W (.laysFinal "java/lang/String" "java/lang/String" "coder" "B"))⟩) f1 f2 (t₁ := .array .byte) (t₂ := .byte) (by decide +kernel) (by decide +kernel) (by decide)
  have al := X8.warmed.alike.symm.trans X15.warmed.alike
  have n7 : T11.heap[s.heap.size]? = some N := by rw [q11]; exact n1.1
  exact ⟨T15, none, _, _, _, X15, by simp, rfl, by omega, (fun _ => rfl), ⟨rfl, _, N, bl15, ((Same.refl D _).set _ (by simp)).set _ (by simp), sl15, (Cell.slots_setSlot_ne _ ap).trans sl13, n1.keep al (p15.other hne (p13.other hne n7)), n2, by rw [al.findClass]; exact n3, n4, n5, fun y c h1 h2 => p15.other h1 (p13.other h1 (by rw [q11]; exact n6 y c h2)), by rw [p15.2.2, p13.2.2, q11]; exact z8⟩, fun fs hl => c16.trans (X15.returnOut hexec hret (hb hbytes d57) hl)⟩
end New4
namespace New1
def yN : MethodName := ⟨"java/lang/String", "<init>", "([C)V"⟩
abbrev yB : ByteArray := jdk_42_method_3_code
theorem d0 : decode yB 0 = .ok (.aload_n 0, 1) := by decide +kernel
theorem d1 : decode yB 1 = .ok (.aload_n 1, 1) := by decide +kernel
theorem d2 : decode yB 2 = .ok (.iconst 0, 1) := by decide +kernel
theorem d3 : decode yB 3 = .ok (.aload_n 1, 1) := by decide +kernel
theorem d4 : decode yB 4 = .ok (.arraylength, 1) := by decide +kernel
theorem d5 : decode yB 5 = .ok (.aconst_null, 1) := by decide +kernel
theorem d6 : decode yB 6 = .ok (.invokespecial 27, 3) := by decide +kernel
theorem d9 : decode yB 9 = .ok (.return_, 1) := by decide +kernel
def site : List Cond := [New4.tab] ++ initW "java/lang/String" 27 New4.yN
def tab : Cond := tabOf yN yB 2 none site
def P (a : Addr) (D : Cell) (fV fC : Field) (b : Addr) (A : Cell) (z : Int32) (args : Array Value) (s : State) : Prop := args = #[.ref a, .ref b] ∧ Blank "java/lang/String" a D s ∧ Found "java/lang/String" "value" "[B" fV s ∧ Found "java/lang/String" "coder" "B" fC s ∧ Ch b A s ∧ StaticIs s "java/lang/String" "COMPACT_STRINGS" "Z" (.int z) ∧ ¬ z = 0 ∧ 0 < A.slots.size ∧ A.slots.size ≤ 536870912 ∧ ∀ i, i < A.slots.size → ¬ 255 < cv A i
def E (a : Addr) (D : Cell) (fV fC : Field) (A : Cell) (r : Option Value) (s u : State) : Prop := Got a D fV fC A 0 A.slots.size r s u
/-- new String(chars), not empty, no char above 255: a Latin-1 String of their low bytes -/
theorem law (l : Launch) (a : Addr) (D : Cell) (fV fC : Field) (b : Addr) (A : Cell) (z : Int32) : Law l yN 2 1 3 52 yB 2 none site (P a D fV fC b A z) (E a D fV fC A) [⟨a, fC.slot⟩, ⟨a, fV.slot⟩] 1 A.slots.size := by
  refine Law.of_walk (plainFor_of_name (by decide +kernel)) (by decide +kernel) (by decide +kernel) (by decide) (fun _ _ h => by rw [h.1]; rfl) (fun _ U U' hal hh h => ⟨h.1, h.2.1.mv hal hh, h.2.2.1.al hal, h.2.2.2.1.al hal, h.2.2.2.2.1.mv hal hh, h.2.2.2.2.2.1.there hal hh, h.2.2.2.2.2.2⟩) (fun r U U' V V' h1 hal h2 h => Got.mv r U U' V V' h1 hal h2 h) ?_
  intro p e s m args below meth c s₁ X0 hexec hbytes hml hret hlk hnm hown hh0 W hP
  obtain ⟨rfl, hB, f1, f2, hA, s1, hz, l0, l2, hp⟩ := hP
  have c1 : Steps p.tables e below (s₁.setTop (entryFrame m #[.ref a, .ref b] 2)) (s₁.setTop (mkF m 0 #[.val (.ref a), .val (.ref b)] [])) := entry rfl
  have c2 : Steps p.tables e below (s₁.setTop (entryFrame m #[.ref a, .ref b] 2)) (s₁.setTop (mkF m 6 #[.val (.ref a), .val (.ref b)] [.null, .int (Int32.ofNat A.slots.size), .int 0, .ref b, .ref a])) := c1.trans (by
    refine XS.aloadN X0.here hexec rfl (hb hbytes d0) rfl rfl ?_
    refine XS.aloadN X0.here hexec rfl (hb hbytes d1) rfl rfl ?_
    refine iconstV X0.here hexec rfl 0 (hb hbytes d2) (by decide) ?_
    refine XS.aloadN X0.here hexec rfl (hb hbytes d3) rfl rfl ?_
    refine X0.alen hexec (hA.1.mv X0.warmed.alike hh0) rfl rfl (hb hbytes d4) ?_
    refine XS.aconstNull X0.here hexec rfl (hb hbytes d5) ?_
    exact Steps.refl _)
  obtain ⟨v3, T3, X3, E3, g3⟩ := X0.callN hexec (New4.law l a D fV fC b A z 0 A.slots.size) rfl hown (wks W (initW "java/lang/String" 27 New4.yN)) (W New4.tab (by simp only [site, List.mem_cons, List.mem_append, true_or, or_true])) (W := 0) (Nat.le_of_ble_eq_true rfl) (Nat.le_of_ble_eq_true rfl) (Nat.le_refl _) (by show 0 + A.slots.size ≤ A.slots.size; omega) (g := (mkF m 6 #[.val (.ref a), .val (.ref b)] [.null, .int (Int32.ofNat A.slots.size), .int (Int32.ofNat 0), .ref b, .ref a])) rfl (by rw [hml]; rfl) c2 (argsL := [.ref b, .int (Int32.ofNat 0), .int (Int32.ofNat A.slots.size), .null]) (rest := []) rfl rfl (by show 2 * 0 + 0 ≤ _; decide) (hb hbytes d6) (⟨rfl, hB.mv X0.warmed.alike hh0, f1.al X0.warmed.alike, f2.al X0.warmed.alike, hA.mv X0.warmed.alike hh0, s1.there X0.warmed.alike hh0, hz, l0, by omega, l2, fun i hi => by rw [Nat.zero_add]; exact hp i hi⟩)
  have e0 := Got.mv _ s₁ s _ _ hh0.symm (Vm.Alike.refl _) rfl E3
  obtain rfl := e0.1
  have c4 : Steps p.tables e below (s₁.setTop (entryFrame m #[.ref a, .ref b] 2)) (T3.setTop (mkF m 9 #[.val (.ref a), .val (.ref b)] [])) := g3
  exact ⟨T3, none, _, _, _, X3, by simp, rfl, by omega, (fun _ => rfl), e0, fun fs hl => c4.trans (X3.returnOut hexec hret (hb hbytes d9) hl)⟩
theorem pays {l : Launch} {R : Room} {p : Program} {e : Env} {below : List Frame} {s : State} {sargs : Array Value} {len W : Nat} (a : Addr) (D : Cell) (fV fC : Field) (b : Addr) (A : Cell) (z : Int32) (htab : tab.before sargs s = true) (hfr : 4 ≤ R.frames) (hlo : W + 65 ≤ R.locals) :
    Back l R p e below s sargs yN len W (fun A₁ a₁ => A₁.cells + 1 ≤ R.cells ∧ A₁.slots + A.slots.size ≤ R.slots ∧ P a D fV fC b A z a₁ A₁.U) (fun A₁ _ v₁ B₁ => E a D fV fC A v₁ A₁.U B₁.U ∧ B₁.locs = A₁.locs ++ [⟨a, fC.slot⟩, ⟨a, fV.slot⟩] ∧ B₁.cells = A₁.cells + 1 ∧ B₁.slots = A₁.slots + A.slots.size) :=
  (law l a D fV fC b A z).pays htab hfr (by omega)
end New1
/-- the byte, read back as charAt reads it, is the char -/
theorem lo8_mask {x : Int32} (h0 : ¬ x < 0) (h1 : ¬ 255 < x) : lo8 x &&& 255 = x := by
  have t : ∀ k : Fin 256, lo8 (Int32.ofNat k.val) &&& 255 = Int32.ofNat k.val := by decide +kernel
  rw [Int32.lt_iff_toInt_lt] at h0 h1
  have e0 : (0 : Int32).toInt = 0 := rfl
  have e1 : (255 : Int32).toInt = 255 := rfl
  obtain ⟨k, hk⟩ : ∃ k : Nat, x.toInt = k := ⟨x.toInt.toNat, by omega⟩
  have hx : x = Int32.ofNat k := Int32.toInt_inj.mp (by rw [hk, Int32.toInt_ofNat_small (by omega)])
  rw [hx]
  exact t ⟨k, by omega⟩
end StrChars
namespace StrChars.Road
open Jvm Sem ClassFile Op Lib Jvm.Stand Jvm.Free Jvm.Free.XT
open Jvm.Lib.Cold (StaticIs)
abbrev ST : String := "java/lang/String"
/-- every table word that New1's law asks, flat -/
abbrev words : List Jvm.Cond := [.code New1.yN New1.yB 2 none, .initialized ST, .methodLink ST 27 New4.yN, .instanceMethod New4.yN,
  .code New4.yN New4.yB 6 none, .fieldLink ST 38 ST "COMPACT_STRINGS" "Z", .laysFinal ST ST "value" "[B", .fieldLink ST 9 ST "value" "[B", .laysFinal ST ST "coder" "B", .fieldLink ST 15 ST "coder" "B",
  .methodLink ST 1 Lib.objectInit, .instanceMethod Lib.objectInit, .code Lib.objectInit ⟨#[0xb1]⟩ 1 none, .methodLink ST 177 Cmp3.yN, .static Cmp3.yN, .methodLink ST 47 CodL.yN, .static CodL.yN,
  .code Cmp3.yN Cmp3.yB 6 (some (.array .byte)), .initialized U16, .arrayClass .byte, .methodLink U16 115 Cmp5.yN, .static Cmp5.yN, .code Cmp5.yN Cmp5.yB 7 (some .int), .code CodL.yN CodL.yB 2 (some .byte)]
theorem tab_of {a : Array Value} {s : State} (h : ∀ w ∈ words, w.before a s = true) : New1.tab.before a s = true := by
  have h5 : Cmp5.tab.before a s = true := unparts (wk h (.code Cmp5.yN Cmp5.yB 7 (some .int))) (wks h (.initialized Cmp5.yN.cls :: Cmp5.site))
  have hc : CodL.tab.before a s = true := unparts (wk h (.code CodL.yN CodL.yB 2 (some .byte))) (wks h (.initialized CodL.yN.cls :: CodL.site))
  have q5 : ∀ w ∈ Cmp5.tab :: words, w.before a s = true := fun w hw => (List.mem_cons.mp hw).elim (fun e => e ▸ h5) (h w)
  have h3 : Cmp3.tab.before a s = true := unparts (wk q5 (.code Cmp3.yN Cmp3.yB 6 (some (.array .byte)))) (wks q5 (.initialized Cmp3.yN.cls :: Cmp3.site))
  have q3 : ∀ w ∈ Cmp3.tab :: CodL.tab :: words, w.before a s = true := fun w hw => (List.mem_cons.mp hw).elim (fun e => e ▸ h3) fun hw => (List.mem_cons.mp hw).elim (fun e => e ▸ hc) (h w)
  have h4 : New4.tab.before a s = true := unparts (wk q3 (.code New4.yN New4.yB 6 none)) (wks q3 (.initialized New4.yN.cls :: New4.site))
  have q4 : ∀ w ∈ New4.tab :: words, w.before a s = true := fun w hw => (List.mem_cons.mp hw).elim (fun e => e ▸ h4) (h w)
  exact unparts (wk q4 (.code New1.yN New1.yB 2 none)) (wks q4 (.initialized New1.yN.cls :: New1.site))
/-- the words ride from the start Z to the walk's own state -/
theorem moved {Z s : State} {a0 args : Array Value} (hZ : Z.Warmed39 s.vm) (hw : ∀ d ∈ words, d.before a0 Z = true) : ∀ d ∈ words, d.before args s = true := fun d hd => by
  have q := hw d hd
  have t : ∀ d ∈ words, d = .arrayClass .byte ∨ (d.onTables && d.keepsFace) = true := by decide +kernel
  rcases t d hd with rfl | t
  · exact RoadKit.mvA hZ q
  · exact RoadKit.mv hZ q t
/-- WHAT COMES BACK, over the tables of the start Z: h the heap at the call, h' behind it -/
def Q (Z : State) (x : Addr) (A : Cell) (h : Heap) (v : Option Value) (h' : Heap) (L : List Loc) : Prop := v = none ∧ (∀ y ∈ L, y.base = x) ∧ RoadKit.Keep h h' [x] ∧ h'.size = h.size + 1 ∧ RoadKit.Exa Z h' x ST ∧ RoadKit.Fld Z h' x ST "value" "[B" (.ref h.size) ∧ RoadKit.Fld Z h' x ST "coder" "B" (.int 0) ∧
  (∃ V : Cell, RoadKit.Arr Z h' h.size V .byte ∧ V.vm = .none ∧ Z.vm.findClass "[B" = some V.cls ∧ V.slots.size = A.slots.size ∧ ∀ j, j < A.slots.size → V.slots[j]? = some (.int (lo8 (cv A j)))) ∧
  ∀ (O n d : String) (w : Value), RoadKit.Fld Z h x O n d w → RoadKit.slotOf Z O n d ≠ RoadKit.slotOf Z ST "value" "[B" → RoadKit.slotOf Z O n d ≠ RoadKit.slotOf Z ST "coder" "B" → RoadKit.Fld Z h' x O n d w
/-- **new String(chars) AT A CALL, IN THE ROAD'S FORM**: for specialBack behind newO: x the fresh String, b the char[] with the cell A -/
theorem back {p : Program} {l : Launch} {e : Env} {R : Room} {s : State} {args : Array Value} {below : List Frame} {len W : Nat} {Z : State} {a0 : Array Value} {h : Heap} (hZ : Z.Warmed39 s.vm) (hw : ∀ d ∈ words, d.before a0 Z = true) {kI : Nat} (wi : (Jvm.Cond.instantiable ST kI).before a0 Z = true)
    {x b : Addr} {A : Cell} {z : Int32} {v0 c0 : Value} (E : RoadKit.Exa Z h x ST) (V : RoadKit.Fld Z h x ST "value" "[B" v0) (C : RoadKit.Fld Z h x ST "coder" "B" c0) (K : RoadKit.Arr Z h b A .char) (hty : Typed .char A) (S : RoadKit.Sta Z h ST "COMPACT_STRINGS" "Z" (.int z)) (hz : ¬ z = 0)
    (l0 : 0 < A.slots.size) (l2 : A.slots.size ≤ 536870912) (hp : ∀ i, i < A.slots.size → ¬ 255 < cv A i) (hfr : 4 ≤ R.frames) (hlo : W + 65 ≤ R.locals) :
    Back l R p e below s args New1.yN len W (fun P a => a = #[.ref x, .ref b] ∧ P.U.heap = h ∧ P.cells + 1 ≤ R.cells ∧ P.slots + A.slots.size ≤ R.slots)
      (fun P _ v B => ∃ L, Q Z x A h v B.U.heap L ∧ B.locs = P.locs ++ L ∧ B.cells = P.cells + 1 ∧ B.slots = P.slots + A.slots.size) := by
  intro m meth c P g ig mk a X hg hsize hdg hW hn hp'
  obtain ⟨rfl, rfl, r1, r2⟩ := hp'
  have al : Z.vm.Alike P.U.vm := hZ.alike.trans X.warmed.alike
  obtain ⟨D, cfV, kV, iV, fV, hD, gV, stV, knV, obV, asV, slV⟩ := id V
  obtain ⟨D', cfC, kC, iC, fC, hD', gC, stC, -, -, asC, slC⟩ := id C
  cases hD.symm.trans hD'
  obtain ⟨D2, kD, e1, e2, e3, e4, e5⟩ := id E
  cases hD.symm.trans e1
  obtain ⟨c2, k2, i1, i2, i3, -⟩ := Cond.instantiable_spec wi
  cases e2.symm.trans i1
  cases e3.symm.trans i2
  obtain ⟨kU, u1, u2⟩ := al.2.2 _ _ e3
  have hB : Blank ST x D P.U := ⟨hD, ⟨knV, fun q hq => by rw [hq] at obV; cases obV⟩, by rw [al.findClass]; exact e2, kU, u1, by rw [u2]; exact i3, by rw [u2]; exact e5 i3⟩
  have F1 : Found ST "value" "[B" fV P.U := ⟨SBG.found_only al ⟨cfV, kV, iV, gV⟩, stV⟩
  have F2 : Found ST "coder" "B" fC P.U := ⟨SBG.found_only al ⟨cfC, kC, iC, gC⟩, stC⟩
  have hA : Ch b A P.U := ⟨⟨K.1, State.isArrayOf_alike al K.2.1, K.2.2, by omega⟩, hty⟩
  have hS : StaticIs P.U ST "COMPACT_STRINGS" "Z" (.int z) := by
    obtain ⟨cfS, iS, kS, fS, st, cS, t1, t2, t3, t4, t5, t6, t7⟩ := S
    exact StaticIs.there (s := { Z with heap := P.U.heap }) ⟨cfS, iS, kS, fS, st, cS, t1, t2, t3, t4, t5, (fun q => by rw [q] at t6; cases t6), t7⟩ al rfl
  obtain ⟨v, B, X', ⟨⟨hv, E', V', q1, q2, q3, q4, q5, q6, q7, q8, q9, q10, q11⟩, hl, hc, hs⟩, st⟩ := New1.pays x D fV fC b A z (tab_of (moved hZ hw)) hfr hlo m meth c P g ig mk _ X hg hsize hdg hW hn ⟨r1, r2, rfl, hB, F1, F2, hA, hS, hz, l0, l2, hp⟩
  have al' : Z.vm.Alike B.U.vm := hZ.alike.trans X'.warmed.alike
  have hsz : E'.slots.size = D.slots.size := by
    obtain ⟨-, -, -, kB, w1, w2, w3⟩ := q1
    obtain ⟨kB', y1, y2⟩ := al'.2.2 _ _ e3
    rw [q2.2.1] at w1
    cases w1.symm.trans y1
    rw [w3, e5 i3, y2]
  refine ⟨v, B, X', ⟨_, ⟨hv, ?_, ⟨by omega, fun y cy hy hn' => q10 y cy (by simpa using hn') hy, fun y cy hy => ?_⟩, q11, ⟨E', _, q1.1, by rw [q2.2.1]; exact e2, by rw [q2.2.1]; exact e3, by rw [q2.1]; exact obV, fun _ => by rw [hsz]; exact e5 i3⟩,
    ⟨E', cfV, kV, iV, fV, q1.1, gV, stV, by rw [q2.1]; exact knV, by rw [q2.1]; exact obV, by rw [q2.2.1]; exact asV, q3⟩, ⟨E', cfC, kC, iC, fC, q1.1, gC, stC, by rw [q2.1]; exact knV, by rw [q2.1]; exact obV, by rw [q2.2.1]; exact asC, q4⟩,
    ⟨V', ⟨q5.1, State.isArrayOf_alike al'.symm q5.2.1, q5.2.2.1⟩, q6, by rw [← al'.findClass]; exact q7, q8, fun j hj => by have := q9 j hj; rwa [Nat.zero_add] at this⟩, fun O n d w F n1 n2 => ?_⟩, hl, hc, hs⟩, st⟩
  · intro y hy
    simp only [List.mem_cons, List.not_mem_nil, or_false] at hy
    rcases hy with rfl | rfl <;> rfl
  · by_cases q : y = x
    · subst q
      cases hD.symm.trans hy
      exact ⟨E', q1.1, q2.2.1, q2.1, hsz⟩
    · exact ⟨cy, q10 y cy q hy, rfl, rfl, rfl⟩
  · obtain ⟨D3, cf, k, i, f, g1, g2, g3, g4, g5, g6, g7⟩ := F
    cases hD.symm.trans g1
    simp only [RoadKit.slotOf, g2, gV, gC, Option.map_some, Option.getD_some] at n1 n2
    exact ⟨E', cf, k, i, f, q1.1, g2, g3, by rw [q2.1]; exact g4, by rw [q2.1]; exact g5, by rw [q2.2.1]; exact g6, by rw [q2.2.2 f.slot (by simp [n1, n2])]; exact g7⟩
end StrChars.Road
namespace StrChars.Road
open Jvm Sem ClassFile Op Lib Jvm.Stand Jvm.Free Jvm.Free.XT
/-- WHAT COMES BACK, the byte[] as a list of values -/
def QA (Z : State) (x : Addr) (zn : Int32) (cs : List Int32) (h : Heap) (v : Option Value) (h' : Heap) (L : List Loc) : Prop := v = none ∧ (∀ y ∈ L, y.base = x) ∧ RoadKit.Keep h h' [x] ∧ h'.size = h.size + 1 ∧ RoadKit.Exa Z h' x ST ∧ RoadKit.Fld Z h' x ST "value" "[B" (.ref h.size) ∧ RoadKit.Fld Z h' x ST "coder" "B" (.int 0) ∧
  (∃ kb, Z.vm.findClass "[B" = some kb ∧ RoadKit.Arv Z h' h.size kb .byte zn (cs.map fun c => .int (lo8 c)) (.int 0)) ∧
  ∀ (O n d : String) (w : Value), RoadKit.Fld Z h x O n d w → RoadKit.slotOf Z O n d ≠ RoadKit.slotOf Z ST "value" "[B" → RoadKit.slotOf Z O n d ≠ RoadKit.slotOf Z ST "coder" "B" → RoadKit.Fld Z h' x O n d w
/-- **new String(chars) AT A CALL, THE ARRAYS AS LISTS**: the char[] at b holds cs, not empty, no char above 255 -/
theorem backArv {p : Program} {l : Launch} {e : Env} {R : Room} {s : State} {args : Array Value} {below : List Frame} {len W : Nat} {Z : State} {a0 : Array Value} {h : Heap} (hZ : Z.Warmed39 s.vm) (hw : ∀ d ∈ words, d.before a0 Z = true) {kI : Nat} (wi : (Jvm.Cond.instantiable ST kI).before a0 Z = true)
    {x b : Addr} {k : ClassId} {zn z : Int32} {cs : List Int32} {dv v0 c0 : Value} (E : RoadKit.Exa Z h x ST) (V : RoadKit.Fld Z h x ST "value" "[B" v0) (C : RoadKit.Fld Z h x ST "coder" "B" c0) (K : RoadKit.Arv Z h b k .char zn (cs.map Value.int) dv) (S : RoadKit.Sta Z h ST "COMPACT_STRINGS" "Z" (.int z)) (hz : ¬ z = 0)
    (hlen : zn.toNatClampNeg = cs.length) (h0 : 0 < cs.length) (hbig : cs.length ≤ 536870912) (hall : ∀ c ∈ cs, ¬ 255 < c) (hfr : 4 ≤ R.frames) (hlo : W + 65 ≤ R.locals) :
    Back l R p e below s args New1.yN len W (fun P a => a = #[.ref x, .ref b] ∧ P.U.heap = h ∧ P.cells + 1 ≤ R.cells ∧ P.slots + cs.length ≤ R.slots)
      (fun P _ v B => ∃ L, QA Z x zn cs h v B.U.heap L ∧ B.locs = P.locs ++ L ∧ B.cells = P.cells + 1 ∧ B.slots = P.slots + cs.length) := by
  obtain ⟨A, K1, K2, K3, K4, K5, K6⟩ := K
  have e : A.slots.size = cs.length := K3.trans hlen
  have hat : ∀ (i : Nat) (hi : i < cs.length), A.slots[i]? = some (.int cs[i]) := fun i hi => by rw [K5 i (by omega)]; simp [List.getD_eq_getElem?_getD, hi]
  have hcv : ∀ (i : Nat) (hi : i < cs.length), cv A i = cs[i] := fun i hi => by unfold cv; rw [hat i hi]
  have hty : Typed .char A := fun i v hv => by
    have hi : i < A.slots.size := (Array.getElem?_eq_some_iff.mp hv).1
    have q := K5 i hi
    rw [hv] at q
    rw [Option.some.inj q]
    exact K6 i hi
  refine Back.mono (back hZ hw wi E V C K1 hty S hz (by omega) (by omega) (fun i hi => by rw [hcv i (by omega)]; exact hall _ (List.getElem_mem _)) hfr hlo) (fun P a hp => ⟨hp.1, hp.2.1, hp.2.2.1, by rw [e]; exact hp.2.2.2⟩) (fun P a v B hp hq => ?_)
  obtain ⟨L, ⟨q1, q2, q3, q4, q5, q6, q7, ⟨V', v1, v2, v3, v4, v5⟩, q9⟩, hl, hc, hs⟩ := hq
  refine ⟨L, ⟨q1, q2, q3, q4, q5, q6, q7, ⟨V'.cls, v3, V', v1, rfl, by rw [v4, e, hlen], K4, fun i hi => ?_, fun i hi => ?_⟩, q9⟩, hl, hc, by rw [hs, e]⟩
  · have hi' : i < cs.length := by omega
    rw [v5 i (by omega), hcv i hi']; simp [List.getD_eq_getElem?_getD, hi']
  · have hi' : i < cs.length := by omega
    simp only [List.getD_eq_getElem?_getD, List.getElem?_map, List.getElem?_eq_getElem hi', Option.map_some, Option.getD_some]
    exact fits_lo8 _
end StrChars.Road
namespace StrChars.Road
open Jvm Sem ClassFile Op Lib Jvm.Stand Jvm.Free Jvm.Free.XT
/-- WHAT COMES BACK, in the writer's own shape -/
def QV (Z : State) (x : Addr) (N : Int32) (bs : List Int32) (h : Heap) (n0 : Nat) (v : Option Value) (h' : Heap) (L : List Loc) : Prop := v = none ∧ RoadKit.Fr n0 L ∧ RoadKit.Keep h h' [x] ∧ RoadKit.Exa Z h' x ST ∧ RoadKit.Fld Z h' x ST "coder" "B" (.int 0) ∧
  ∃ (t : Addr) (kb : ClassId), n0 ≤ t ∧ h.size ≤ t ∧ ¬ t = x ∧ RoadKit.Fld Z h' x ST "value" "[B" (.ref t) ∧ RoadKit.Arv Z h' t kb .byte N (bs.map Value.int) (.int 0)
/-- **new String(chars) AT A CALL, FOR THE WRITER**: a char[] of n known ints, each 0 to 255 -/
theorem backV {p : Program} {l : Launch} {e : Env} {R : Room} {s : State} {args : Array Value} {below : List Frame} {len W : Nat} {Z : State} {a0 : Array Value} {h : Heap} (hZ : Z.Warmed39 s.vm) (hw : ∀ d ∈ words, d.before a0 Z = true) {kI : Nat} (wi : (Jvm.Cond.instantiable ST kI).before a0 Z = true)
    {x b : Addr} {kC : ClassId} {cs bs : List Int32} {d v0 c0 : Value} {z N : Int32} {n n0 : Nat} (hx0 : n0 ≤ x) (hh0 : n0 ≤ h.size) (E : RoadKit.Exa Z h x ST) (V : RoadKit.Fld Z h x ST "value" "[B" v0) (C : RoadKit.Fld Z h x ST "coder" "B" c0) (K : RoadKit.Arv Z h b kC .char N (cs.map Value.int) d) (S : RoadKit.Sta Z h ST "COMPACT_STRINGS" "Z" (.int z)) (hz : ¬ z = 0)
    (hn : cs.length = n) (hN : N = Int32.ofNat n) (l0 : 0 < n) (l2 : n ≤ 4000) (hp : ∀ c ∈ cs, ¬ c < 0 ∧ ¬ (255 : Int32) < c) (hb : bs = cs.map (fun c => c.toInt8.toInt32)) (hfr : 4 ≤ R.frames) (hlo : W + 65 ≤ R.locals) :
    Back l R p e below s args (⟨"java/lang/String", "<init>", "([C)V"⟩ : MethodName) len W (fun P a => a = #[.ref x, .ref b] ∧ P.U.heap = h ∧ P.cells + 1 ≤ R.cells ∧ P.slots + n ≤ R.slots)
      (fun P _ v B => ∃ L, QV Z x N bs h n0 v B.U.heap L ∧ B.locs = P.locs ++ L ∧ B.cells = P.cells + 1 ∧ B.slots = P.slots + n) := by
  subst hn hN hb
  refine Back.mono (backArv hZ hw wi E V C K S hz (n32 (by omega)) l0 (by omega) (fun c hc => (hp c hc).2) hfr hlo) (fun P a hp => hp) (fun P a v B hp hq => ?_)
  obtain ⟨L, ⟨q1, q2, q3, q4, q5, q6, q7, ⟨kb, v1, v2⟩, q9⟩, hl, hc, hs⟩ := hq
  exact ⟨L, ⟨q1, fun y hy => by rw [q2 y hy]; exact hx0, q3, q5, q7, h.size, kb, hh0, Nat.le_refl _, Nat.ne_of_gt E.lt, q6, by rw [List.map_map]; exact v2⟩, hl, hc, hs⟩
end StrChars.Road
namespace StrChars
open Jvm Sem ClassFile Op Lib Jvm.Stand Jvm.Free.XT Jvm.Free.ALB Jvm.Free.JM Jvm.Free
open Jvm.Lib.Cold (StaticIs)
def hi8 (x : Int32) : Int32 := lo8 (x >>> ((8 : Int32) &&& 31))
/-- what StringUTF16.getChar makes of two bytes -/
def pairCh (u v : Int32) : Int32 := (((u &&& 255) <<< ((0 : Int32) &&& 31)) ||| ((v &&& 255) <<< ((8 : Int32) &&& 31))).toUInt32.toUInt16.toUInt32.toInt32
theorem lo8_and (x : Int32) : (lo8 x &&& 255).toBitVec.toNat = x.toBitVec.toNat % 256 := by
  have h : (lo8 x).toBitVec = (x.toBitVec.signExtend 8).signExtend 32 := by rw [lo8, Int8.toBitVec_toInt32, Int32.toBitVec_toInt8]
  rw [Int32.toBitVec_and, BitVec.toNat_and, h]
  have e : ((x.toBitVec.signExtend 8).signExtend 32).toNat % 256 = x.toBitVec.toNat % 256 := by
    rw [BitVec.toNat_signExtend]
    have hlt := x.toBitVec.isLt
    simp only [BitVec.toNat_setWidth, BitVec.toNat_signExtend]
    split <;> split <;> omega
  rw [← e]
  exact Nat.and_two_pow_sub_one_eq_mod _ 8
theorem pair_says {c : Int32} (h0 : ¬ c < 0) (h1 : ¬ 65535 < c) : pairCh (lo8 c) (hi8 c) = c := by
  rw [Int32.lt_iff_toInt_lt] at h0 h1
  have e0 : (0 : Int32).toInt = 0 := rfl
  have e1 : (65535 : Int32).toInt = 65535 := rfl
  have hc : c.toInt = c.toBitVec.toNat := by
    have := c.toBitVec.isLt
    have e : c.toInt = c.toBitVec.toInt := rfl
    rw [e] at h0 h1
    rw [e]
    rw [BitVec.toInt_eq_toNat_cond] at h0 h1 ⊢
    split at h0 <;> split <;> omega
  have hn : c.toBitVec.toNat < 65536 := by omega
  have a1 := lo8_and c
  have a2 : (hi8 c &&& 255).toBitVec.toNat = c.toBitVec.toNat / 256 := by
    rw [hi8, lo8_and]
    have e : ((8 : Int32) &&& 31) = 8 := by decide
    rw [e, Int32.toBitVec_shiftRight]
    have e2 : ((8 : Int32).toBitVec.smod 32) = 8#32 := by decide
    rw [e2, BitVec.sshiftRight_eq', BitVec.toNat_sshiftRight_of_msb_false (by rw [BitVec.msb_eq_false_iff_two_mul_lt]; omega)]
    show c.toBitVec.toNat >>> 8 % 256 = _
    rw [Nat.shiftRight_eq_div_pow]
    omega
  unfold pairCh
  apply Int32.toBitVec_inj.mp
  apply BitVec.eq_of_toNat_eq
  have f0 : ((0 : Int32) &&& 31) = 0 := by decide
  have f8 : ((8 : Int32) &&& 31) = 8 := by decide
  rw [f0, f8]
  have g : (((lo8 c &&& 255) <<< (0 : Int32)) ||| ((hi8 c &&& 255) <<< (8 : Int32))).toBitVec.toNat = c.toBitVec.toNat := by
    rw [Int32.toBitVec_or, Int32.toBitVec_shiftLeft, Int32.toBitVec_shiftLeft]
    have s0 : ((0 : Int32).toBitVec.smod 32) = 0#32 := by decide
    have s8 : ((8 : Int32).toBitVec.smod 32) = 8#32 := by decide
    rw [s0, s8, BitVec.toNat_or]
    simp only [BitVec.shiftLeft_eq', BitVec.toNat_shiftLeft, a1, a2]
    show (c.toBitVec.toNat % 256) <<< 0 % 2 ^ 32 ||| (c.toBitVec.toNat / 256) <<< 8 % 2 ^ 32 = _
    rw [Nat.shiftLeft_zero, Nat.mod_eq_of_lt (show c.toBitVec.toNat % 256 < 2 ^ 32 by omega), Nat.mod_eq_of_lt (show (c.toBitVec.toNat / 256) <<< 8 < 2 ^ 32 by rw [Nat.shiftLeft_eq]; omega), Nat.or_comm, ← Nat.shiftLeft_add_eq_or_of_lt (by omega), Nat.shiftLeft_eq]
    omega
  show BitVec.toNat (((((lo8 c &&& 255) <<< (0 : Int32)) ||| ((hi8 c &&& 255) <<< (8 : Int32))).toBitVec.setWidth 16).setWidth 32) = _
  rw [BitVec.toNat_setWidth, BitVec.toNat_setWidth, g]
  omega
end StrChars
namespace StrChars
open Jvm Sem ClassFile Op Lib Jvm.Stand Jvm.Free.XT Jvm.Free.ALB Jvm.Free.JM Jvm.Free
open Jvm.Lib.Cold (StaticIs)
/-- charAt's cast of a byte read back -/
def chr8 (u : Int32) : Int32 := (u &&& 255).toUInt32.toUInt16.toUInt32.toInt32
theorem chr8_lo8 {c : Int32} (h0 : ¬ c < 0) (h1 : ¬ 255 < c) : chr8 (lo8 c) = c := by
  have t : ∀ k : Fin 256, (Int32.ofNat k.val).toUInt32.toUInt16.toUInt32.toInt32 = Int32.ofNat k.val := by decide +kernel
  unfold chr8
  rw [lo8_mask h0 h1]
  rw [Int32.lt_iff_toInt_lt] at h0 h1
  have e0 : (0 : Int32).toInt = 0 := rfl
  have e1 : (255 : Int32).toInt = 255 := rfl
  obtain ⟨k, hk⟩ : ∃ k : Nat, c.toInt = k := ⟨c.toInt.toNat, by omega⟩
  have hx : c = Int32.ofNat k := Int32.toInt_inj.mp (by rw [hk, Int32.toInt_ofNat_small (by omega)])
  rw [hx]
  exact t ⟨k, by omega⟩
theorem narrow_ch {c : Int32} (h0 : ¬ c < 0) (h1 : ¬ 65535 < c) : narrow .char (.int c) = .int c := by
  have q : narrow .char (.int (pairCh (lo8 c) (hi8 c))) = .int (pairCh (lo8 c) (hi8 c)) := narrow_c _
  rwa [pair_says h0 h1] at q
/-- the array's cell V codes the n chars f 0 .. f (n - 1) by the coder cd, as the JDK does: coder 1 just where some char is above 255 -/
def Cod (cd : Int32) (n : Nat) (f : Nat → Int32) (V : Cell) : Prop := (cd = 0 ∧ V.slots.size = n ∧ ∀ j, j < n → V.slots[j]? = some (.int (lo8 (f j))) ∧ ¬ 255 < f j) ∨ (cd = 1 ∧ V.slots.size = 2 * n ∧ (∀ j, j < n → V.slots[2 * j]? = some (.int (lo8 (f j))) ∧ V.slots[2 * j + 1]? = some (.int (hi8 (f j)))) ∧ ∃ j, j < n ∧ 255 < f j)
theorem Cod.cd {cd : Int32} {n : Nat} {f : Nat → Int32} {V : Cell} (h : Cod cd n f V) : cd = 0 ∨ cd = 1 := h.imp (fun q => q.1) fun q => q.1
/-- **x is a String of the n chars f 0 .. f (n - 1)**, Latin-1 or UTF-16; its array at t has the cell V -/
def Txt (x t : Addr) (V : Cell) (cd : Int32) (n : Nat) (f : Nat → Int32) (U : State) : Prop := Exact "java/lang/String" x U ∧ Has x "java/lang/String" "value" "[B" (.ref t) U ∧ Has x "java/lang/String" "coder" "B" (.int cd) U ∧ XT.Arr .byte t V U ∧ Cod cd n f V ∧ ∀ j, j < n → ¬ f j < 0 ∧ ¬ 65535 < f j
theorem Txt.mv {x t : Addr} {V : Cell} {cd : Int32} {n : Nat} {f : Nat → Int32} {U U' : State} (h : Txt x t V cd n f U) (hal : U.vm.Alike U'.vm) (hh : U'.heap = U.heap) : Txt x t V cd n f U' := ⟨h.1.mv hal hh, h.2.1.mv hal hh, h.2.2.1.mv hal hh, h.2.2.2.1.mv hal hh, h.2.2.2.2⟩
namespace IsL
def yN : MethodName := ⟨"java/lang/String", "isLatin1", "()Z"⟩
abbrev yB : ByteArray := jdk_42_method_154_code
theorem d0 : decode yB 0 = .ok (.getstatic 38, 3) := by decide +kernel
theorem d3 : decode yB 3 = .ok (.ifCond (.eq) 14, 3) := by decide +kernel
theorem d6 : decode yB 6 = .ok (.aload_n 0, 1) := by decide +kernel
theorem d7 : decode yB 7 = .ok (.getfield 15, 3) := by decide +kernel
theorem d10 : decode yB 10 = .ok (.ifCond (.ne) 7, 3) := by decide +kernel
theorem d13 : decode yB 13 = .ok (.iconst 1, 1) := by decide +kernel
theorem d14 : decode yB 14 = .ok (.goto 4, 3) := by decide +kernel
theorem d17 : decode yB 17 = .ok (.iconst 0, 1) := by decide +kernel
theorem d18 : decode yB 18 = .ok (.ireturn, 1) := by decide +kernel
def site : List Cond := [.fieldLink "java/lang/String" 38 "java/lang/String" "COMPACT_STRINGS" "Z", .fieldLink "java/lang/String" 15 "java/lang/String" "coder" "B"]
def tab : Cond := tabOf yN yB 1 (some .boolean) site
def P (x : Addr) (cd z : Int32) (args : Array Value) (s : State) : Prop := args = #[.ref x] ∧ Has x "java/lang/String" "coder" "B" (.int cd) s ∧ (cd = 0 ∨ cd = 1) ∧ StaticIs s "java/lang/String" "COMPACT_STRINGS" "Z" (.int z) ∧ ¬ z = 0
def E (cd : Int32) (r : Option Value) (s u : State) : Prop := XT.PureE (some (.int (1 - cd))) r s u
theorem law (l : Launch) (x : Addr) (cd z : Int32) : Law l yN 1 0 0 0 yB 1 (some .boolean) site (P x cd z) (E cd) [] 0 0 := by
  refine Law.of_walk (plainFor_of_name (by decide +kernel)) (by decide +kernel) (by decide +kernel) (by decide) (fun _ _ h => by rw [h.1]; rfl) (fun _ U U' hal hh h => ⟨h.1, h.2.1.mv hal hh, h.2.2.1, h.2.2.2.1.there hal hh, h.2.2.2.2⟩) (fun r U U' V V' h1 hal h2 h => XT.PureE.mv r U U' V V' h1 hal h2 h) ?_
  intro p e s m args below meth c s₁ X0 hexec hbytes hml hret hlk hnm hown hh0 W hP
  obtain ⟨rfl, hx, hc, s1, hz⟩ := hP
  have c1 : Steps p.tables e below (s₁.setTop (entryFrame m #[.ref x] 1)) (s₁.setTop (mkF m 0 #[.val (.ref x)] [])) := entry rfl
  obtain ⟨T2, X2, q2, st2⟩ := X0.sget hexec hown (wk W (.fieldLink "java/lang/String" 38 "java/lang/String" "COMPACT_STRINGS" "Z")) s1 (fun _ _ h => by rw [hh0]; exact h) (g := (mkF m 0 #[.val (.ref x)] [])) rfl (hb hbytes d0)
  have hh2 := q2.trans hh0
  have c3 : Steps p.tables e below (s₁.setTop (entryFrame m #[.ref x] 1)) (T2.setTop (mkF m 7 #[.val (.ref x)] [.ref x])) := (c1.trans (st2 _ (Steps.refl _))).trans (by
    refine XS.ifNo X2.here hexec rfl (hb hbytes d3) rfl (i0_eq_f hz) ?_
    refine XS.aloadN X2.here hexec rfl (hb hbytes d6) rfl rfl ?_
    exact Steps.refl _)
  obtain ⟨T4, X4, q4, st4⟩ := X2.hget hexec hown (wk W (.fieldLink "java/lang/String" 15 "java/lang/String" "coder" "B")) (hx.mv X2.warmed.alike hh2) (g := (mkF m 7 #[.val (.ref x)] [.ref x])) rfl (rest := []) rfl (hb hbytes d7)
  have c5 : Steps p.tables e below (s₁.setTop (entryFrame m #[.ref x] 1)) (T4.setTop (mkF m 10 #[.val (.ref x)] [.int cd])) := c3.trans (st4 _ (Steps.refl _))
  have c6 : Steps p.tables e below (s₁.setTop (entryFrame m #[.ref x] 1)) (T4.setTop (mkF m 18 #[.val (.ref x)] [.int (1 - cd)])) := by
    rcases hc with rfl | rfl
    · exact c5.trans (by
        refine XS.ifNo X4.here hexec rfl (hb hbytes d10) rfl (i0_ne_f rfl) ?_
        refine iconstV X4.here hexec rfl 1 (hb hbytes d13) (by decide) ?_
        refine XS.goto X4.here hexec rfl (pc0 := 14) rfl (hb hbytes d14) (by decide) rfl ?_
        exact Steps.refl _)
    · exact c5.trans (by
        refine XS.ifYes X4.here hexec rfl (pc0 := 10) rfl (hb hbytes d10) rfl (i0_ne_t (by decide)) (by decide) rfl ?_
        refine iconstV X4.here hexec rfl 0 (hb hbytes d17) (by decide) ?_
        exact Steps.refl _)
  exact ⟨T4, some (.int (1 - cd)), _, _, _, X4, rfl, rfl, rfl, (fun h => by cases h), ⟨rfl, q4.trans hh2⟩, fun fs hl => c6.trans (X4.ireturnOut hexec hret (by rcases hc with rfl | rfl <;> rfl) (Or.inr (Or.inl rfl)) (hb hbytes d18) hl)⟩
end IsL
namespace LChA
def yN : MethodName := ⟨"java/lang/StringLatin1", "charAt", "([BI)C"⟩
abbrev yB : ByteArray := jdk_43_method_2_code
theorem d0 : decode yB 0 = .ok (.iload_n 1, 1) := by decide +kernel
theorem d1 : decode yB 1 = .ok (.aload_n 0, 1) := by decide +kernel
theorem d2 : decode yB 2 = .ok (.arraylength, 1) := by decide +kernel
theorem d3 : decode yB 3 = .ok (.invokestatic 9, 3) := by decide +kernel
theorem d6 : decode yB 6 = .ok (.aload_n 0, 1) := by decide +kernel
theorem d7 : decode yB 7 = .ok (.iload_n 1, 1) := by decide +kernel
theorem d8 : decode yB 8 = .ok (.baload, 1) := by decide +kernel
theorem d9 : decode yB 9 = .ok (.sipush 255, 3) := by decide +kernel
theorem d12 : decode yB 12 = .ok (.iand, 1) := by decide +kernel
theorem d13 : decode yB 13 = .ok (.i2c, 1) := by decide +kernel
theorem d14 : decode yB 14 = .ok (.ireturn, 1) := by decide +kernel
def site : List Cond := [JO.Str_checkIndex.tab] ++ staticW "java/lang/StringLatin1" 9 JO.Str_checkIndex.yN
def tab : Cond := tabOf yN yB 2 (some .char) site
def P (t : Addr) (V : Cell) (i : Nat) (u : Int32) (fm : Value) (args : Array Value) (s : State) : Prop := args = #[.ref t, .int (Int32.ofNat i)] ∧ XT.Arr .byte t V s ∧ V.slots[i]? = some (.int u) ∧ (StaticIs s "jdk/internal/util/Preconditions" "SIOOBE_FORMATTER" "Ljava/util/function/BiFunction;" fm ∧ fm.isRef = true)
def E (u : Int32) (r : Option Value) (s w : State) : Prop := XT.PureE (some (.int (chr8 u))) r s w
theorem law (l : Launch) (t : Addr) (V : Cell) (i : Nat) (u : Int32) (fm : Value) : Law l yN 2 2 2 27 yB 2 (some .char) site (P t V i u fm) (E u) [] 0 0 := by
  refine Law.of_walk (plainFor_of_name (by decide +kernel)) (by decide +kernel) (by decide +kernel) (by decide) (fun _ _ h => by rw [h.1]; rfl) (fun _ U U' hal hh h => ⟨h.1, h.2.1.mv hal hh, h.2.2.1, h.2.2.2.1.there hal hh, h.2.2.2.2⟩) (fun r U U' V V' h1 hal h2 h => XT.PureE.mv r U U' V V' h1 hal h2 h) ?_
  intro p e s m args below meth c s₁ X0 hexec hbytes hml hret hlk hnm hown hh0 W hP
  obtain ⟨rfl, hV, hu, s1, rf⟩ := hP
  have v31 := hV.2.2.2
  have hi : i < V.slots.size := (Array.getElem?_eq_some_iff.mp hu).1
  have c1 : Steps p.tables e below (s₁.setTop (entryFrame m #[.ref t, .int (Int32.ofNat i)] 2)) (s₁.setTop (mkF m 0 #[.val (.ref t), .val (.int (Int32.ofNat i))] [])) := entry rfl
  have c2 : Steps p.tables e below (s₁.setTop (entryFrame m #[.ref t, .int (Int32.ofNat i)] 2)) (s₁.setTop (mkF m 3 #[.val (.ref t), .val (.int (Int32.ofNat i))] [.int (Int32.ofNat V.slots.size), .int (Int32.ofNat i)])) := c1.trans (by
    refine XS.iloadN X0.here hexec rfl (hb hbytes d0) rfl ?_
    refine XS.aloadN X0.here hexec rfl (hb hbytes d1) rfl rfl ?_
    refine X0.alen hexec (hV.mv X0.warmed.alike hh0) rfl rfl (hb hbytes d2) ?_
    exact Steps.refl _)
  obtain ⟨v3, T3, X3, E3, g3⟩ := X0.callS hexec (JO.Str_checkIndex.law l (Int32.ofNat i) (Int32.ofNat V.slots.size) fm) hown (wks W (staticW "java/lang/StringLatin1" 9 JO.Str_checkIndex.yN)) (wk W JO.Str_checkIndex.tab) (W := 0) (Nat.le_of_ble_eq_true rfl) (Nat.le_of_ble_eq_true rfl) (Nat.le_refl _) (Nat.le_refl _) (g := (mkF m 3 #[.val (.ref t), .val (.int (Int32.ofNat i))] [.int (Int32.ofNat V.slots.size), .int (Int32.ofNat i)])) rfl (by rw [hml]; rfl) c2 (argsL := [.int (Int32.ofNat i), .int (Int32.ofNat V.slots.size)]) (rest := []) rfl rfl (by show 2 * 0 + 0 ≤ _; decide) (hb hbytes d3) (⟨rfl, rf, s1.there X0.warmed.alike hh0, Int32.ofNat_not_neg (by omega), lt32 v31 hi⟩)
  obtain ⟨rfl, q3⟩ := E3
  have hh3 := q3.trans hh0
  have c4 : Steps p.tables e below (s₁.setTop (entryFrame m #[.ref t, .int (Int32.ofNat i)] 2)) (T3.setTop (mkF m 14 #[.val (.ref t), .val (.int (Int32.ofNat i))] [.int (chr8 u)])) := Steps.trans g3 (by
    refine XS.aloadN X3.here hexec rfl (hb hbytes d6) rfl rfl ?_
    refine XS.iloadN X3.here hexec rfl (hb hbytes d7) rfl ?_
    refine X3.aget hexec (hV.mv X3.warmed.alike hh3) rfl hu rfl rfl (hb hbytes d8) ?_
    refine sipushV X3.here hexec rfl 255 (hb hbytes d9) (by decide) ?_
    refine XS.iand X3.here hexec rfl (hb hbytes d12) rfl ?_
    refine i2c X3.here hexec rfl (hb hbytes d13) rfl ?_
    exact Steps.refl _)
  exact ⟨T3, some (.int (chr8 u)), _, _, _, X3, rfl, rfl, rfl, (fun h => by cases h), ⟨rfl, hh3⟩, fun fs hl => c4.trans (X3.ireturnOut hexec hret (narrow_c _) (Or.inr (Or.inr (Or.inr (Or.inl rfl)))) (hb hbytes d14) hl)⟩
end LChA
end StrChars
namespace StrChars.Road
open Jvm Sem ClassFile Op Lib Jvm.Stand Jvm.Free Jvm.Free.XT
open Jvm.Lib.Cold (StaticIs)
theorem consq {a : Array Value} {s : State} {c : Jvm.Cond} {L : List Jvm.Cond} (h0 : c.before a s = true) (h : ∀ w ∈ L, w.before a s = true) : ∀ w ∈ c :: L, w.before a s = true := fun w hw => (List.mem_cons.mp hw).elim (fun e => e ▸ h0) (h w)
/-- the bytes of the chars cs, low before high -/
def wideBytes : List Int32 → List Value
  | [] => []
  | c :: cs => .int (lo8 c) :: .int (hi8 c) :: wideBytes cs
theorem wide_lo (d : Value) : ∀ (cs : List Int32) (j : Nat), j < cs.length → (wideBytes cs).getD (2 * j) d = .int (lo8 (cs.getD j 0))
  | [], j, h => absurd h (Nat.not_lt_zero j)
  | c :: cs, 0, _ => rfl
  | c :: cs, j + 1, h => by
    have q := wide_lo d cs j (by simpa using h)
    rw [show 2 * (j + 1) = 2 * j + 1 + 1 from by omega]
    simpa [wideBytes] using q
theorem wide_hi (d : Value) : ∀ (cs : List Int32) (j : Nat), j < cs.length → (wideBytes cs).getD (2 * j + 1) d = .int (hi8 (cs.getD j 0))
  | [], j, h => absurd h (Nat.not_lt_zero j)
  | c :: cs, 0, _ => rfl
  | c :: cs, j + 1, h => by
    have q := wide_hi d cs j (by simpa using h)
    rw [show 2 * (j + 1) + 1 = 2 * j + 1 + 1 + 1 from by omega]
    simpa [wideBytes] using q
theorem low_at (d : Value) (cs : List Int32) (j : Nat) (h : j < cs.length) : (cs.map fun c => Value.int (lo8 c)).getD j d = .int (lo8 (cs.getD j 0)) := by
  simp [List.getD_eq_getElem?_getD, h]
/-- an array of N2 bytes vs codes the chars cs by the coder cd -/
def CodA (cs : List Int32) (cd N2 : Int32) (vs : List Value) : Prop := (cd = 0 ∧ N2 = Int32.ofNat cs.length ∧ vs = (cs.map fun c => Value.int (lo8 c)) ∧ ∀ c ∈ cs, ¬ 255 < c) ∨ (cd = 1 ∧ N2 = Int32.ofNat (2 * cs.length) ∧ vs = wideBytes cs ∧ ∃ c ∈ cs, 255 < c)
theorem CodA.cod {cs : List Int32} {cd N2 : Int32} {vs : List Value} {V : Cell} (h : CodA cs cd N2 vs) (hn : 2 * cs.length < 2 ^ 31) (hs : V.slots.size = N2.toNatClampNeg) (hv : RoadKit.Has V vs (.int 0)) : Cod cd cs.length (fun j => cs.getD j 0) V := by
  rcases h with ⟨rfl, rfl, rfl, h⟩ | ⟨rfl, rfl, rfl, c, hc, hw⟩
  · rw [n32 (by omega)] at hs
    exact Or.inl ⟨rfl, hs, fun j hj => ⟨by rw [hv j (by omega), low_at _ _ _ hj], by
      have e : cs.getD j 0 = cs[j] := by simp [List.getD_eq_getElem?_getD, hj]
      show ¬ 255 < cs.getD j 0
      rw [e]; exact h _ (List.getElem_mem _)⟩⟩
  · rw [n32 (by omega)] at hs
    obtain ⟨j, hj, rfl⟩ := List.getElem_of_mem hc
    exact Or.inr ⟨rfl, hs, fun j hj => ⟨by rw [hv _ (by omega), wide_lo _ _ _ hj], by rw [hv _ (by omega), wide_hi _ _ _ hj]⟩, j, hj, by
      have e : cs.getD j 0 = cs[j] := by simp [List.getD_eq_getElem?_getD, hj]
      show 255 < cs.getD j 0
      rw [e]; exact hw⟩
/-- an object of exactly java/lang/String, its two fields found: as the laws ask it -/
theorem strObj {Z U : State} {a0 : Array Value} {kI : Nat} (wi : (Jvm.Cond.instantiable ST kI).before a0 Z = true) (al : Z.vm.Alike U.vm) {x : Addr} {v0 c0 : Value} (E : RoadKit.Exa Z U.heap x ST) (V : RoadKit.Fld Z U.heap x ST "value" "[B" v0) (C : RoadKit.Fld Z U.heap x ST "coder" "B" c0) :
    ∃ (D : Cell) (fV fC : Field), Blank ST x D U ∧ Found ST "value" "[B" fV U ∧ Found ST "coder" "B" fC U ∧ D.slots[fV.slot]? = some v0 ∧ D.slots[fC.slot]? = some c0 ∧ RoadKit.slotOf Z ST "value" "[B" = fV.slot ∧ RoadKit.slotOf Z ST "coder" "B" = fC.slot := by
  obtain ⟨D, cfV, kV, iV, fV, hD, gV, stV, knV, obV, asV, slV⟩ := V
  obtain ⟨D', cfC, kC, iC, fC, hD', gC, stC, -, -, asC, slC⟩ := C
  cases hD.symm.trans hD'
  obtain ⟨D2, kD, e1, e2, e3, e4, e5⟩ := E
  cases hD.symm.trans e1
  obtain ⟨c2, k2, i1, i2, i3, -⟩ := Cond.instantiable_spec wi
  cases e2.symm.trans i1
  cases e3.symm.trans i2
  obtain ⟨kU, u1, u2⟩ := al.2.2 _ _ e3
  exact ⟨D, fV, fC, ⟨hD, ⟨knV, fun q hq => by rw [hq] at obV; cases obV⟩, by rw [al.findClass]; exact e2, kU, u1, by rw [u2]; exact i3, by rw [u2]; exact e5 i3⟩, ⟨SBG.found_only al ⟨cfV, kV, iV, gV⟩, stV⟩, ⟨SBG.found_only al ⟨cfC, kC, iC, gC⟩, stC⟩, slV, slC, by simp [RoadKit.slotOf, gV], by simp [RoadKit.slotOf, gC]⟩
theorem sta_is {Z U : State} (al : Z.vm.Alike U.vm) {C n d : String} {v : Value} (S : RoadKit.Sta Z U.heap C n d v) : StaticIs U C n d v := by
  obtain ⟨cfS, iS, kS, fS, st, cS, t1, t2, t3, t4, t5, t6, t7⟩ := S
  exact StaticIs.there (s := { Z with heap := U.heap }) ⟨cfS, iS, kS, fS, st, cS, t1, t2, t3, t4, t5, (fun q => by rw [q] at t6; cases t6), t7⟩ al rfl
end StrChars.Road
namespace StrChars.Road
open Jvm Sem ClassFile Op Lib Jvm.Stand Jvm.Free Jvm.Free.XT
open Jvm.Lib.Cold (StaticIs)
/-- the road's facts of a String, as the laws ask it -/
theorem txt_of {Z U : State} {a0 : Array Value} {kI : Nat} (wi : (Jvm.Cond.instantiable ST kI).before a0 Z = true) (al : Z.vm.Alike U.vm) {x t : Addr} {kb : ClassId} {cs : List Int32} {cd N2 : Int32} {vs : List Value} (E : RoadKit.Exa Z U.heap x ST) (V : RoadKit.Fld Z U.heap x ST "value" "[B" (.ref t)) (C : RoadKit.Fld Z U.heap x ST "coder" "B" (.int cd)) (K : RoadKit.Arv Z U.heap t kb .byte N2 vs (.int 0)) (hc : CodA cs cd N2 vs) (hb : ∀ c ∈ cs, ¬ c < 0 ∧ ¬ (65535 : Int32) < c) (l2 : cs.length ≤ 4000) :
    ∃ A, Txt x t A cd cs.length (fun j => cs.getD j 0) U := by
  obtain ⟨A, K1, K2, K3, K4, K5, K6⟩ := K
  have hcod := hc.cod (by omega) K3 K5
  obtain ⟨D, fV, fC, hB, F1, F2, g1, g2, -, -⟩ := strObj wi al E V C
  exact ⟨A, ⟨_, hB.2.2.1, D, hB.1, rfl, by cases q : D.vm <;> first | rfl | exact absurd q (hB.2.1.2 _)⟩, Has.of hB F1 g1, Has.of hB F2 g2, ⟨K1.1, State.isArrayOf_alike al K1.2.1, K1.2.2, by rcases hcod with ⟨-, q, -⟩ | ⟨-, q, -⟩ <;> omega⟩, hcod, fun j hj => by
    have e : cs.getD j 0 = cs[j] := by simp [List.getD_eq_getElem?_getD, hj]
    show ¬ cs.getD j 0 < 0 ∧ ¬ 65535 < cs.getD j 0
    rw [e]; exact hb _ (List.getElem_mem _)⟩
end StrChars.Road
namespace StrChars
open Jvm Sem ClassFile Op Lib Jvm.Stand Jvm.Free.XT Jvm.Free.ALB Jvm.Free.JM Jvm.Free
open Jvm.Lib.Cold (StaticIs)
namespace ChN
def yN : MethodName := ⟨"java/lang/String", "charAt", "(I)C"⟩
abbrev yB : ByteArray := jdk_42_method_56_code
theorem d0 : decode yB 0 = .ok (.aload_n 0, 1) := by decide +kernel
theorem d1 : decode yB 1 = .ok (.invokevirtual 492, 3) := by decide +kernel
theorem d4 : decode yB 4 = .ok (.ifCond (.eq) 12, 3) := by decide +kernel
theorem d7 : decode yB 7 = .ok (.aload_n 0, 1) := by decide +kernel
theorem d8 : decode yB 8 = .ok (.getfield 9, 3) := by decide +kernel
theorem d11 : decode yB 11 = .ok (.iload_n 1, 1) := by decide +kernel
theorem d12 : decode yB 12 = .ok (.invokestatic 495, 3) := by decide +kernel
theorem d15 : decode yB 15 = .ok (.ireturn, 1) := by decide +kernel
def site : List Cond := [.fieldLink "java/lang/String" 9 "java/lang/String" "value" "[B", IsL.tab, LChA.tab] ++ virtW "java/lang/String" 492 "java/lang/String" IsL.yN IsL.yN ++ staticW "java/lang/String" 495 LChA.yN
def tab : Cond := tabOf yN yB 2 (some .char) site
def P (x t : Addr) (V : Cell) (n : Nat) (f : Nat → Int32) (z : Int32) (fm : Value) (i : Nat) (args : Array Value) (s : State) : Prop := args = #[.ref x, .int (Int32.ofNat i)] ∧ Txt x t V 0 n f s ∧ i < n ∧ StaticIs s "java/lang/String" "COMPACT_STRINGS" "Z" (.int z) ∧ ¬ z = 0 ∧ StaticIs s "jdk/internal/util/Preconditions" "SIOOBE_FORMATTER" "Ljava/util/function/BiFunction;" fm ∧ fm.isRef = true
def E (f : Nat → Int32) (i : Nat) (r : Option Value) (s u : State) : Prop := XT.PureE (some (.int (f i))) r s u
/-- charAt(i) of a Latin-1 String of n chars, i < n: f i -/
theorem law (l : Launch) (x t : Addr) (V : Cell) (n : Nat) (f : Nat → Int32) (z : Int32) (fm : Value) (i : Nat) : Law l yN 2 1 3 40 yB 2 (some .char) site (P x t V n f z fm i) (E f i) [] 0 0 := by
  refine Law.of_walk (plainFor_of_name (by decide +kernel)) (by decide +kernel) (by decide +kernel) (by decide) (fun _ _ h => by rw [h.1]; rfl) (fun _ U U' hal hh h => ⟨h.1, h.2.1.mv hal hh, h.2.2.1, h.2.2.2.1.there hal hh, h.2.2.2.2.1, h.2.2.2.2.2.1.there hal hh, h.2.2.2.2.2.2⟩) (fun r U U' V V' h1 hal h2 h => XT.PureE.mv r U U' V V' h1 hal h2 h) ?_
  intro p e s m args below meth c s₁ X0 hexec hbytes hml hret hlk hnm hown hh0 W hP
  obtain ⟨rfl, hx, hi, s1, hz, s3, rf⟩ := hP
  have v31 := hx.2.2.2.1.2.2.2
  have hr := hx.2.2.2.2.2 i hi
  have hx0 := hx.mv X0.warmed.alike hh0
  have c1 : Steps p.tables e below (s₁.setTop (entryFrame m #[.ref x, .int (Int32.ofNat i)] 2)) (s₁.setTop (mkF m 1 #[.val (.ref x), .val (.int (Int32.ofNat i))] [.ref x])) := Steps.trans (entry rfl) (by
    show Steps p.tables e below (s₁.setTop (mkF m 0 #[.val (.ref x), .val (.int (Int32.ofNat i))] [])) _
    refine XS.aloadN X0.here hexec rfl (hb hbytes d0) rfl rfl ?_
    exact Steps.refl _)
  obtain ⟨v2, T2, X2, E2, g2⟩ := X0.callV hexec (IsL.law l x 0 z) hown (wks W (virtW "java/lang/String" 492 "java/lang/String" IsL.yN IsL.yN)) rfl (by decide) (wk W IsL.tab) (W := 0) (Nat.le_of_ble_eq_true rfl) (Nat.le_of_ble_eq_true rfl) (Nat.le_refl _) (Nat.le_refl _) (hx0.1.fc X0.warmed.alike) hx0.1.is (g := (mkF m 1 #[.val (.ref x), .val (.int (Int32.ofNat i))] [.ref x])) rfl (by rw [hml]; rfl) c1 (argsL := []) (rest := []) rfl rfl (by show 2 * 0 + 0 ≤ _; decide) (hb hbytes d1) (⟨rfl, hx0.2.2.1, hx.2.2.2.2.1.cd, s1.there X0.warmed.alike hh0, hz⟩)
  obtain ⟨rfl, q2⟩ := E2
  have hh2 := q2.trans hh0
  have hx2 := hx.mv X2.warmed.alike hh2
  obtain ⟨-, k1, k2⟩ | ⟨k0, -⟩ := hx.2.2.2.2.1
  · have c3 : Steps p.tables e below (s₁.setTop (entryFrame m #[.ref x, .int (Int32.ofNat i)] 2)) (T2.setTop (mkF m 8 #[.val (.ref x), .val (.int (Int32.ofNat i))] [.ref x])) := Steps.trans g2 (by
      refine XS.ifNo X2.here hexec rfl (hb hbytes d4) rfl (i0_eq_f (by decide)) ?_
      refine XS.aloadN X2.here hexec rfl (hb hbytes d7) rfl rfl ?_
      exact Steps.refl _)
    obtain ⟨T4, X4, q4, st4⟩ := X2.hget hexec hown (wk W (.fieldLink "java/lang/String" 9 "java/lang/String" "value" "[B")) hx2.2.1 (g := (mkF m 8 #[.val (.ref x), .val (.int (Int32.ofNat i))] [.ref x])) rfl (rest := []) rfl (hb hbytes d8)
    have hh4 := q4.trans hh2
    have c5 : Steps p.tables e below (s₁.setTop (entryFrame m #[.ref x, .int (Int32.ofNat i)] 2)) (T4.setTop (mkF m 12 #[.val (.ref x), .val (.int (Int32.ofNat i))] [.int (Int32.ofNat i), .ref t])) := (c3.trans (st4 _ (Steps.refl _))).trans (by
      refine XS.iloadN X4.here hexec rfl (hb hbytes d11) rfl ?_
      exact Steps.refl _)
    obtain ⟨v6, T6, X6, E6, g6⟩ := X4.callS hexec (LChA.law l t V i (lo8 (f i)) fm) hown (wks W (staticW "java/lang/String" 495 LChA.yN)) (wk W LChA.tab) (W := 0) (Nat.le_of_ble_eq_true rfl) (Nat.le_of_ble_eq_true rfl) (Nat.le_refl _) (Nat.le_refl _) (g := (mkF m 12 #[.val (.ref x), .val (.int (Int32.ofNat i))] [.int (Int32.ofNat i), .ref t])) rfl (by rw [hml]; rfl) c5 (argsL := [.ref t, .int (Int32.ofNat i)]) (rest := []) rfl rfl (by show 2 * 0 + 0 ≤ _; decide) (hb hbytes d12) (⟨rfl, hx.2.2.2.1.mv X4.warmed.alike hh4, (k2 i hi).1, s3.there X4.warmed.alike hh4, rf⟩)
    obtain ⟨rfl, q6⟩ := E6
    rw [chr8_lo8 hr.1 (k2 i hi).2] at g6
    exact ⟨T6, some (.int (f i)), _, _, _, X6, rfl, rfl, rfl, (fun h => by cases h), ⟨rfl, q6.trans hh4⟩, fun fs hl => Steps.trans g6 (X6.ireturnOut hexec hret (narrow_ch hr.1 hr.2) (Or.inr (Or.inr (Or.inr (Or.inl rfl)))) (hb hbytes d15) hl)⟩
  · exact absurd k0 (by decide)
theorem pays {l : Launch} {R : Room} {p : Program} {e : Env} {below : List Frame} {s : State} {sargs : Array Value} {len W : Nat} (x t : Addr) (V : Cell) (n : Nat) (f : Nat → Int32) (z : Int32) (fm : Value) (i : Nat) (htab : tab.before sargs s = true) (hfr : 4 ≤ R.frames) (hlo : W + 53 ≤ R.locals) :
    Back l R p e below s sargs yN len W (fun A₁ a₁ => A₁.cells + 0 ≤ R.cells ∧ A₁.slots + 0 ≤ R.slots ∧ P x t V n f z fm i a₁ A₁.U) (fun A₁ _ v₁ B₁ => E f i v₁ A₁.U B₁.U ∧ B₁.locs = A₁.locs ++ [] ∧ B₁.cells = A₁.cells + 0 ∧ B₁.slots = A₁.slots + 0) :=
  (law l x t V n f z fm i).pays htab hfr (by omega)
end ChN
end StrChars
namespace StrChars.Road
open Jvm Sem ClassFile Op Lib Jvm.Stand Jvm.Free Jvm.Free.XT
open Jvm.Lib.Cold (StaticIs)
/-- the words of String.charAt(int), the Latin-1 road alone -/
abbrev wordsChN : List Jvm.Cond := [.code ChN.yN ChN.yB 2 (some .char), .initialized ST, .fieldLink ST 9 ST "value" "[B", .fieldLink ST 38 ST "COMPACT_STRINGS" "Z", .fieldLink ST 15 ST "coder" "B", .code IsL.yN IsL.yB 1 (some .boolean), .methodLink ST 492 IsL.yN, .declares IsL.yN, .selects ST IsL.yN IsL.yN, .instanceMethod IsL.yN,
  .methodLink ST 495 LChA.yN, .static LChA.yN, .code LChA.yN LChA.yB 2 (some .char), .initialized "java/lang/StringLatin1", .methodLink "java/lang/StringLatin1" 9 JO.Str_checkIndex.yN, .static JO.Str_checkIndex.yN, .code JO.Str_checkIndex.yN JO.Str_checkIndex.yB 2 none,
  .fieldLink ST 1053 "jdk/internal/util/Preconditions" "SIOOBE_FORMATTER" "Ljava/util/function/BiFunction;", .methodLink ST 1059 JC.PreCheck.yN, .static JC.PreCheck.yN, .code JC.PreCheck.yN JC.PreCheck.yB 3 (some .int), .initialized "jdk/internal/util/Preconditions"]
theorem tabChN_of {a : Array Value} {s : State} (h : ∀ w ∈ wordsChN, w.before a s = true) : ChN.tab.before a s = true := by
  have hp : JC.PreCheck.tab.before a s = true := unparts (wk h (.code JC.PreCheck.yN JC.PreCheck.yB 3 (some .int))) (wks h (.initialized JC.PreCheck.yN.cls :: JC.PreCheck.site))
  have qk := consq hp h
  have hk : JO.Str_checkIndex.tab.before a s = true := unparts (wk qk (.code JO.Str_checkIndex.yN JO.Str_checkIndex.yB 2 none)) (wks qk (.initialized JO.Str_checkIndex.yN.cls :: JO.Str_checkIndex.site))
  have ql := consq hk h
  have hl : LChA.tab.before a s = true := unparts (wk ql (.code LChA.yN LChA.yB 2 (some .char))) (wks ql (.initialized LChA.yN.cls :: LChA.site))
  have hi : IsL.tab.before a s = true := unparts (wk h (.code IsL.yN IsL.yB 1 (some .boolean))) (wks h (.initialized IsL.yN.cls :: IsL.site))
  have q := consq hi (consq hl h)
  exact unparts (wk q (.code ChN.yN ChN.yB 2 (some .char))) (wks q (.initialized ChN.yN.cls :: ChN.site))
theorem movedChN {Z s : State} {a0 args : Array Value} (hZ : Z.Warmed39 s.vm) (hw : ∀ d ∈ wordsChN, d.before a0 Z = true) : ∀ d ∈ wordsChN, d.before args s = true := fun d hd => by
  have t : ∀ d ∈ wordsChN, (d.onTables && d.keepsFace) = true := by decide +kernel
  exact RoadKit.mv hZ (hw d hd) (t d hd)
/-- **charAt(i) OF A LATIN-1 STRING**, i < n: the char -/
theorem chN {p : Program} {l : Launch} {e : Env} {R : Room} {s : State} {args : Array Value} {below : List Frame} {len W : Nat} {Z : State} {a0 : Array Value} {h : Heap} (hZ : Z.Warmed39 s.vm) (hw : ∀ d ∈ wordsChN, d.before a0 Z = true) {kI : Nat} (wi : (Jvm.Cond.instantiable ST kI).before a0 Z = true)
    {x t : Addr} {kb : ClassId} {cs : List Int32} {N2 z : Int32} {vs : List Value} {fm : Value} {i : Nat} {j : Int32} (E : RoadKit.Exa Z h x ST) (V : RoadKit.Fld Z h x ST "value" "[B" (.ref t)) (C : RoadKit.Fld Z h x ST "coder" "B" (.int 0)) (K : RoadKit.Arv Z h t kb .byte N2 vs (.int 0)) (hc : CodA cs 0 N2 vs) (hb : ∀ c ∈ cs, ¬ c < 0 ∧ ¬ (65535 : Int32) < c)
    (S : RoadKit.Sta Z h ST "COMPACT_STRINGS" "Z" (.int z)) (hz : ¬ z = 0) (F : RoadKit.Sta Z h "jdk/internal/util/Preconditions" "SIOOBE_FORMATTER" "Ljava/util/function/BiFunction;" fm) (rf : fm.isRef = true) (l2 : cs.length ≤ 4000) (hi : i < cs.length) (hj : j = Int32.ofNat i) (hfr : 4 ≤ R.frames) (hlo : W + 53 ≤ R.locals) :
    Back l R p e below s args (⟨"java/lang/String", "charAt", "(I)C"⟩ : MethodName) len W (fun P a => a = #[.ref x, .int j] ∧ P.U.heap = h ∧ P.cells + 0 ≤ R.cells ∧ P.slots + 0 ≤ R.slots)
      (fun P _ v B => ∃ L, (v = some (.int (cs.getD i 0)) ∧ L = [] ∧ B.U.heap = h) ∧ B.locs = P.locs ++ L ∧ B.cells = P.cells + 0 ∧ B.slots = P.slots + 0) := by
  subst hj
  intro m meth c P g ig mk a X hg hsize hdg hW hn hp'
  obtain ⟨rfl, rfl, r1, r2⟩ := hp'
  have al : Z.vm.Alike P.U.vm := hZ.alike.trans X.warmed.alike
  obtain ⟨A, hx⟩ := txt_of wi al E V C K hc hb l2
  obtain ⟨v, B, X', ⟨⟨hv, hh⟩, hl, hk, hs⟩, st⟩ := ChN.pays x t A cs.length (fun j => cs.getD j 0) z fm i (tabChN_of (movedChN hZ hw)) hfr hlo m meth c P g ig mk _ X hg hsize hdg hW hn ⟨r1, r2, rfl, hx, hi, sta_is al S, hz, sta_is al F, rf⟩
  exact ⟨v, B, X', ⟨[], ⟨hv, rfl, hh⟩, hl, hk, hs⟩, st⟩
/-- what backV says of its String, as the contracts of this text ask it: cs's low bytes, coder 0 -/
theorem codOf {cs : List Int32} {n : Nat} (hn : cs.length = n) (hb : ∀ c ∈ cs, ¬ 255 < c) : CodA cs 0 (Int32.ofNat n) ((cs.map lo8).map Value.int) := Or.inl ⟨rfl, by rw [hn], by simp [List.map_map, Function.comp_def], hb⟩
end StrChars.Road
end Jvm.Pilot.@@N@@
namespace Jvm.Pilot.@@N@@
open Jvm Jvm.ClassFile Sem Op Lib Jvm.Free Jvm.Stand Jvm.LawKit Jvm.RoadKit Bundle Jvm.Pilot.@@N@@.Jvm.D
def own_Txt (Z : State) (h : Heap) (x : Addr) (cs : List Int32) : Prop := ∃ (t : Addr) (kb : ClassId), Exa Z h x "java/lang/String" ∧ Fld Z h x "java/lang/String" "value" "[B" (.ref t) ∧ Fld Z h x "java/lang/String" "coder" "B" (.int 0) ∧ Arv Z h t kb .byte (Int32.ofNat cs.length) ((cs.map StrChars.lo8).map Value.int) (.int 0) ∧ (∀ c ∈ cs, ¬ c < 0 ∧ ¬ (255 : Int32) < c) ∧ cs.length ≤ 4000
theorem own_Txt.ext {Z : State} {h h' : Heap} {x : Addr} {cs : List Int32} (F : own_Txt Z h x cs) (E : Ext h h') : own_Txt Z h' x cs := by
  obtain ⟨t, kb, f1, f2, f3, f4, f5, f6⟩ := F
  exact ⟨t, kb, f1.ext E, f2.ext E, f3.ext E, f4.ext E, f5, f6⟩
theorem own_Txt.exa {Z : State} {h : Heap} {x : Addr} {cs : List Int32} (F : own_Txt Z h x cs) : Exa Z h x "java/lang/String" := by obtain ⟨t, kb, f1, -⟩ := F; exact f1
theorem own_Txt.lt {Z : State} {h : Heap} {x : Addr} {cs : List Int32} (F : own_Txt Z h x cs) : x < h.size := F.exa.lt
theorem own_up (cs : List Int32) (h : ∀ c ∈ cs, ¬ c < 0 ∧ ¬ (255 : Int32) < c) : ∀ c ∈ cs, ¬ c < 0 ∧ ¬ (65535 : Int32) < c := fun c hc => ⟨(h c hc).1, fun q => (h c hc).2 (by rw [Int32.lt_iff_toInt_lt] at q ⊢; exact Int.lt_trans (by decide) q)⟩
theorem own_w_backV {a0 : Array Value} {Z : State} (hw : ∀ d ∈ tables_1, d.before a0 Z = true) : ∀ d ∈ StrChars.Road.words, d.before a0 Z = true := fun d hd => hw d ((by decide +kernel : ∀ d ∈ StrChars.Road.words, d ∈ tables_1) d hd)
theorem own_w_chN {a0 : Array Value} {Z : State} (hw : ∀ d ∈ tables_1, d.before a0 Z = true) : ∀ d ∈ StrChars.Road.wordsChN, d.before a0 Z = true := fun d hd => hw d ((by decide +kernel : ∀ d ∈ StrChars.Road.wordsChN, d ∈ tables_1) d hd)
theorem own_chN {p : Program} {l : Launch} {e : Env} {R : Room} {s : State} {m : MethodId} {args : Array Value} {below : List Frame} {meth : Method} {c : Code} {T : State} {locs : List Loc} {cells slots : Nat} {pc : Nat} {Ls : Array Slot} {Z : State} {a0 : Array Value} {h : Heap} (X : Stand p l e R s m args below meth c T locs cells slots) (hx : p.tables.exec = Jvm.exec) (hZ : Z.Warmed39 s.vm) (eT : T.heap = h) (hw : ∀ d ∈ tables_1, d.before a0 Z = true) (wi : (Jvm.Cond.instantiable "java/lang/String" 4).before a0 Z = true) {own : String} {index : Nat} (hown : s.vm.findClass own = some m.cls) {x : Addr} {cs : List Int32} (F : own_Txt Z h x cs) {z : Int32} (SC : Sta Z h "java/lang/String" "COMPACT_STRINGS" "Z" (.int z)) (hz : ¬ z = 0) {fm : Value} (SF : Sta Z h "jdk/internal/util/Preconditions" "SIOOBE_FORMATTER" "Ljava/util/function/BiFunction;" fm) (rf : fm.isRef = true) {i : Nat} {j : Int32} (hi : i < cs.length) (hj : j = Int32.ofNat i)
    (w1 : (Jvm.Cond.methodLink own index (⟨"java/lang/String", "charAt", "(I)C"⟩ : MethodName)).before a0 Z = true) (w2 : (Jvm.Cond.declares (⟨"java/lang/String", "charAt", "(I)C"⟩ : MethodName)).before a0 Z = true) (w3 : (Jvm.Cond.selects "java/lang/String" (⟨"java/lang/String", "charAt", "(I)C"⟩ : MethodName) (⟨"java/lang/String", "charAt", "(I)C"⟩ : MethodName)).before a0 Z = true) (w4 : (Jvm.Cond.instanceMethod (⟨"java/lang/String", "charAt", "(I)C"⟩ : MethodName)).before a0 Z = true)
    (rest : List Value) (W : Nat) (hfr : 4 ≤ R.frames) (hlo : W + 53 ≤ R.locals) (hcR : cells ≤ R.cells) (hsR : slots ≤ R.slots) (hsz : Ls.size = c.maxLocals) (hlen : ∀ sig, parseMethodDescriptor "(I)C" = some sig → ([.int j] : List Value).length = sig.parameters.length) (hW : (rest.map fun v => v.category).sum ≤ W) (hd : decode c.code pc = .ok (.invokevirtual index, 3)) :
    ∃ T' : State, Stand p l e R s m args below meth c T' locs cells slots ∧ T'.heap = h ∧ ∀ t, Steps p.tables e below (T'.setTop (mkF m (pc + 3) Ls ((.int (cs.getD i 0)) :: rest))) t → Steps p.tables e below (T.setTop (mkF m pc Ls (.int j :: .ref x :: rest))) t := by
  obtain ⟨t, kb, f1, f2, f3, f4, f5, f6⟩ := F
  obtain ⟨T', v, X', e', ⟨hv, -, -⟩, st⟩ := Own.callVB (y := (⟨"java/lang/String", "charAt", "(I)C"⟩ : MethodName)) (Q := fun v h' L => v = some (.int (cs.getD i 0)) ∧ L = [] ∧ h' = h) X hx hZ eT x [.int j] rest W (StrChars.Road.chN (W := W) hZ (own_w_chN hw) (kI := 4) wi f1 f2 f3 f4 (StrChars.Road.codOf rfl fun c hc => (f5 c hc).2) (own_up cs f5) SC hz SF rf f6 hi hj hfr hlo) (fun v h' L q => ⟨q.2.1, q.2.2⟩) hown f1 w1 w2 w3 w4 (by decide) hcR hsR hsz hlen rfl hW hd
  subst hv
  exact ⟨T', X', e', st⟩
theorem own_newS {p : Program} {l : Launch} {e : Env} {R : Room} {s : State} {m : MethodId} {args : Array Value} {below : List Frame} {meth : Method} {c : Code} {T : State} {locs : List Loc} {cells slots : Nat} {pc : Nat} {Ls : Array Slot} {Z : State} {a0 : Array Value} {h : Heap} (X : Stand p l e R s m args below meth c T locs cells slots) (hx : p.tables.exec = Jvm.exec) (hZ : Z.Warmed39 s.vm) (eT : T.heap = h) (hw : ∀ d ∈ tables_1, d.before a0 Z = true) (wi : (Jvm.Cond.instantiable "java/lang/String" 4).before a0 Z = true) {own : String} {index : Nat} (hown : s.vm.findClass own = some m.cls) {x b : Addr} {cs : List Int32} {v0 c0 : Value} {n0 n : Nat} (hn : cs.length = n) (hx0 : n0 ≤ x) (hh0 : n0 ≤ h.size) (E : Exa Z h x "java/lang/String") (V : Fld Z h x "java/lang/String" "value" "[B" v0) (Cd : Fld Z h x "java/lang/String" "coder" "B" c0) (K : Own.CA Z h b .char cs) {z : Int32} (SC : Sta Z h "java/lang/String" "COMPACT_STRINGS" "Z" (.int z)) (hz : ¬ z = 0)
    (l0 : 0 < n) (l2 : n ≤ 4000) (hp : ∀ c ∈ cs, ¬ c < 0 ∧ ¬ (255 : Int32) < c) {bytes : ByteArray} {maxL : Nat} (w1 : (Jvm.Cond.methodLink own index (⟨"java/lang/String", "<init>", "([C)V"⟩ : MethodName)).before a0 Z = true) (w2 : (Jvm.Cond.instanceMethod (⟨"java/lang/String", "<init>", "([C)V"⟩ : MethodName)).before a0 Z = true) (w4 : (Jvm.Cond.code (⟨"java/lang/String", "<init>", "([C)V"⟩ : MethodName) bytes maxL none).before a0 Z = true)
    (rest : List Value) (W : Nat) (hfr : 4 ≤ R.frames) (hlo : W + 65 ≤ R.locals) (hcR : cells + 1 ≤ R.cells) (hsR : slots + n ≤ R.slots) (hsz : Ls.size = c.maxLocals) (hlen : ∀ sig, parseMethodDescriptor "([C)V" = some sig → ([.ref b] : List Value).length = sig.parameters.length) (hW : (rest.map fun v => v.category).sum ≤ W) (hd : decode c.code pc = .ok (.invokespecial index, 3)) :
    ∃ (T' : State) (h' : Heap) (L M : List Loc), Stand p l e R s m args below meth c T' M (cells + 1) (slots + n) ∧ T'.heap = h' ∧ (∀ n0, Fr n0 locs → Fr n0 L → Fr n0 M) ∧ Fr n0 L ∧ Keep h h' [x] ∧ own_Txt Z h' x cs ∧ ∀ t, Steps p.tables e below (T'.setTop (mkF m (pc + 3) Ls rest)) t → Steps p.tables e below (T.setTop (mkF m pc Ls (.ref b :: .ref x :: rest))) t := by
  obtain ⟨kC, K, hK⟩ := K
  obtain ⟨T', h', v, L, M, X', e', hM, ⟨rfl, q1, q2, q3, q4, t, kb, -, -, -, q5, q6⟩, st⟩ := Own.callIB (y := (⟨"java/lang/String", "<init>", "([C)V"⟩ : MethodName)) X hx hZ eT rfl x [.ref b] rest W (StrChars.Road.backV (W := W) hZ (own_w_backV hw) (kI := 4) wi (cs := cs) (bs := cs.map (fun c => c.toInt8.toInt32)) (n := n) (N := Int32.ofNat cs.length) hx0 hh0 E V Cd K SC hz hn (by rw [hn]) l0 l2 hp rfl hfr hlo) hown w1 w2 w4 (by decide) hcR hsR hsz hlen rfl hW hd
  exact ⟨T', h', L, M, X', e', hM, q1, q2, ⟨t, kb, q3, q5, q4, q6, hp, by omega⟩, st⟩
theorem own_lt {a b : Nat} (ha : a < 2 ^ 31) (hb : b < 2 ^ 31) : Int32.ofNat a < Int32.ofNat b ↔ a < b := by
  rw [Int32.lt_iff_toInt_lt, Int32.toInt_ofNat_small ha, Int32.toInt_ofNat_small hb]; omega
theorem own_succ (a : Nat) : Int32.ofNat a + (1 : Int32) = Int32.ofNat (a + 1) := (Int32.ofNat_add a 1).symm
def own_digit (c : Int32) : Bool := !decide (c < 48) && !decide ((57 : Int32) < c)
def own_allD (cs : List Int32) : Nat → Nat → Bool
  | _, 0 => true
  | a, n + 1 => own_digit (cs.getD a 0) && own_allD cs (a + 1) n
def own_isd (cs : List Int32) (i j : Nat) : Int32 := if i < j then (if own_allD cs i (j - i) = true then 1 else 0) else 0
theorem own_allD_lo {cs : List Int32} {a n : Nat} (h : cs.getD a 0 < 48) : own_allD cs a (n + 1) = false := by simp only [own_allD, own_digit, h, decide_true, Bool.not_true, Bool.false_and]
theorem own_allD_hi {cs : List Int32} {a n : Nat} (h : (57 : Int32) < cs.getD a 0) : own_allD cs a (n + 1) = false := by simp only [own_allD, own_digit, h, decide_true, Bool.not_true, Bool.and_false, Bool.false_and]
theorem own_allD_ok {cs : List Int32} {a n : Nat} (h : ¬ cs.getD a 0 < 48) (h2 : ¬ (57 : Int32) < cs.getD a 0) : own_allD cs a (n + 1) = own_allD cs (a + 1) n := by simp only [own_allD, own_digit, h, h2, decide_false, Bool.not_false, Bool.and_self, Bool.true_and]
def own_dv (cs : List Int32) : Int64 → Nat → Nat → Int64
  | v, _, 0 => v
  | v, a, n + 1 => own_dv cs (if cs.getD a 0 = 46 then v else v * 10 + (cs.getD a 0 - 48).toInt64) (a + 1) n
theorem own_Txt.len {Z : State} {h : Heap} {x : Addr} {cs : List Int32} (F : own_Txt Z h x cs) : cs.length ≤ 4000 := by obtain ⟨t, kb, -, -, -, -, -, f6⟩ := F; exact f6

theorem d11_0 : decode prog_9_method_18_code 0 = .ok (.iload_n 1, 1) := by decide +kernel
theorem d11_1 : decode prog_9_method_18_code 1 = .ok (.iload_n 2, 1) := by decide +kernel
theorem d11_2 : decode prog_9_method_18_code 2 = .ok (.if_icmp .lt 5, 3) := by decide +kernel
theorem d11_5 : decode prog_9_method_18_code 5 = .ok (.iconst 0, 1) := by decide +kernel
theorem d11_6 : decode prog_9_method_18_code 6 = .ok (.ireturn, 1) := by decide +kernel
theorem d11_7 : decode prog_9_method_18_code 7 = .ok (.iload_n 1, 1) := by decide +kernel
theorem d11_8 : decode prog_9_method_18_code 8 = .ok (.istore_n 3, 1) := by decide +kernel
theorem d11_9 : decode prog_9_method_18_code 9 = .ok (.iload_n 3, 1) := by decide +kernel
theorem d11_10 : decode prog_9_method_18_code 10 = .ok (.iload_n 2, 1) := by decide +kernel
theorem d11_11 : decode prog_9_method_18_code 11 = .ok (.if_icmp .ge 32, 3) := by decide +kernel
theorem d11_14 : decode prog_9_method_18_code 14 = .ok (.aload_n 0, 1) := by decide +kernel
theorem d11_15 : decode prog_9_method_18_code 15 = .ok (.iload_n 3, 1) := by decide +kernel
theorem d11_16 : decode prog_9_method_18_code 16 = .ok (.invokevirtual 71, 3) := by decide +kernel
theorem d11_19 : decode prog_9_method_18_code 19 = .ok (.istore 4, 2) := by decide +kernel
theorem d11_21 : decode prog_9_method_18_code 21 = .ok (.iload 4, 2) := by decide +kernel
theorem d11_23 : decode prog_9_method_18_code 23 = .ok (.bipush 48, 2) := by decide +kernel
theorem d11_25 : decode prog_9_method_18_code 25 = .ok (.if_icmp .lt 10, 3) := by decide +kernel
theorem d11_28 : decode prog_9_method_18_code 28 = .ok (.iload 4, 2) := by decide +kernel
theorem d11_30 : decode prog_9_method_18_code 30 = .ok (.bipush 57, 2) := by decide +kernel
theorem d11_32 : decode prog_9_method_18_code 32 = .ok (.if_icmp .le 5, 3) := by decide +kernel
theorem d11_35 : decode prog_9_method_18_code 35 = .ok (.iconst 0, 1) := by decide +kernel
theorem d11_36 : decode prog_9_method_18_code 36 = .ok (.ireturn, 1) := by decide +kernel
theorem d11_37 : decode prog_9_method_18_code 37 = .ok (.iinc 3 1, 3) := by decide +kernel
theorem d11_40 : decode prog_9_method_18_code 40 = .ok (.goto (-31), 3) := by decide +kernel
theorem d11_43 : decode prog_9_method_18_code 43 = .ok (.iconst 1, 1) := by decide +kernel
theorem d11_44 : decode prog_9_method_18_code 44 = .ok (.ireturn, 1) := by decide +kernel
theorem pn_0 : plainName "com/example/makewhole/makewhole/input/Notation" = true := by first | (simp [plainName, overriddenIn]; done) | decide +kernel
theorem pd_0 : parseMethodDescriptor "(I)C" = some ⟨[.int], some .char⟩ := by decide +kernel
theorem ef_11 (m : MethodId) (o0 : Addr) (p1 : Int32) (p2 : Int32) : entryFrame m #[(.ref o0), (.int p1), (.int p2)] 5 = mkF m 0 #[.val (.ref o0), .val (.int p1), .val (.int p2), .unset, .unset] [] := by first | (simp [entryFrame, mkF, argsToLocals, Value.category]; done) | rfl
set_option maxRecDepth 65536 in
set_option maxHeartbeats 40000000 in
theorem c11 (l : Launch) (Z : State) (a0 : Array Value) (hw : ∀ d ∈ tables_1, d.before a0 Z = true) (o0 : Addr) (i : Nat) (j : Nat) (cs : List Int32) (G1 : Int32) (G3 : Value) (h0 : Heap) (TX : own_Txt Z h0 o0 cs) (SC : Sta Z h0 "java/lang/String" "COMPACT_STRINGS" "Z" (.int G1)) (hG1 : ¬ G1 = 0) (SF : Sta Z h0 "jdk/internal/util/Preconditions" "SIOOBE_FORMATTER" "Ljava/util/function/BiFunction;" G3) (rG3 : G3.isRef = true) (hj : j ≤ cs.length) (hi : i ≤ 4000) : Own.Con l Z (⟨"com/example/makewhole/makewhole/input/Notation", "isDigits", "(Ljava/lang/String;II)Z"⟩ : MethodName) prog_9_method_18_code 5 (some .boolean) ({ frames := 4, cells := 0, slots := 0, locals := 53 } : Room) #[(.ref o0), (.int (Int32.ofNat i)), (.int (Int32.ofNat j))] h0 (Own.Pure (.int (own_isd cs i j)) h0) := by
  intro ws
  refine MetFree.of_bodySF (plainFor_of_name pn_0) hisR ?_
  intro p e s m args below meth c s₁ Bd hml0 hP hK
  obtain ⟨rfl, hZ, hh⟩ := hP
  have hx := Bd.exec
  have hby := Bd.bytes
  have hml : c.maxLocals = 5 := hml0
  have hown : s.vm.findClass "com/example/makewhole/makewhole/input/Notation" = some m.cls := findClass_of_methodNamed Bd.named
  have hnm := (name_of_methodNamed Bd.named Bd.method).1
  have X0 : Stand p l e ({ frames := 4, cells := 0, slots := 0, locals := 53 } : Room) s m #[(.ref o0), (.int (Int32.ofNat i)), (.int (Int32.ofNat j))] below meth c s₁ [] 0 0 := Stand.of_body Bd
  have e0 : s₁.heap = h0 := by rw [← hh, Bd.state]; rfl
  have K0 : ∀ t, Steps p.tables e below (s₁.setTop (mkF m 0 #[.val (.ref o0), .val (.int (Int32.ofNat i)), .val (.int (Int32.ofNat j)), .unset, .unset] [])) t → Steps p.tables e below (s₁.setTop (entryFrame m #[(.ref o0), (.int (Int32.ofNat i)), (.int (Int32.ofNat j))] 5)) t := fun t k => castTop (ef_11 m o0 (Int32.ofNat i) (Int32.ofNat j)) k
  generalize s₁.setTop (entryFrame m #[(.ref o0), (.int (Int32.ofNat i)), (.int (Int32.ofNat j))] 5) = B0 at K0 ⊢
  show Own.Fin p e below B0 s (({ frames := 4, cells := 0, slots := 0, locals := 53 } : Room)).cells (({ frames := 4, cells := 0, slots := 0, locals := 53 } : Room)).slots (Own.Pure (.int (own_isd cs i j)) h0)
  have hcl := own_Txt.len TX
  have K1 : ∀ t, Steps p.tables e below (s₁.setTop (mkF m 2 #[.val (.ref o0), .val (.int (Int32.ofNat i)), .val (.int (Int32.ofNat j)), .unset, .unset] [(.int (Int32.ofNat j)), (.int (Int32.ofNat i))])) t → Steps p.tables e below B0 t := fun t k => K0 t (by
    refine Own.iloadN X0 hx (hb hby d11_0) rfl ?_
    refine Own.iloadN X0 hx (hb hby d11_1) rfl ?_
    exact k)
  by_cases hc2 : (Int32.ofNat i) < (Int32.ofNat j)
  · have K3 : ∀ t, Steps p.tables e below (s₁.setTop (mkF m 9 #[.val (.ref o0), .val (.int (Int32.ofNat i)), .val (.int (Int32.ofNat j)), .val (.int (Int32.ofNat i)), .unset] [])) t → Steps p.tables e below B0 t := fun t k => K1 t (by
      refine Own.icmpYes X0 hx 7 (hb hby d11_2) (tlt hc2).1 (by decide) (by decide) ?_
      refine Own.iloadN X0 hx (hb hby d11_7) rfl ?_
      refine Own.istoreN X0 hx #[.val (.ref o0), .val (.int (Int32.ofNat i)), .val (.int (Int32.ofNat j)), .val (.int (Int32.ofNat i)), .unset] (hb hby d11_8) rfl ?_
      exact k)
    have loop : ∀ (n : Nat) (a : Nat) (u : Slot) (T : State), One u → a + n = j → own_isd cs i j = (if own_allD cs a n = true then (1 : Int32) else 0) → Stand p l e ({ frames := 4, cells := 0, slots := 0, locals := 53 } : Room) s m #[(.ref o0), (.int (Int32.ofNat i)), (.int (Int32.ofNat j))] below meth c T [] 0 0 → T.heap = h0 → (∀ t, Steps p.tables e below (T.setTop (mkF m 9 #[.val (.ref o0), .val (.int (Int32.ofNat i)), .val (.int (Int32.ofNat j)), .val (.int (Int32.ofNat a)), u] [])) t → Steps p.tables e below B0 t) → Own.Fin p e below B0 s (({ frames := 4, cells := 0, slots := 0, locals := 53 } : Room)).cells (({ frames := 4, cells := 0, slots := 0, locals := 53 } : Room)).slots (Own.Pure (.int (own_isd cs i j)) h0) := by
      intro n
      induction n with
      | zero =>
        intro a u T ou ha hR X eT K
        have K4 : ∀ t, Steps p.tables e below (T.setTop (mkF m 11 #[.val (.ref o0), .val (.int (Int32.ofNat i)), .val (.int (Int32.ofNat j)), .val (.int (Int32.ofNat a)), u] [(.int (Int32.ofNat j)), (.int (Int32.ofNat a))])) t → Steps p.tables e below B0 t := fun t k => K t (by
          refine Own.iloadN X hx (hb hby d11_9) rfl ?_
          refine Own.iloadN X hx (hb hby d11_10) rfl ?_
          exact k)
        have K5 : ∀ t, Steps p.tables e below (T.setTop (mkF m 44 #[.val (.ref o0), .val (.int (Int32.ofNat i)), .val (.int (Int32.ofNat j)), .val (.int (Int32.ofNat a)), u] [(.int (1 : Int32))])) t → Steps p.tables e below B0 t := fun t k => K4 t (by
          refine Own.icmpYes X hx 43 (hb hby d11_11) (flt (fun q => absurd ((own_lt (by omega) (by omega)).mp q) (by omega) : ¬ ((Int32.ofNat a) < (Int32.ofNat j)))).2.1 (by decide) (by decide) ?_
          refine Own.iconst X hx (1 : Int32) (hb hby d11_43) rfl ?_
          exact k)
        exact Own.finN X hx (BodyLoose.notSynchronized Bd) Bd.returns (by simp) (hb hby d11_44) K5 (by decide) (by decide) ⟨by rw [hR]; rfl, rfl, eT⟩
      | succ n ih =>
        intro a u T ou ha hR X eT K
        have K6 : ∀ t, Steps p.tables e below (T.setTop (mkF m 11 #[.val (.ref o0), .val (.int (Int32.ofNat i)), .val (.int (Int32.ofNat j)), .val (.int (Int32.ofNat a)), u] [(.int (Int32.ofNat j)), (.int (Int32.ofNat a))])) t → Steps p.tables e below B0 t := fun t k => K t (by
          refine Own.iloadN X hx (hb hby d11_9) rfl ?_
          refine Own.iloadN X hx (hb hby d11_10) rfl ?_
          exact k)
        have K7 : ∀ t, Steps p.tables e below (T.setTop (mkF m 16 #[.val (.ref o0), .val (.int (Int32.ofNat i)), .val (.int (Int32.ofNat j)), .val (.int (Int32.ofNat a)), u] [(.int (Int32.ofNat a)), (.ref o0)])) t → Steps p.tables e below B0 t := fun t k => K6 t (by
          refine Own.icmpNo X hx (hb hby d11_11) (tlt ((own_lt (by omega) (by omega)).mpr (by omega) : (Int32.ofNat a) < (Int32.ofNat j))).2.1 ?_
          refine Own.aloadN X hx (hb hby d11_14) rfl rfl ?_
          refine Own.iloadN X hx (hb hby d11_15) rfl ?_
          exact k)
        obtain ⟨T8, X8, e8, st8⟩ := own_chN (Ls := #[.val (.ref o0), .val (.int (Int32.ofNat i)), .val (.int (Int32.ofNat j)), .val (.int (Int32.ofNat a)), u]) X hx hZ eT hw (hw _ (List.mem_of_getElem? (i := 6) rfl)) hown TX SC hG1 SF rG3 (i := a) (j := (Int32.ofNat a)) (by omega) rfl (hw _ (List.mem_of_getElem? (i := 60) rfl)) (hw _ (List.mem_of_getElem? (i := 61) rfl)) (hw _ (List.mem_of_getElem? (i := 63) rfl)) (hw _ (List.mem_of_getElem? (i := 62) rfl)) [] 0 (by decide) (by decide) (by decide) (by decide) (by rw [hml]; rfl) (lenOf pd_0 rfl) (Nat.le_of_eq rfl) (hb hby d11_16)
        have K9 : ∀ t, Steps p.tables e below (T8.setTop (mkF m 19 #[.val (.ref o0), .val (.int (Int32.ofNat i)), .val (.int (Int32.ofNat j)), .val (.int (Int32.ofNat a)), u] [(.int (cs.getD a 0))])) t → Steps p.tables e below B0 t := fun t k => K7 t (st8 t k)
        have K10 : ∀ t, Steps p.tables e below (T8.setTop (mkF m 25 #[.val (.ref o0), .val (.int (Int32.ofNat i)), .val (.int (Int32.ofNat j)), .val (.int (Int32.ofNat a)), .val (.int (cs.getD a 0))] [(.int (48 : Int32)), (.int (cs.getD a 0))])) t → Steps p.tables e below B0 t := fun t k => K9 t (by
          refine Own.istore X8 hx #[.val (.ref o0), .val (.int (Int32.ofNat i)), .val (.int (Int32.ofNat j)), .val (.int (Int32.ofNat a)), .val (.int (cs.getD a 0))] (hb hby d11_19) (XS.store1 (o := u) rfl ou rfl) ?_
          refine Own.iload X8 hx (hb hby d11_21) rfl ?_
          refine Own.bipush X8 hx (48 : Int32) (hb hby d11_23) rfl ?_
          exact k)
        by_cases hc11 : (cs.getD a 0) < (48 : Int32)
        · have K12 : ∀ t, Steps p.tables e below (T8.setTop (mkF m 36 #[.val (.ref o0), .val (.int (Int32.ofNat i)), .val (.int (Int32.ofNat j)), .val (.int (Int32.ofNat a)), .val (.int (cs.getD a 0))] [(.int (0 : Int32))])) t → Steps p.tables e below B0 t := fun t k => K10 t (by
            refine Own.icmpYes X8 hx 35 (hb hby d11_25) (tlt hc11).1 (by decide) (by decide) ?_
            refine Own.iconst X8 hx (0 : Int32) (hb hby d11_35) rfl ?_
            exact k)
          exact Own.finN X8 hx (BodyLoose.notSynchronized Bd) Bd.returns (by simp) (hb hby d11_36) K12 (by decide) (by decide) ⟨by rw [hR, own_allD_lo hc11]; rfl, rfl, e8⟩
        · have K13 : ∀ t, Steps p.tables e below (T8.setTop (mkF m 32 #[.val (.ref o0), .val (.int (Int32.ofNat i)), .val (.int (Int32.ofNat j)), .val (.int (Int32.ofNat a)), .val (.int (cs.getD a 0))] [(.int (57 : Int32)), (.int (cs.getD a 0))])) t → Steps p.tables e below B0 t := fun t k => K10 t (by
            refine Own.icmpNo X8 hx (hb hby d11_25) (flt hc11).1 ?_
            refine Own.iload X8 hx (hb hby d11_28) rfl ?_
            refine Own.bipush X8 hx (57 : Int32) (hb hby d11_30) rfl ?_
            exact k)
          by_cases hc14 : (57 : Int32) < (cs.getD a 0)
          · have K15 : ∀ t, Steps p.tables e below (T8.setTop (mkF m 36 #[.val (.ref o0), .val (.int (Int32.ofNat i)), .val (.int (Int32.ofNat j)), .val (.int (Int32.ofNat a)), .val (.int (cs.getD a 0))] [(.int (0 : Int32))])) t → Steps p.tables e below B0 t := fun t k => K13 t (by
              refine Own.icmpNo X8 hx (hb hby d11_32) (tlt hc14).2.2.2 ?_
              refine Own.iconst X8 hx (0 : Int32) (hb hby d11_35) rfl ?_
              exact k)
            exact Own.finN X8 hx (BodyLoose.notSynchronized Bd) Bd.returns (by simp) (hb hby d11_36) K15 (by decide) (by decide) ⟨by rw [hR, own_allD_hi hc14]; rfl, rfl, e8⟩
          · have K16 : ∀ t, Steps p.tables e below (T8.setTop (mkF m 9 #[.val (.ref o0), .val (.int (Int32.ofNat i)), .val (.int (Int32.ofNat j)), .val (.int ((Int32.ofNat a) + (1 : Int32))), .val (.int (cs.getD a 0))] [])) t → Steps p.tables e below B0 t := fun t k => K13 t (by
              refine Own.icmpYes X8 hx 37 (hb hby d11_32) (flt hc14).2.2.2 (by decide) (by decide) ?_
              refine Own.iinc X8 hx ((Int32.ofNat a) + (1 : Int32)) #[.val (.ref o0), .val (.int (Int32.ofNat i)), .val (.int (Int32.ofNat j)), .val (.int ((Int32.ofNat a) + (1 : Int32))), .val (.int (cs.getD a 0))] (hb hby d11_37) rfl rfl rfl ?_
              refine Own.goto X8 hx 9 (hb hby d11_40) (by decide) (by decide) ?_
              exact k)
            rw [own_succ] at K16
            exact ih (a + 1) _ T8 (One.val rfl) (by omega) (by rw [hR, own_allD_ok hc11 hc14]) X8 e8 K16
    exact loop (j - i) i .unset s₁ One.u (by have := (own_lt (by omega) (by omega)).mp hc2; omega) (by unfold own_isd; rw [if_pos ((own_lt (by omega) (by omega)).mp hc2)]) X0 e0 K3
  · have K17 : ∀ t, Steps p.tables e below (s₁.setTop (mkF m 6 #[.val (.ref o0), .val (.int (Int32.ofNat i)), .val (.int (Int32.ofNat j)), .unset, .unset] [(.int (0 : Int32))])) t → Steps p.tables e below B0 t := fun t k => K1 t (by
      refine Own.icmpNo X0 hx (hb hby d11_2) (flt hc2).1 ?_
      refine Own.iconst X0 hx (0 : Int32) (hb hby d11_5) rfl ?_
      exact k)
    exact Own.finN X0 hx (BodyLoose.notSynchronized Bd) Bd.returns (by simp) (hb hby d11_6) K17 (by decide) (by decide) ⟨by unfold own_isd; rw [if_neg fun q => hc2 ((own_lt (by omega) (by omega)).mpr q)]; rfl, rfl, e0⟩

theorem d17_0 : decode prog_9_method_19_code 0 = .ok (.lconst 0, 1) := by decide +kernel
theorem d17_1 : decode prog_9_method_19_code 1 = .ok (.lstore_n 3, 1) := by decide +kernel
theorem d17_2 : decode prog_9_method_19_code 2 = .ok (.iload_n 1, 1) := by decide +kernel
theorem d17_3 : decode prog_9_method_19_code 3 = .ok (.istore 5, 2) := by decide +kernel
theorem d17_5 : decode prog_9_method_19_code 5 = .ok (.iload 5, 2) := by decide +kernel
theorem d17_7 : decode prog_9_method_19_code 7 = .ok (.iload_n 2, 1) := by decide +kernel
theorem d17_8 : decode prog_9_method_19_code 8 = .ok (.if_icmp .ge 37, 3) := by decide +kernel
theorem d17_11 : decode prog_9_method_19_code 11 = .ok (.aload_n 0, 1) := by decide +kernel
theorem d17_12 : decode prog_9_method_19_code 12 = .ok (.iload 5, 2) := by decide +kernel
theorem d17_14 : decode prog_9_method_19_code 14 = .ok (.invokevirtual 71, 3) := by decide +kernel
theorem d17_17 : decode prog_9_method_19_code 17 = .ok (.istore 6, 2) := by decide +kernel
theorem d17_19 : decode prog_9_method_19_code 19 = .ok (.iload 6, 2) := by decide +kernel
theorem d17_21 : decode prog_9_method_19_code 21 = .ok (.bipush 46, 2) := by decide +kernel
theorem d17_23 : decode prog_9_method_19_code 23 = .ok (.if_icmp .eq 16, 3) := by decide +kernel
theorem d17_26 : decode prog_9_method_19_code 26 = .ok (.lload_n 3, 1) := by decide +kernel
theorem d17_27 : decode prog_9_method_19_code 27 = .ok (.ldc2_w 184, 3) := by decide +kernel
theorem d17_30 : decode prog_9_method_19_code 30 = .ok (.lmul, 1) := by decide +kernel
theorem d17_31 : decode prog_9_method_19_code 31 = .ok (.iload 6, 2) := by decide +kernel
theorem d17_33 : decode prog_9_method_19_code 33 = .ok (.bipush 48, 2) := by decide +kernel
theorem d17_35 : decode prog_9_method_19_code 35 = .ok (.isub, 1) := by decide +kernel
theorem d17_36 : decode prog_9_method_19_code 36 = .ok (.i2l, 1) := by decide +kernel
theorem d17_37 : decode prog_9_method_19_code 37 = .ok (.ladd, 1) := by decide +kernel
theorem d17_38 : decode prog_9_method_19_code 38 = .ok (.lstore_n 3, 1) := by decide +kernel
theorem d17_39 : decode prog_9_method_19_code 39 = .ok (.iinc 5 1, 3) := by decide +kernel
theorem d17_42 : decode prog_9_method_19_code 42 = .ok (.goto (-37), 3) := by decide +kernel
theorem d17_45 : decode prog_9_method_19_code 45 = .ok (.lload_n 3, 1) := by decide +kernel
theorem d17_46 : decode prog_9_method_19_code 46 = .ok (.lreturn, 1) := by decide +kernel
theorem ef_17 (m : MethodId) (o0 : Addr) (p1 : Int32) (p2 : Int32) : entryFrame m #[(.ref o0), (.int p1), (.int p2)] 7 = mkF m 0 #[.val (.ref o0), .val (.int p1), .val (.int p2), .unset, .unset, .unset, .unset] [] := by first | (simp [entryFrame, mkF, argsToLocals, Value.category]; done) | rfl
set_option maxRecDepth 65536 in
set_option maxHeartbeats 40000000 in
theorem c17 (l : Launch) (Z : State) (a0 : Array Value) (hw : ∀ d ∈ tables_1, d.before a0 Z = true) (o0 : Addr) (i : Nat) (j : Nat) (cs : List Int32) (G1 : Int32) (G3 : Value) (h0 : Heap) (TX : own_Txt Z h0 o0 cs) (SC : Sta Z h0 "java/lang/String" "COMPACT_STRINGS" "Z" (.int G1)) (hG1 : ¬ G1 = 0) (SF : Sta Z h0 "jdk/internal/util/Preconditions" "SIOOBE_FORMATTER" "Ljava/util/function/BiFunction;" G3) (rG3 : G3.isRef = true) (hj : j ≤ cs.length) (hij : i ≤ j) : Own.Con l Z (⟨"com/example/makewhole/makewhole/input/Notation", "digitsValue", "(Ljava/lang/String;II)J"⟩ : MethodName) prog_9_method_19_code 7 (some .long) ({ frames := 4, cells := 0, slots := 0, locals := 53 } : Room) #[(.ref o0), (.int (Int32.ofNat i)), (.int (Int32.ofNat j))] h0 (Own.Pure (.long (own_dv cs 0 i (j - i))) h0) := by
  intro ws
  refine MetFree.of_bodySF (plainFor_of_name pn_0) hisR ?_
  intro p e s m args below meth c s₁ Bd hml0 hP hK
  obtain ⟨rfl, hZ, hh⟩ := hP
  have hx := Bd.exec
  have hby := Bd.bytes
  have hml : c.maxLocals = 7 := hml0
  have hown : s.vm.findClass "com/example/makewhole/makewhole/input/Notation" = some m.cls := findClass_of_methodNamed Bd.named
  have hnm := (name_of_methodNamed Bd.named Bd.method).1
  have X0 : Stand p l e ({ frames := 4, cells := 0, slots := 0, locals := 53 } : Room) s m #[(.ref o0), (.int (Int32.ofNat i)), (.int (Int32.ofNat j))] below meth c s₁ [] 0 0 := Stand.of_body Bd
  have e0 : s₁.heap = h0 := by rw [← hh, Bd.state]; rfl
  have K0 : ∀ t, Steps p.tables e below (s₁.setTop (mkF m 0 #[.val (.ref o0), .val (.int (Int32.ofNat i)), .val (.int (Int32.ofNat j)), .unset, .unset, .unset, .unset] [])) t → Steps p.tables e below (s₁.setTop (entryFrame m #[(.ref o0), (.int (Int32.ofNat i)), (.int (Int32.ofNat j))] 7)) t := fun t k => castTop (ef_17 m o0 (Int32.ofNat i) (Int32.ofNat j)) k
  generalize s₁.setTop (entryFrame m #[(.ref o0), (.int (Int32.ofNat i)), (.int (Int32.ofNat j))] 7) = B0 at K0 ⊢
  show Own.Fin p e below B0 s (({ frames := 4, cells := 0, slots := 0, locals := 53 } : Room)).cells (({ frames := 4, cells := 0, slots := 0, locals := 53 } : Room)).slots (Own.Pure (.long (own_dv cs 0 i (j - i))) h0)
  have hcl := own_Txt.len TX
  have K1 : ∀ t, Steps p.tables e below (s₁.setTop (mkF m 5 #[.val (.ref o0), .val (.int (Int32.ofNat i)), .val (.int (Int32.ofNat j)), .val (.long (0 : Int64)), .second, .val (.int (Int32.ofNat i)), .unset] [])) t → Steps p.tables e below B0 t := fun t k => K0 t (by
    refine Own.lconst X0 hx (0 : Int64) (hb hby d17_0) rfl ?_
    refine Own.lstoreN X0 hx #[.val (.ref o0), .val (.int (Int32.ofNat i)), .val (.int (Int32.ofNat j)), .val (.long (0 : Int64)), .second, .unset, .unset] (hb hby d17_1) rfl ?_
    refine Own.iloadN X0 hx (hb hby d17_2) rfl ?_
    refine Own.istore X0 hx #[.val (.ref o0), .val (.int (Int32.ofNat i)), .val (.int (Int32.ofNat j)), .val (.long (0 : Int64)), .second, .val (.int (Int32.ofNat i)), .unset] (hb hby d17_3) rfl ?_
    exact k)
  have loop : ∀ (n : Nat) (a : Nat) (u : Slot) (v : Int64) (T : State), One u → a + n = j → own_dv cs 0 i (j - i) = own_dv cs v a n → Stand p l e ({ frames := 4, cells := 0, slots := 0, locals := 53 } : Room) s m #[(.ref o0), (.int (Int32.ofNat i)), (.int (Int32.ofNat j))] below meth c T [] 0 0 → T.heap = h0 → (∀ t, Steps p.tables e below (T.setTop (mkF m 5 #[.val (.ref o0), .val (.int (Int32.ofNat i)), .val (.int (Int32.ofNat j)), .val (.long v), .second, .val (.int (Int32.ofNat a)), u] [])) t → Steps p.tables e below B0 t) → Own.Fin p e below B0 s (({ frames := 4, cells := 0, slots := 0, locals := 53 } : Room)).cells (({ frames := 4, cells := 0, slots := 0, locals := 53 } : Room)).slots (Own.Pure (.long (own_dv cs 0 i (j - i))) h0) := by
    intro n
    induction n with
    | zero =>
      intro a u v T ou ha hR X eT K
      have K2 : ∀ t, Steps p.tables e below (T.setTop (mkF m 8 #[.val (.ref o0), .val (.int (Int32.ofNat i)), .val (.int (Int32.ofNat j)), .val (.long v), .second, .val (.int (Int32.ofNat a)), u] [(.int (Int32.ofNat j)), (.int (Int32.ofNat a))])) t → Steps p.tables e below B0 t := fun t k => K t (by
        refine Own.iload X hx (hb hby d17_5) rfl ?_
        refine Own.iloadN X hx (hb hby d17_7) rfl ?_
        exact k)
      have K3 : ∀ t, Steps p.tables e below (T.setTop (mkF m 46 #[.val (.ref o0), .val (.int (Int32.ofNat i)), .val (.int (Int32.ofNat j)), .val (.long v), .second, .val (.int (Int32.ofNat a)), u] [(.long v)])) t → Steps p.tables e below B0 t := fun t k => K2 t (by
        refine Own.icmpYes X hx 45 (hb hby d17_8) (flt (fun q => absurd ((own_lt (by omega) (by omega)).mp q) (by omega) : ¬ ((Int32.ofNat a) < (Int32.ofNat j)))).2.1 (by decide) (by decide) ?_
        refine Own.lloadN X hx (hb hby d17_45) rfl ?_
        exact k)
      exact Own.finJ X hx (BodyLoose.notSynchronized Bd) Bd.returns (hb hby d17_46) K3 (by decide) (by decide) ⟨by rw [hR]; rfl, rfl, eT⟩
    | succ n ih =>
      intro a u v T ou ha hR X eT K
      have K4 : ∀ t, Steps p.tables e below (T.setTop (mkF m 8 #[.val (.ref o0), .val (.int (Int32.ofNat i)), .val (.int (Int32.ofNat j)), .val (.long v), .second, .val (.int (Int32.ofNat a)), u] [(.int (Int32.ofNat j)), (.int (Int32.ofNat a))])) t → Steps p.tables e below B0 t := fun t k => K t (by
        refine Own.iload X hx (hb hby d17_5) rfl ?_
        refine Own.iloadN X hx (hb hby d17_7) rfl ?_
        exact k)
      have K5 : ∀ t, Steps p.tables e below (T.setTop (mkF m 14 #[.val (.ref o0), .val (.int (Int32.ofNat i)), .val (.int (Int32.ofNat j)), .val (.long v), .second, .val (.int (Int32.ofNat a)), u] [(.int (Int32.ofNat a)), (.ref o0)])) t → Steps p.tables e below B0 t := fun t k => K4 t (by
        refine Own.icmpNo X hx (hb hby d17_8) (tlt ((own_lt (by omega) (by omega)).mpr (by omega) : (Int32.ofNat a) < (Int32.ofNat j))).2.1 ?_
        refine Own.aloadN X hx (hb hby d17_11) rfl rfl ?_
        refine Own.iload X hx (hb hby d17_12) rfl ?_
        exact k)
      obtain ⟨T6, X6, e6, st6⟩ := own_chN (Ls := #[.val (.ref o0), .val (.int (Int32.ofNat i)), .val (.int (Int32.ofNat j)), .val (.long v), .second, .val (.int (Int32.ofNat a)), u]) X hx hZ eT hw (hw _ (List.mem_of_getElem? (i := 6) rfl)) hown TX SC hG1 SF rG3 (i := a) (j := (Int32.ofNat a)) (by omega) rfl (hw _ (List.mem_of_getElem? (i := 60) rfl)) (hw _ (List.mem_of_getElem? (i := 61) rfl)) (hw _ (List.mem_of_getElem? (i := 63) rfl)) (hw _ (List.mem_of_getElem? (i := 62) rfl)) [] 0 (by decide) (by decide) (by decide) (by decide) (by rw [hml]; rfl) (lenOf pd_0 rfl) (Nat.le_of_eq rfl) (hb hby d17_14)
      have K7 : ∀ t, Steps p.tables e below (T6.setTop (mkF m 17 #[.val (.ref o0), .val (.int (Int32.ofNat i)), .val (.int (Int32.ofNat j)), .val (.long v), .second, .val (.int (Int32.ofNat a)), u] [(.int (cs.getD a 0))])) t → Steps p.tables e below B0 t := fun t k => K5 t (st6 t k)
      have K8 : ∀ t, Steps p.tables e below (T6.setTop (mkF m 23 #[.val (.ref o0), .val (.int (Int32.ofNat i)), .val (.int (Int32.ofNat j)), .val (.long v), .second, .val (.int (Int32.ofNat a)), .val (.int (cs.getD a 0))] [(.int (46 : Int32)), (.int (cs.getD a 0))])) t → Steps p.tables e below B0 t := fun t k => K7 t (by
        refine Own.istore X6 hx #[.val (.ref o0), .val (.int (Int32.ofNat i)), .val (.int (Int32.ofNat j)), .val (.long v), .second, .val (.int (Int32.ofNat a)), .val (.int (cs.getD a 0))] (hb hby d17_17) (XS.store1 (o := u) rfl ou rfl) ?_
        refine Own.iload X6 hx (hb hby d17_19) rfl ?_
        refine Own.bipush X6 hx (46 : Int32) (hb hby d17_21) rfl ?_
        exact k)
      obtain ⟨x13, hx13⟩ : ∃ z : Int64, z = (if (cs.getD a 0) = (46 : Int32) then v else ((v * (10 : Int64)) + (((cs.getD a 0) - (48 : Int32)).toInt64))) := ⟨_, rfl⟩
      obtain ⟨T14, X14, e14, K14⟩ : ∃ T' : State, Stand p l e ({ frames := 4, cells := 0, slots := 0, locals := 53 } : Room) s m #[(.ref o0), (.int (Int32.ofNat i)), (.int (Int32.ofNat j))] below meth c T' [] 0 0 ∧ T'.heap = h0 ∧ ∀ t, Steps p.tables e below (T'.setTop (mkF m 39 #[.val (.ref o0), .val (.int (Int32.ofNat i)), .val (.int (Int32.ofNat j)), .val (.long x13), .second, .val (.int (Int32.ofNat a)), .val (.int (cs.getD a 0))] [])) t → Steps p.tables e below B0 t := by
        by_cases hc9 : (cs.getD a 0) = (46 : Int32)
        · have K10 : ∀ t, Steps p.tables e below (T6.setTop (mkF m 39 #[.val (.ref o0), .val (.int (Int32.ofNat i)), .val (.int (Int32.ofNat j)), .val (.long v), .second, .val (.int (Int32.ofNat a)), .val (.int (cs.getD a 0))] [])) t → Steps p.tables e below B0 t := fun t k => K8 t (by
            refine Own.icmpYes X6 hx 39 (hb hby d17_23) (teq hc9).1 (by decide) (by decide) ?_
            exact k)
          exact ⟨T6, X6, e6, fun t k => K10 t (by rw [hx13, if_pos hc9] at k; exact k)⟩
        · obtain ⟨x11, hx11⟩ : ∃ z : Int64, z = ((v * (10 : Int64)) + (((cs.getD a 0) - (48 : Int32)).toInt64)) := ⟨_, rfl⟩
          have K12 : ∀ t, Steps p.tables e below (T6.setTop (mkF m 39 #[.val (.ref o0), .val (.int (Int32.ofNat i)), .val (.int (Int32.ofNat j)), .val (.long x11), .second, .val (.int (Int32.ofNat a)), .val (.int (cs.getD a 0))] [])) t → Steps p.tables e below B0 t := fun t k => K8 t (by
            subst hx11
            refine Own.icmpNo X6 hx (hb hby d17_23) (feq hc9).1 ?_
            refine Own.lloadN X6 hx (hb hby d17_26) rfl ?_
            refine Own.ldc2J X6 hx (10 : Int64) hZ hown (hw _ (List.mem_of_getElem? (i := 85) rfl)) (hb hby d17_27) ?_
            refine Own.lmul X6 hx (hb hby d17_30) ?_
            refine Own.iload X6 hx (hb hby d17_31) rfl ?_
            refine Own.bipush X6 hx (48 : Int32) (hb hby d17_33) rfl ?_
            refine Own.isub X6 hx (hb hby d17_35) ?_
            refine Own.i2l X6 hx (hb hby d17_36) ?_
            refine Own.ladd X6 hx (hb hby d17_37) ?_
            refine Own.lstoreN X6 hx #[.val (.ref o0), .val (.int (Int32.ofNat i)), .val (.int (Int32.ofNat j)), .val (.long ((v * (10 : Int64)) + (((cs.getD a 0) - (48 : Int32)).toInt64))), .second, .val (.int (Int32.ofNat a)), .val (.int (cs.getD a 0))] (hb hby d17_38) rfl ?_
            exact k)
          exact ⟨T6, X6, e6, fun t k => K12 t (by subst hx11; rw [hx13, if_neg hc9] at k; exact k)⟩
      have K15 : ∀ t, Steps p.tables e below (T14.setTop (mkF m 5 #[.val (.ref o0), .val (.int (Int32.ofNat i)), .val (.int (Int32.ofNat j)), .val (.long x13), .second, .val (.int ((Int32.ofNat a) + (1 : Int32))), .val (.int (cs.getD a 0))] [])) t → Steps p.tables e below B0 t := fun t k => K14 t (by
        refine Own.iinc X14 hx ((Int32.ofNat a) + (1 : Int32)) #[.val (.ref o0), .val (.int (Int32.ofNat i)), .val (.int (Int32.ofNat j)), .val (.long x13), .second, .val (.int ((Int32.ofNat a) + (1 : Int32))), .val (.int (cs.getD a 0))] (hb hby d17_39) rfl rfl rfl ?_
        refine Own.goto X14 hx 5 (hb hby d17_42) (by decide) (by decide) ?_
        exact k)
      rw [own_succ] at K15
      exact ih (a + 1) _ x13 T14 (One.val rfl) (by omega) (by subst hx13; rw [hR]; rfl) X14 e14 K15
  exact loop (j - i) i .unset 0 s₁ One.u (by omega) rfl X0 e0 K1

theorem d18_0 : decode jdk_29_method_43_code 0 = .ok (.lload_n 0, 1) := by decide +kernel
theorem d18_1 : decode jdk_29_method_43_code 1 = .ok (.l2i, 1) := by decide +kernel
theorem d18_2 : decode jdk_29_method_43_code 2 = .ok (.i2l, 1) := by decide +kernel
theorem d18_3 : decode jdk_29_method_43_code 3 = .ok (.lload_n 0, 1) := by decide +kernel
theorem d18_4 : decode jdk_29_method_43_code 4 = .ok (.lcmp, 1) := by decide +kernel
theorem d18_5 : decode jdk_29_method_43_code 5 = .ok (.ifCond .eq 13, 3) := by decide +kernel
theorem d18_8 : decode jdk_29_method_43_code 8 = .ok (.new 109, 3) := by decide +kernel
theorem d18_11 : decode jdk_29_method_43_code 11 = .ok (.dup, 1) := by decide +kernel
theorem d18_12 : decode jdk_29_method_43_code 12 = .ok (.ldc 111, 2) := by decide +kernel
theorem d18_14 : decode jdk_29_method_43_code 14 = .ok (.invokespecial 113, 3) := by decide +kernel
theorem d18_17 : decode jdk_29_method_43_code 17 = .ok (.athrow, 1) := by decide +kernel
theorem d18_18 : decode jdk_29_method_43_code 18 = .ok (.lload_n 0, 1) := by decide +kernel
theorem d18_19 : decode jdk_29_method_43_code 19 = .ok (.l2i, 1) := by decide +kernel
theorem d18_20 : decode jdk_29_method_43_code 20 = .ok (.ireturn, 1) := by decide +kernel
theorem ef_18 (m : MethodId) (q0 : Int64) : entryFrame m #[(.long q0)] 2 = mkF m 0 #[.val (.long q0), .second] [] := by first | (simp [entryFrame, mkF, argsToLocals, Value.category]; done) | rfl
set_option maxRecDepth 65536 in
set_option maxHeartbeats 40000000 in
theorem c18 (l : Launch) (Z : State) (a0 : Array Value) (hw : ∀ d ∈ tables_1, d.before a0 Z = true) (q0 : Int64) (h0 : Heap) (hfit : (q0.toInt32).toInt64 = q0) : Own.Con l Z (⟨"java/lang/Math", "toIntExact", "(J)I"⟩ : MethodName) jdk_29_method_43_code 2 (some .int) ({ frames := 0, cells := 0, slots := 0, locals := 0 } : Room) #[(.long q0)] h0 (Own.Pure (.int q0.toInt32) h0) := by
  intro ws
  refine MetFree.of_bodySF (Jvm.Free.JP.mathPlain rfl (by decide +kernel)) hisR ?_
  intro p e s m args below meth c s₁ Bd hml0 hP hK
  obtain ⟨rfl, hZ, hh⟩ := hP
  have hx := Bd.exec
  have hby := Bd.bytes
  have hml : c.maxLocals = 2 := hml0
  have hown : s.vm.findClass "java/lang/Math" = some m.cls := findClass_of_methodNamed Bd.named
  have hnm := (name_of_methodNamed Bd.named Bd.method).1
  have X0 : Stand p l e ({ frames := 0, cells := 0, slots := 0, locals := 0 } : Room) s m #[(.long q0)] below meth c s₁ [] 0 0 := Stand.of_body Bd
  have e0 : s₁.heap = h0 := by rw [← hh, Bd.state]; rfl
  have K0 : ∀ t, Steps p.tables e below (s₁.setTop (mkF m 0 #[.val (.long q0), .second] [])) t → Steps p.tables e below (s₁.setTop (entryFrame m #[(.long q0)] 2)) t := fun t k => castTop (ef_18 m q0) k
  generalize s₁.setTop (entryFrame m #[(.long q0)] 2) = B0 at K0 ⊢
  show Own.Fin p e below B0 s (({ frames := 0, cells := 0, slots := 0, locals := 0 } : Room)).cells (({ frames := 0, cells := 0, slots := 0, locals := 0 } : Room)).slots (Own.Pure (.int q0.toInt32) h0)
  have K1 : ∀ t, Steps p.tables e below (s₁.setTop (mkF m 5 #[.val (.long q0), .second] [(.int (lcmpW ((q0.toInt32).toInt64) q0))])) t → Steps p.tables e below B0 t := fun t k => K0 t (by
    refine Own.lloadN X0 hx (hb hby d18_0) rfl ?_
    refine Own.l2i X0 hx (hb hby d18_1) ?_
    refine Own.i2l X0 hx (hb hby d18_2) ?_
    refine Own.lloadN X0 hx (hb hby d18_3) rfl ?_
    refine Own.lcmp X0 hx (hb hby d18_4) ?_
    exact k)
  have K2 : ∀ t, Steps p.tables e below (s₁.setTop (mkF m 20 #[.val (.long q0), .second] [(.int (q0.toInt32))])) t → Steps p.tables e below B0 t := fun t k => K1 t (by
    refine Own.ifYes X0 hx 18 (hb hby d18_5) (Jvm.Free.XT.ll_eq_t (hfit : ((q0.toInt32).toInt64) = q0)) (by decide) (by decide) ?_
    refine Own.lloadN X0 hx (hb hby d18_18) rfl ?_
    refine Own.l2i X0 hx (hb hby d18_19) ?_
    exact k)
  exact Own.finI X0 hx (BodyLoose.notSynchronized Bd) Bd.returns (hb hby d18_20) K2 (by decide) (by decide) ⟨rfl, rfl, e0⟩

theorem d22_0 : decode jdk_18_method_1_code 0 = .ok (.aload_n 0, 1) := by decide +kernel
theorem d22_1 : decode jdk_18_method_1_code 1 = .ok (.invokespecial 1, 3) := by decide +kernel
theorem d22_4 : decode jdk_18_method_1_code 4 = .ok (.return_, 1) := by decide +kernel
theorem pn_1 : plainName "java/lang/Number" = true := by first | (simp [plainName, overriddenIn]; done) | decide +kernel
theorem ef_22 (m : MethodId) (o0 : Addr) : entryFrame m #[(.ref o0)] 1 = mkF m 0 #[.val (.ref o0)] [] := by first | (simp [entryFrame, mkF, argsToLocals, Value.category]; done) | rfl
set_option maxRecDepth 65536 in
set_option maxHeartbeats 40000000 in
theorem c22 (l : Launch) (Z : State) (a0 : Array Value) (hw : ∀ d ∈ tables_1, d.before a0 Z = true) (o0 : Addr) (h0 : Heap) : Own.Con l Z (⟨"java/lang/Number", "<init>", "()V"⟩ : MethodName) jdk_18_method_1_code 1 none ({ frames := 1, cells := 0, slots := 0, locals := 12 } : Room) #[(.ref o0)] h0 (fun v h L => v = none ∧ L = [] ∧ h = h0) := by
  intro ws
  refine MetFree.of_bodySF (plainFor_of_name pn_1) hisR ?_
  intro p e s m args below meth c s₁ Bd hml0 hP hK
  obtain ⟨rfl, hZ, hh⟩ := hP
  have hx := Bd.exec
  have hby := Bd.bytes
  have hml : c.maxLocals = 1 := hml0
  have hown : s.vm.findClass "java/lang/Number" = some m.cls := findClass_of_methodNamed Bd.named
  have hnm := (name_of_methodNamed Bd.named Bd.method).1
  have X0 : Stand p l e ({ frames := 1, cells := 0, slots := 0, locals := 12 } : Room) s m #[(.ref o0)] below meth c s₁ [] 0 0 := Stand.of_body Bd
  have e0 : s₁.heap = h0 := by rw [← hh, Bd.state]; rfl
  have K0 : ∀ t, Steps p.tables e below (s₁.setTop (mkF m 0 #[.val (.ref o0)] [])) t → Steps p.tables e below (s₁.setTop (entryFrame m #[(.ref o0)] 1)) t := fun t k => castTop (ef_22 m o0) k
  generalize s₁.setTop (entryFrame m #[(.ref o0)] 1) = B0 at K0 ⊢
  show Own.Fin p e below B0 s (({ frames := 1, cells := 0, slots := 0, locals := 12 } : Room)).cells (({ frames := 1, cells := 0, slots := 0, locals := 12 } : Room)).slots (fun v h L => v = none ∧ L = [] ∧ h = h0)
  have K1 : ∀ t, Steps p.tables e below (s₁.setTop (mkF m 1 #[.val (.ref o0)] [(.ref o0)])) t → Steps p.tables e below B0 t := fun t k => K0 t (by
    refine Own.aloadN X0 hx (hb hby d22_0) rfl rfl ?_
    exact k)
  obtain ⟨T2, X2, e2, st2⟩ := Own.initO (Ls := #[.val (.ref o0)]) (S := []) (a := o0) X0 hx hZ e0 hown (hw _ (List.mem_of_getElem? (i := 116) rfl)) (hw _ (List.mem_of_getElem? (i := 16) rfl)) (hw _ (List.mem_of_getElem? (i := 17) rfl)) (by rw [hml]; rfl) (hb hby d22_1) (by decide) 0 (Nat.le_of_eq rfl) (by decide)
  have K3 : ∀ t, Steps p.tables e below (T2.setTop (mkF m 4 #[.val (.ref o0)] [])) t → Steps p.tables e below B0 t := fun t k => K1 t (st2 t k)
  exact Own.finV X2 hx (BodyLoose.notSynchronized Bd) Bd.returns (hb hby d22_4) K3 (by decide) (by decide) ⟨rfl, rfl, e2⟩

theorem d21_0 : decode jdk_33_method_23_code 0 = .ok (.aload_n 0, 1) := by decide +kernel
theorem d21_1 : decode jdk_33_method_23_code 1 = .ok (.invokespecial 202, 3) := by decide +kernel
theorem d21_4 : decode jdk_33_method_23_code 4 = .ok (.aload_n 0, 1) := by decide +kernel
theorem d21_5 : decode jdk_33_method_23_code 5 = .ok (.iload_n 1, 1) := by decide +kernel
theorem d21_6 : decode jdk_33_method_23_code 6 = .ok (.putfield 205, 3) := by decide +kernel
theorem d21_9 : decode jdk_33_method_23_code 9 = .ok (.return_, 1) := by decide +kernel
theorem pn_2 : plainName "java/lang/Integer" = true := by first | (simp [plainName, overriddenIn]; done) | decide +kernel
theorem pd_1 : parseMethodDescriptor "()V" = some ⟨[], none⟩ := by decide +kernel
theorem ef_21 (m : MethodId) (o0 : Addr) (p1 : Int32) : entryFrame m #[(.ref o0), (.int p1)] 2 = mkF m 0 #[.val (.ref o0), .val (.int p1)] [] := by first | (simp [entryFrame, mkF, argsToLocals, Value.category]; done) | rfl
set_option maxRecDepth 65536 in
set_option maxHeartbeats 40000000 in
theorem c21 (l : Launch) (Z : State) (a0 : Array Value) (hw : ∀ d ∈ tables_1, d.before a0 Z = true) (o0 : Addr) (p1 : Int32) (n0 : Nat) (old : Value) (h0 : Heap) (Z0 : n0 ≤ h0.size) (E0 : Exa Z h0 o0 "java/lang/Integer") (F0 : Fld Z h0 o0 "java/lang/Integer" "value" "I" old) (g0 : n0 ≤ o0) : Own.Con l Z (⟨"java/lang/Integer", "<init>", "(I)V"⟩ : MethodName) jdk_33_method_23_code 2 none ({ frames := 2, cells := 0, slots := 0, locals := 24 } : Room) #[(.ref o0), (.int p1)] h0 (fun v h L => v = none ∧ Fr n0 L ∧ Keep h0 h [o0] ∧ Exa Z h o0 "java/lang/Integer" ∧ Fld Z h o0 "java/lang/Integer" "value" "I" (.int p1)) := by
  intro ws
  refine MetFree.of_bodySF (plainFor_of_name pn_2) hisR ?_
  intro p e s m args below meth c s₁ Bd hml0 hP hK
  obtain ⟨rfl, hZ, hh⟩ := hP
  have hx := Bd.exec
  have hby := Bd.bytes
  have hml : c.maxLocals = 2 := hml0
  have hown : s.vm.findClass "java/lang/Integer" = some m.cls := findClass_of_methodNamed Bd.named
  have hnm := (name_of_methodNamed Bd.named Bd.method).1
  have X0 : Stand p l e ({ frames := 2, cells := 0, slots := 0, locals := 24 } : Room) s m #[(.ref o0), (.int p1)] below meth c s₁ [] 0 0 := Stand.of_body Bd
  have e0 : s₁.heap = h0 := by rw [← hh, Bd.state]; rfl
  have K0 : ∀ t, Steps p.tables e below (s₁.setTop (mkF m 0 #[.val (.ref o0), .val (.int p1)] [])) t → Steps p.tables e below (s₁.setTop (entryFrame m #[(.ref o0), (.int p1)] 2)) t := fun t k => castTop (ef_21 m o0 p1) k
  generalize s₁.setTop (entryFrame m #[(.ref o0), (.int p1)] 2) = B0 at K0 ⊢
  show Own.Fin p e below B0 s (({ frames := 2, cells := 0, slots := 0, locals := 24 } : Room)).cells (({ frames := 2, cells := 0, slots := 0, locals := 24 } : Room)).slots (fun v h L => v = none ∧ Fr n0 L ∧ Keep h0 h [o0] ∧ Exa Z h o0 "java/lang/Integer" ∧ Fld Z h o0 "java/lang/Integer" "value" "I" (.int p1))
  have K1 : ∀ t, Steps p.tables e below (s₁.setTop (mkF m 1 #[.val (.ref o0), .val (.int p1)] [(.ref o0)])) t → Steps p.tables e below B0 t := fun t k => K0 t (by
    refine Own.aloadN X0 hx (hb hby d21_0) rfl rfl ?_
    exact k)
  obtain ⟨T2, X2, e2, st2⟩ := Own.callIP (Ls := #[.val (.ref o0), .val (.int p1)]) X0 hx hZ e0 rfl o0 [] [] (c22 l Z a0 hw o0 h0) hown (hw _ (List.mem_of_getElem? (i := 110) rfl)) (hw _ (List.mem_of_getElem? (i := 111) rfl)) (hw _ (List.mem_of_getElem? (i := 114) rfl)) (hw _ (List.mem_of_getElem? (i := 115) rfl)) (by decide) 0 rfl rfl (by decide) (by decide) (by decide) (by decide) (by rw [hml]; rfl) (lenOf pd_1 rfl) rfl (Nat.le_of_eq rfl) (hb hby d21_1)
  have K3 : ∀ t, Steps p.tables e below (T2.setTop (mkF m 4 #[.val (.ref o0), .val (.int p1)] [])) t → Steps p.tables e below B0 t := fun t k => K1 t (st2 t k)
  have K4 : ∀ t, Steps p.tables e below (T2.setTop (mkF m 6 #[.val (.ref o0), .val (.int p1)] [(.int p1), (.ref o0)])) t → Steps p.tables e below B0 t := fun t k => K3 t (by
    refine Own.aloadN X2 hx (hb hby d21_4) rfl rfl ?_
    refine Own.iloadN X2 hx (hb hby d21_5) rfl ?_
    exact k)
  obtain ⟨T5, h5, L5, X5, e5, n5, W5, F5, st5⟩ := Own.putF (Ls := #[.val (.ref o0), .val (.int p1)]) (S := []) (v := (.int p1)) X2 hx hZ e2 hown (host := "") (Or.inl (hw _ (List.mem_of_getElem? (i := 102) rfl))) Via.refl F0 E0 (Or.inr ⟨(hw _ (List.mem_of_getElem? (i := 103) rfl)), rfl, hnm⟩) (hw _ (List.mem_of_getElem? (i := 105) rfl)) (ty := .int) (by decide) rfl rfl (hb hby d21_6)
  have N5 : Fr n0 L5 := n5 n0 (Fr.nil _) g0
  have m6 : h0.size ≤ h5.size := Nat.le_of_eq W5.size.symm
  have K7 : ∀ t, Steps p.tables e below (T5.setTop (mkF m 9 #[.val (.ref o0), .val (.int p1)] [])) t → Steps p.tables e below B0 t := fun t k => K4 t (st5 t k)
  have f8 := (E0.wr W5)
  have kp := ((Keep.refl h0 [o0]).wr W5 (Or.inl (List.mem_of_getElem? (i := 0) rfl)))
  exact Own.finV X5 hx (BodyLoose.notSynchronized Bd) Bd.returns (hb hby d21_9) K7 (by decide) (by decide) (by rw [e5]; exact ⟨rfl, N5, kp, f8, F5⟩)

def own_Cache (Z : State) (h : Heap) (w : Addr) : Prop := ∃ cl, Arr Z h w cl (.object "java/lang/Integer") ∧ cl.slots.size = 256 ∧ ∀ k, k < 256 → ∃ b, cl.slots[k]? = some (.ref b) ∧ Exa Z h b "java/lang/Integer" ∧ Fld Z h b "java/lang/Integer" "value" "I" (.int (k.toInt32 - 128))
theorem own_Cache.ext {Z : State} {h h' : Heap} {w : Addr} (F : own_Cache Z h w) (E : Ext h h') : own_Cache Z h' w := by
  obtain ⟨cl, A, S, H⟩ := F
  exact ⟨cl, A.ext E, S, fun k hk => by obtain ⟨b, h1, h2, h3⟩ := H k hk; exact ⟨b, h1, h2.ext E, h3.ext E⟩⟩

theorem d19_0 : decode jdk_33_method_22_code 0 = .ok (.iload_n 0, 1) := by decide +kernel
theorem d19_1 : decode jdk_33_method_22_code 1 = .ok (.bipush (-128), 2) := by decide +kernel
theorem d19_3 : decode jdk_33_method_22_code 3 = .ok (.if_icmp .lt 20, 3) := by decide +kernel
theorem d19_6 : decode jdk_33_method_22_code 6 = .ok (.iload_n 0, 1) := by decide +kernel
theorem d19_7 : decode jdk_33_method_22_code 7 = .ok (.getstatic 191, 3) := by decide +kernel
theorem d19_10 : decode jdk_33_method_22_code 10 = .ok (.if_icmp .gt 13, 3) := by decide +kernel
theorem d19_13 : decode jdk_33_method_22_code 13 = .ok (.getstatic 195, 3) := by decide +kernel
theorem d19_16 : decode jdk_33_method_22_code 16 = .ok (.iload_n 0, 1) := by decide +kernel
theorem d19_17 : decode jdk_33_method_22_code 17 = .ok (.sipush 128, 3) := by decide +kernel
theorem d19_20 : decode jdk_33_method_22_code 20 = .ok (.iadd, 1) := by decide +kernel
theorem d19_21 : decode jdk_33_method_22_code 21 = .ok (.aaload, 1) := by decide +kernel
theorem d19_22 : decode jdk_33_method_22_code 22 = .ok (.areturn, 1) := by decide +kernel
theorem d19_23 : decode jdk_33_method_22_code 23 = .ok (.new 1, 3) := by decide +kernel
theorem d19_26 : decode jdk_33_method_22_code 26 = .ok (.dup, 1) := by decide +kernel
theorem d19_27 : decode jdk_33_method_22_code 27 = .ok (.iload_n 0, 1) := by decide +kernel
theorem d19_28 : decode jdk_33_method_22_code 28 = .ok (.invokespecial 199, 3) := by decide +kernel
theorem d19_31 : decode jdk_33_method_22_code 31 = .ok (.areturn, 1) := by decide +kernel
theorem pd_2 : parseMethodDescriptor "(I)V" = some ⟨[.int], none⟩ := by decide +kernel
theorem ef_19 (m : MethodId) (p0 : Int32) : entryFrame m #[(.int p0)] 1 = mkF m 0 #[.val (.int p0)] [] := by first | (simp [entryFrame, mkF, argsToLocals, Value.category]; done) | rfl
set_option maxRecDepth 65536 in
set_option maxHeartbeats 40000000 in
theorem c19 (l : Launch) (Z : State) (a0 : Array Value) (hw : ∀ d ∈ tables_1, d.before a0 Z = true) (p0 : Int32) (n0 : Nat) (wc : Addr) (h0 : Heap) (Z0 : n0 ≤ h0.size) (SH : Sta Z h0 "java/lang/Integer$IntegerCache" "high" "I" (.int 127)) (SA : Sta Z h0 "java/lang/Integer$IntegerCache" "cache" "[Ljava/lang/Integer;" (.ref wc)) (KC : own_Cache Z h0 wc) (hlo : ¬ p0 < (-128 : Int32)) : Own.Con l Z (⟨"java/lang/Integer", "valueOf", "(I)Ljava/lang/Integer;"⟩ : MethodName) jdk_33_method_22_code 1 (some (.object "java/lang/Integer")) ({ frames := 3, cells := 1, slots := 1, locals := 38 } : Room) #[(.int p0)] h0 (fun v h L => ∃ b, v = some (.ref b) ∧ Fr n0 L ∧ Keep h0 h [] ∧ Exa Z h b "java/lang/Integer" ∧ Fld Z h b "java/lang/Integer" "value" "I" (.int p0)) := by
  intro ws
  refine MetFree.of_bodySF (plainFor_of_name pn_2) hisR ?_
  intro p e s m args below meth c s₁ Bd hml0 hP hK
  obtain ⟨rfl, hZ, hh⟩ := hP
  have hx := Bd.exec
  have hby := Bd.bytes
  have hml : c.maxLocals = 1 := hml0
  have hown : s.vm.findClass "java/lang/Integer" = some m.cls := findClass_of_methodNamed Bd.named
  have hnm := (name_of_methodNamed Bd.named Bd.method).1
  have X0 : Stand p l e ({ frames := 3, cells := 1, slots := 1, locals := 38 } : Room) s m #[(.int p0)] below meth c s₁ [] 0 0 := Stand.of_body Bd
  have e0 : s₁.heap = h0 := by rw [← hh, Bd.state]; rfl
  have K0 : ∀ t, Steps p.tables e below (s₁.setTop (mkF m 0 #[.val (.int p0)] [])) t → Steps p.tables e below (s₁.setTop (entryFrame m #[(.int p0)] 1)) t := fun t k => castTop (ef_19 m p0) k
  generalize s₁.setTop (entryFrame m #[(.int p0)] 1) = B0 at K0 ⊢
  show Own.Fin p e below B0 s (({ frames := 3, cells := 1, slots := 1, locals := 38 } : Room)).cells (({ frames := 3, cells := 1, slots := 1, locals := 38 } : Room)).slots (fun v h L => ∃ b, v = some (.ref b) ∧ Fr n0 L ∧ Keep h0 h [] ∧ Exa Z h b "java/lang/Integer" ∧ Fld Z h b "java/lang/Integer" "value" "I" (.int p0))
  have K1 : ∀ t, Steps p.tables e below (s₁.setTop (mkF m 3 #[.val (.int p0)] [(.int (-128 : Int32)), (.int p0)])) t → Steps p.tables e below B0 t := fun t k => K0 t (by
    refine Own.iloadN X0 hx (hb hby d19_0) rfl ?_
    refine Own.bipush X0 hx (-128 : Int32) (hb hby d19_1) rfl ?_
    exact k)
  have K2 : ∀ t, Steps p.tables e below (s₁.setTop (mkF m 7 #[.val (.int p0)] [(.int p0)])) t → Steps p.tables e below B0 t := fun t k => K1 t (by
    refine Own.icmpNo X0 hx (hb hby d19_3) (flt (hlo : ¬ (p0 < (-128 : Int32)))).1 ?_
    refine Own.iloadN X0 hx (hb hby d19_6) rfl ?_
    exact k)
  obtain ⟨T3, X3, e3, st3⟩ := Own.getS (Ls := #[.val (.int p0)]) X0 hx hZ e0 hown (host := "") (Or.inl (hw _ (List.mem_of_getElem? (i := 94) rfl))) Via.refl SH (S := [(.int p0)]) (hb hby d19_7)
  have K4 : ∀ t, Steps p.tables e below (T3.setTop (mkF m 10 #[.val (.int p0)] [(.int (127 : Int32)), (.int p0)])) t → Steps p.tables e below B0 t := fun t k => K2 t (st3 t k)
  by_cases hc5 : (127 : Int32) < p0
  · have K6 : ∀ t, Steps p.tables e below (T3.setTop (mkF m 23 #[.val (.int p0)] [])) t → Steps p.tables e below B0 t := fun t k => K4 t (by
      refine Own.icmpYes X3 hx 23 (hb hby d19_10) (tlt hc5).2.2.1 (by decide) (by decide) ?_
      exact k)
    obtain ⟨T7, h7, b7, X7, e7, E7, g7, A7, D7, st7⟩ := Own.newO (Ls := #[.val (.int p0)]) (S := []) X3 hx hZ e3 hown (hw _ (List.mem_of_getElem? (i := 104) rfl)) (hw _ (List.mem_of_getElem? (i := 105) rfl)) (hw _ (List.mem_of_getElem? (i := 92) rfl)) (hb hby d19_23) (by decide) (by decide)
    have le_b7 : h0.size ≤ b7 := Nat.le_of_eq g7.symm
    have X7 : Stand p l e ({ frames := 3, cells := 1, slots := 1, locals := 38 } : Room) s m #[(.int p0)] below meth c T7 [] 1 1 := X7
    have m8 : h0.size ≤ h7.size := E7.1
    have F7_value : Fld Z h7 b7 "java/lang/Integer" "value" "I" (.int (0 : Int32)) := D7 (Or.inr (hw _ (List.mem_of_getElem? (i := 103) rfl))) (ty := .int) (by decide)
    have K9 : ∀ t, Steps p.tables e below (T7.setTop (mkF m 26 #[.val (.int p0)] [(.ref b7)])) t → Steps p.tables e below B0 t := fun t k => K6 t (st7 t k)
    have K10 : ∀ t, Steps p.tables e below (T7.setTop (mkF m 28 #[.val (.int p0)] [(.int p0), (.ref b7), (.ref b7)])) t → Steps p.tables e below B0 t := fun t k => K9 t (by
      refine Own.dup X7 hx (hb hby d19_26) rfl ?_
      refine Own.iloadN X7 hx (hb hby d19_27) rfl ?_
      exact k)
    obtain ⟨T11, h11, v11, J11, L11, X11, e11, n11, hQ11, st11⟩ := Own.callI (Ls := #[.val (.int p0)]) X7 hx hZ e7 rfl b7 [(.int p0)] [(.ref b7)] (c21 l Z a0 hw b7 p0 n0 (.int (0 : Int32)) h7 (Nat.le_trans Z0 m8) A7 F7_value (Nat.le_trans Z0 (Nat.le_trans (Nat.le_refl _) le_b7))) hown (hw _ (List.mem_of_getElem? (i := 106) rfl)) (hw _ (List.mem_of_getElem? (i := 107) rfl)) (hw _ (List.mem_of_getElem? (i := 92) rfl)) (hw _ (List.mem_of_getElem? (i := 109) rfl)) (by decide) 1 (by decide) (by decide) (by decide) (by decide) (by rw [hml]; rfl) (lenOf pd_2 rfl) rfl (Nat.le_of_eq rfl) (hb hby d19_28)
    have X11 : Stand p l e ({ frames := 3, cells := 1, slots := 1, locals := 38 } : Room) s m #[(.int p0)] below meth c T11 L11 1 1 := X11
    obtain ⟨rfl, NN11, K11, E11, F11⟩ := hQ11
    have N11 : Fr n0 L11 := n11 n0 (Fr.nil _) NN11
    have m12 : h7.size ≤ h11.size := K11.1
    have K13 : ∀ t, Steps p.tables e below (T11.setTop (mkF m 31 #[.val (.int p0)] [(.ref b7)])) t → Steps p.tables e below B0 t := fun t k => K10 t (st11 t k)
    have kp := (((Keep.refl h0 []).ext E7).trans K11 (allS (Or.inr le_b7) all0))
    exact Own.finA X11 hx (BodyLoose.notSynchronized Bd) Bd.returns rfl rfl (hb hby d19_31) K13 (by decide) (by decide) (by rw [e11]; exact ⟨_, rfl, N11, kp, E11, F11⟩)
  · have K14 : ∀ t, Steps p.tables e below (T3.setTop (mkF m 13 #[.val (.int p0)] [])) t → Steps p.tables e below B0 t := fun t k => K4 t (by
      refine Own.icmpNo X3 hx (hb hby d19_10) (flt hc5).2.2.1 ?_
      exact k)
    obtain ⟨T15, X15, e15, st15⟩ := Own.getS (Ls := #[.val (.int p0)]) X3 hx hZ e3 hown (host := "") (Or.inl (hw _ (List.mem_of_getElem? (i := 96) rfl))) Via.refl SA (S := []) (hb hby d19_13)
    have K16 : ∀ t, Steps p.tables e below (T15.setTop (mkF m 16 #[.val (.int p0)] [(.ref wc)])) t → Steps p.tables e below B0 t := fun t k => K14 t (st15 t k)
    have K17 : ∀ t, Steps p.tables e below (T15.setTop (mkF m 21 #[.val (.int p0)] [(.int (p0 + (128 : Int32))), (.ref wc)])) t → Steps p.tables e below B0 t := fun t k => K16 t (by
      refine Own.iloadN X15 hx (hb hby d19_16) rfl ?_
      refine Own.sipush X15 hx (128 : Int32) (hb hby d19_17) rfl ?_
      refine Own.iadd X15 hx (hb hby d19_20) ?_
      exact k)
    obtain ⟨cl, A, S, H⟩ := KC
    have pk := Jvm.Free.IntBox.place_ok p0 hlo hc5
    obtain ⟨b, q1, q2, q3⟩ := H _ pk.2
    rw [Jvm.Free.IntBox.place_val p0 hlo hc5] at q3
    have K18 : ∀ t, Steps p.tables e below (T15.setTop (mkF m 22 #[.val (.int p0)] [(.ref b)])) t → Steps p.tables e below B0 t := fun t k => K17 t (by
      refine Own.aal X15 hx hZ e15 A rfl (.ref b) (by rw [S]; exact pk.1) q1 (hb hby d19_21) ?_
      exact k)
    have kp := (Keep.refl h0 [])
    exact Own.finA X15 hx (BodyLoose.notSynchronized Bd) Bd.returns rfl rfl (hb hby d19_22) K18 (by decide) (by decide) (by rw [e15]; exact ⟨_, rfl, Fr.nil _, kp, q2, q3⟩)

def own_num (cs : List Int32) : Int → Nat → Nat → Int
  | v, _, 0 => v
  | v, a, n + 1 => own_num cs (v * 10 + ((cs.getD a 0).toInt - 48)) (a + 1) n
theorem own_digit_iff {c : Int32} (h : own_digit c = true) : 48 ≤ c.toInt ∧ c.toInt ≤ 57 := by
  simp only [own_digit, Bool.and_eq_true, Bool.not_eq_true', decide_eq_false_iff_not, Int32.lt_iff_toInt_lt] at h
  obtain ⟨h1, h2⟩ := h
  have e1 : (48 : Int32).toInt = 48 := by decide
  have e2 : (57 : Int32).toInt = 57 := by decide
  omega
theorem own_step {v : Int64} {c : Int32} (hv : 0 ≤ v.toInt) (hv2 : v.toInt < 10 ^ 17) (h1 : 48 ≤ c.toInt) (h2 : c.toInt ≤ 57) : (v * 10 + (c - 48).toInt64).toInt = v.toInt * 10 + (c.toInt - 48) := by
  have e1 : (c - 48).toInt = c.toInt - 48 := by
    rw [Int32.toInt_sub, show (48 : Int32).toInt = 48 by decide]
    exact Int.bmod_eq_of_le (by omega) (by omega)
  have e2 : (v * 10).toInt = v.toInt * 10 := by
    rw [Int64.toInt_mul, show (10 : Int64).toInt = 10 by decide]
    exact Int.bmod_eq_of_le (by omega) (by omega)
  rw [Int64.toInt_add, Int32.toInt_toInt64, e1, e2]
  exact Int.bmod_eq_of_le (by omega) (by omega)
theorem own_dv_num (cs : List Int32) : ∀ (n k a : Nat) (v : Int64), own_allD cs a n = true → 0 ≤ v.toInt → v.toInt < 10 ^ k → k + n ≤ 17 → (own_dv cs v a n).toInt = own_num cs v.toInt a n ∧ 0 ≤ own_num cs v.toInt a n ∧ own_num cs v.toInt a n < 10 ^ (k + n)
  | 0, k, a, v, _, h0, h1, _ => ⟨rfl, h0, h1⟩
  | n + 1, k, a, v, hd, h0, h1, hk => by
    simp only [own_allD, Bool.and_eq_true] at hd
    obtain ⟨d1, d2⟩ := own_digit_iff hd.1
    have hp : (10 : Int) ^ k ≤ 10 ^ 17 := by
      have : (10 : Nat) ^ k ≤ 10 ^ 17 := Nat.pow_le_pow_right (by omega) (by omega)
      exact_mod_cast this
    have hs := own_step h0 (by omega) d1 d2
    have hne : ¬ cs.getD a 0 = 46 := fun q => by rw [q] at d1; exact absurd d1 (by decide)
    have ih := own_dv_num cs n (k + 1) (a + 1) (v * 10 + (cs.getD a 0 - 48).toInt64) hd.2 (by rw [hs]; omega) (by rw [hs, Int.pow_succ]; omega) (by omega)
    rw [hs] at ih
    show (own_dv cs (if cs.getD a 0 = 46 then v else v * 10 + (cs.getD a 0 - 48).toInt64) (a + 1) n).toInt = _ ∧ _
    rw [if_neg hne]
    have e : k + 1 + n = k + (n + 1) := by omega
    rw [e] at ih
    exact ih
theorem own_dv0 {cs : List Int32} {a n : Nat} (hd : own_allD cs a n = true) (hn : n ≤ 9) : (own_dv cs 0 a n).toInt = own_num cs 0 a n ∧ 0 ≤ own_num cs 0 a n ∧ own_num cs 0 a n < 10 ^ 9 := by
  have h := own_dv_num cs n 0 a 0 hd (by decide) (by decide) (by omega)
  have e0 : (0 : Int64).toInt = 0 := by decide
  rw [e0] at h
  have hp : (10 : Int) ^ (0 + n) ≤ 10 ^ 9 := by
    have : (10 : Nat) ^ (0 + n) ≤ 10 ^ 9 := Nat.pow_le_pow_right (by omega) (by omega)
    exact_mod_cast this
  exact ⟨h.1, h.2.1, by omega⟩
theorem own_fits {x : Int64} (h0 : 0 ≤ x.toInt) (h1 : x.toInt < 10 ^ 9) : x.toInt32.toInt64 = x := Jvm.Free.XT.narrowOk ⟨by omega, by omega⟩
theorem own_low {x : Int64} (h0 : 0 ≤ x.toInt) (h1 : x.toInt < 10 ^ 9) : x.toInt32.toInt = x.toInt := Jvm.Free.XT.narrowInt ⟨by omega, by omega⟩
theorem own_low0 {x : Int64} (h0 : 0 ≤ x.toInt) (h1 : x.toInt < 10 ^ 9) : ¬ x.toInt32 < (-128 : Int32) := by
  rw [Int32.lt_iff_toInt_lt, own_low h0 h1, show (-128 : Int32).toInt = -128 by decide]; omega
theorem own_sub {i j : Nat} (hij : i ≤ j) (hj : j ≤ 4000) : Int32.ofNat j - Int32.ofNat i = Int32.ofNat (j - i) := by
  rw [← Int32.toInt_inj, Int32.toInt_sub, Int32.toInt_ofNat_small (by omega), Int32.toInt_ofNat_small (by omega), Int32.toInt_ofNat_small (by omega)]
  rw [Int.bmod_eq_of_le (by omega) (by omega)]; omega
theorem own_ofNat_inj {a b : Nat} (ha : a < 2 ^ 31) (hb : b < 2 ^ 31) : Int32.ofNat a = Int32.ofNat b ↔ a = b := by
  rw [← Int32.toInt_inj, Int32.toInt_ofNat_small ha, Int32.toInt_ofNat_small hb]; omega
theorem own_isd1 {cs : List Int32} {i j : Nat} (h : ¬ own_isd cs i j = 0) : i < j ∧ own_allD cs i (j - i) = true := by
  unfold own_isd at h
  by_cases h1 : i < j
  · rw [if_pos h1] at h
    by_cases h2 : own_allD cs i (j - i) = true
    · exact ⟨h1, h2⟩
    · rw [if_neg h2] at h; exact absurd rfl h
  · rw [if_neg h1] at h; exact absurd rfl h
theorem own_isd0 {cs : List Int32} {i j : Nat} (h : own_isd cs i j = 0) : ¬ (i < j ∧ own_allD cs i (j - i) = true) := fun q => by
  unfold own_isd at h
  rw [if_pos q.1, if_pos q.2] at h
  exact absurd h (by decide)

theorem own_mask (x : Int32) (n : Nat) (y : Int32) (hy : y.toBitVec = BitVec.ofNat 32 (2 ^ n - 1)) (hn : n ≤ 30) : (x &&& y).toInt = x.toInt % 2 ^ n := by
  have hp : 2 ^ n ≤ 2 ^ 30 := Nat.pow_le_pow_right (by omega) hn
  have hp0 : 0 < 2 ^ n := Nat.two_pow_pos n
  have h2 : (x.toBitVec &&& y.toBitVec).toNat = x.toBitVec.toNat % 2 ^ n := by
    rw [BitVec.toNat_and, hy, BitVec.toNat_ofNat, Nat.mod_eq_of_lt (by omega)]
    exact Nat.and_two_pow_sub_one_eq_mod _ n
  have h1 : (x &&& y).toInt = ((x.toBitVec &&& y.toBitVec).toNat : Int) := by
    show (x &&& y).toBitVec.toInt = _
    rw [Int32.toBitVec_and]
    have : (x.toBitVec &&& y.toBitVec).toNat < 2 ^ n := by rw [h2]; exact Nat.mod_lt _ hp0
    rw [BitVec.toInt_eq_toNat_cond, if_pos (by omega)]
  have h3 : x.toInt = x.toBitVec.toInt := rfl
  have h4 : ((2 : Int) ^ n) = ((2 ^ n : Nat) : Int) := by simp
  have h5 : (2 ^ 32 : Nat) % 2 ^ n = 0 := Nat.mod_eq_zero_of_dvd (Nat.pow_dvd_pow 2 (by omega))
  rw [h1, h2, h3, BitVec.toInt_eq_toNat_cond, h4]
  split
  · exact Int.natCast_emod _ _
  · rw [Int.natCast_emod, Int.sub_emod]
    have : ((2 ^ 32 : Nat) : Int) % ((2 ^ n : Nat) : Int) = 0 := by rw [← Int.natCast_emod, h5]; rfl
    rw [this, Int.sub_zero, Int.emod_emod_of_dvd _ (Int.dvd_refl _)]
theorem own_nat {x : Int32} {n : Nat} (h0 : 0 ≤ x.toInt) (h1 : x.toInt < n) (hn : n < 2 ^ 31) : ∃ i : Nat, i < n ∧ x = Int32.ofNat i := by
  refine ⟨x.toInt.toNat, by omega, ?_⟩
  rw [← Int32.toInt_inj, Int32.toInt_ofNat_small (by omega)]; omega
theorem own_rem (k u : Int32) (hu : 0 < u.toInt) : 0 ≤ ((k &&& 2147483647) % u).toInt ∧ ((k &&& 2147483647) % u).toInt < u.toInt := by
  have h0 : 0 ≤ (k &&& 2147483647).toInt := by
    have : ¬ (k &&& 2147483647) < 0 := by
      rw [Jvm.Free.XT.and_neg32]; exact fun q => absurd q.2 (by decide)
    rw [Int32.lt_iff_toInt_lt] at this
    exact Int.not_lt.mp this
  rw [Int32.toInt_mod]
  exact ⟨Int.tmod_nonneg _ h0, Int.tmod_lt_of_pos _ hu⟩

theorem own_nar {x : Int32} (h0 : 0 ≤ x.toInt) (h1 : x.toInt < 65536) : nar .char x = x := by
  show x.toUInt32.toUInt16.toUInt32.toInt32 = x
  rw [← Int32.toBitVec_inj]
  show (x.toBitVec.setWidth 16).setWidth 32 = x.toBitVec
  have h3 : x.toInt = x.toBitVec.toInt := rfl
  rw [h3, BitVec.toInt_eq_toNat_cond] at h0 h1
  have h4 := x.toBitVec.isLt
  apply BitVec.eq_of_toNat_eq
  rw [BitVec.toNat_setWidth, BitVec.toNat_setWidth]
  split at h0
  · rw [if_pos (by assumption)] at h1; omega
  · omega
theorem own_lt0 {x : Int32} (h0 : 0 ≤ x.toInt) (h1 : x.toInt ≤ 255) : ¬ x < 0 ∧ ¬ (255 : Int32) < x := by
  rw [Int32.lt_iff_toInt_lt, Int32.lt_iff_toInt_lt, show (0 : Int32).toInt = 0 by decide, show (255 : Int32).toInt = 255 by decide]; omega

theorem d1_0 : decode method_2_code 0 = .ok (.iload_n 0, 1) := by decide +kernel
theorem d1_1 : decode method_2_code 1 = .ok (.sipush 511, 3) := by decide +kernel
theorem d1_4 : decode method_2_code 4 = .ok (.iand, 1) := by decide +kernel
theorem d1_5 : decode method_2_code 5 = .ok (.istore_n 1, 1) := by decide +kernel
theorem d1_6 : decode method_2_code 6 = .ok (.iload_n 1, 1) := by decide +kernel
theorem d1_7 : decode method_2_code 7 = .ok (.sipush 256, 3) := by decide +kernel
theorem d1_10 : decode method_2_code 10 = .ok (.iand, 1) := by decide +kernel
theorem d1_11 : decode method_2_code 11 = .ok (.ifCond .ne 16, 3) := by decide +kernel
theorem d1_14 : decode method_2_code 14 = .ok (.bipush 48, 2) := by decide +kernel
theorem d1_16 : decode method_2_code 16 = .ok (.iload_n 1, 1) := by decide +kernel
theorem d1_17 : decode method_2_code 17 = .ok (.sipush 255, 3) := by decide +kernel
theorem d1_20 : decode method_2_code 20 = .ok (.iand, 1) := by decide +kernel
theorem d1_21 : decode method_2_code 21 = .ok (.bipush 10, 2) := by decide +kernel
theorem d1_23 : decode method_2_code 23 = .ok (.irem, 1) := by decide +kernel
theorem d1_24 : decode method_2_code 24 = .ok (.iadd, 1) := by decide +kernel
theorem d1_25 : decode method_2_code 25 = .ok (.i2c, 1) := by decide +kernel
theorem d1_26 : decode method_2_code 26 = .ok (.ireturn, 1) := by decide +kernel
theorem d1_27 : decode method_2_code 27 = .ok (.iload_n 1, 1) := by decide +kernel
theorem d1_28 : decode method_2_code 28 = .ok (.sipush 255, 3) := by decide +kernel
theorem d1_31 : decode method_2_code 31 = .ok (.iand, 1) := by decide +kernel
theorem d1_32 : decode method_2_code 32 = .ok (.i2c, 1) := by decide +kernel
theorem d1_33 : decode method_2_code 33 = .ok (.ireturn, 1) := by decide +kernel
theorem pn_3 : plainName "com/example/makewhole/makewhole/input/NotationWholeNumberPinLaw" = true := by first | (simp [plainName, overriddenIn]; done) | decide +kernel
theorem ef_1 (m : MethodId) (p0 : Int32) : entryFrame m #[(.int p0)] 2 = mkF m 0 #[.val (.int p0), .unset] [] := by first | (simp [entryFrame, mkF, argsToLocals, Value.category]; done) | rfl
def F1 (p0 : Int32) : Int32 := (if ((p0 &&& (511 : Int32)) &&& (256 : Int32)) = (0 : Int32) then (nar .char (((48 : Int32) + (((p0 &&& (511 : Int32)) &&& (255 : Int32)) % (10 : Int32))).toUInt32.toUInt16.toUInt32.toInt32)) else (nar .char (((p0 &&& (511 : Int32)) &&& (255 : Int32)).toUInt32.toUInt16.toUInt32.toInt32)))
set_option maxRecDepth 65536 in
set_option maxHeartbeats 40000000 in
theorem c1 (l : Launch) (Z : State) (a0 : Array Value) (hw : ∀ d ∈ tables_1, d.before a0 Z = true) (p0 : Int32) (h0 : Heap) : Own.Con l Z (⟨"com/example/makewhole/makewhole/input/NotationWholeNumberPinLaw", "pick", "(I)C"⟩ : MethodName) method_2_code 2 (some .char) ({ frames := 0, cells := 0, slots := 0, locals := 0 } : Room) #[(.int p0)] h0 (Own.Pure (.int (F1 p0)) h0) := by
  intro ws
  refine MetFree.of_bodySF (plainFor_of_name pn_3) hisR ?_
  intro p e s m args below meth c s₁ Bd hml0 hP hK
  obtain ⟨rfl, hZ, hh⟩ := hP
  have hx := Bd.exec
  have hby := Bd.bytes
  have hml : c.maxLocals = 2 := hml0
  have hown : s.vm.findClass "com/example/makewhole/makewhole/input/NotationWholeNumberPinLaw" = some m.cls := findClass_of_methodNamed Bd.named
  have hnm := (name_of_methodNamed Bd.named Bd.method).1
  have X0 : Stand p l e ({ frames := 0, cells := 0, slots := 0, locals := 0 } : Room) s m #[(.int p0)] below meth c s₁ [] 0 0 := Stand.of_body Bd
  have e0 : s₁.heap = h0 := by rw [← hh, Bd.state]; rfl
  have K0 : ∀ t, Steps p.tables e below (s₁.setTop (mkF m 0 #[.val (.int p0), .unset] [])) t → Steps p.tables e below (s₁.setTop (entryFrame m #[(.int p0)] 2)) t := fun t k => castTop (ef_1 m p0) k
  generalize s₁.setTop (entryFrame m #[(.int p0)] 2) = B0 at K0 ⊢
  show Own.Fin p e below B0 s (({ frames := 0, cells := 0, slots := 0, locals := 0 } : Room)).cells (({ frames := 0, cells := 0, slots := 0, locals := 0 } : Room)).slots (Own.Pure (.int (F1 p0)) h0)
  have K1 : ∀ t, Steps p.tables e below (s₁.setTop (mkF m 11 #[.val (.int p0), .val (.int (p0 &&& (511 : Int32)))] [(.int ((p0 &&& (511 : Int32)) &&& (256 : Int32)))])) t → Steps p.tables e below B0 t := fun t k => K0 t (by
    refine Own.iloadN X0 hx (hb hby d1_0) rfl ?_
    refine Own.sipush X0 hx (511 : Int32) (hb hby d1_1) rfl ?_
    refine Own.iand X0 hx (hb hby d1_4) ?_
    refine Own.istoreN X0 hx #[.val (.int p0), .val (.int (p0 &&& (511 : Int32)))] (hb hby d1_5) rfl ?_
    refine Own.iloadN X0 hx (hb hby d1_6) rfl ?_
    refine Own.sipush X0 hx (256 : Int32) (hb hby d1_7) rfl ?_
    refine Own.iand X0 hx (hb hby d1_10) ?_
    exact k)
  by_cases hc2 : ((p0 &&& (511 : Int32)) &&& (256 : Int32)) = (0 : Int32)
  · have K3 : ∀ t, Steps p.tables e below (s₁.setTop (mkF m 26 #[.val (.int p0), .val (.int (p0 &&& (511 : Int32)))] [(.int (((48 : Int32) + (((p0 &&& (511 : Int32)) &&& (255 : Int32)) % (10 : Int32))).toUInt32.toUInt16.toUInt32.toInt32))])) t → Steps p.tables e below B0 t := fun t k => K1 t (by
      refine Own.ifNo X0 hx (hb hby d1_11) ((if0 _ _).trans (teq hc2).2) ?_
      refine Own.bipush X0 hx (48 : Int32) (hb hby d1_14) rfl ?_
      refine Own.iloadN X0 hx (hb hby d1_16) rfl ?_
      refine Own.sipush X0 hx (255 : Int32) (hb hby d1_17) rfl ?_
      refine Own.iand X0 hx (hb hby d1_20) ?_
      refine Own.bipush X0 hx (10 : Int32) (hb hby d1_21) rfl ?_
      refine Own.irem X0 hx (hb hby d1_23) (by decide) ?_
      refine Own.iadd X0 hx (hb hby d1_24) ?_
      refine Own.i2c X0 hx (hb hby d1_25) ?_
      exact k)
    exact Own.finN X0 hx (BodyLoose.notSynchronized Bd) Bd.returns (by simp) (hb hby d1_26) K3 (by decide) (by decide) ⟨by unfold F1; first | (rw [if_pos hc2]; done) | (rw [if_pos hc2]; rfl), rfl, e0⟩
  · have K4 : ∀ t, Steps p.tables e below (s₁.setTop (mkF m 33 #[.val (.int p0), .val (.int (p0 &&& (511 : Int32)))] [(.int (((p0 &&& (511 : Int32)) &&& (255 : Int32)).toUInt32.toUInt16.toUInt32.toInt32))])) t → Steps p.tables e below B0 t := fun t k => K1 t (by
      refine Own.ifYes X0 hx 27 (hb hby d1_11) ((if0 _ _).trans (feq hc2).2) (by decide) (by decide) ?_
      refine Own.iloadN X0 hx (hb hby d1_27) rfl ?_
      refine Own.sipush X0 hx (255 : Int32) (hb hby d1_28) rfl ?_
      refine Own.iand X0 hx (hb hby d1_31) ?_
      refine Own.i2c X0 hx (hb hby d1_32) ?_
      exact k)
    exact Own.finN X0 hx (BodyLoose.notSynchronized Bd) Bd.returns (by simp) (hb hby d1_33) K4 (by decide) (by decide) ⟨by unfold F1; first | (rw [if_neg hc2]; done) | (rw [if_neg hc2]; rfl), rfl, e0⟩

theorem d20_0 : decode jdk_33_method_28_code 0 = .ok (.aload_n 0, 1) := by decide +kernel
theorem d20_1 : decode jdk_33_method_28_code 1 = .ok (.getfield 205, 3) := by decide +kernel
theorem d20_4 : decode jdk_33_method_28_code 4 = .ok (.i2l, 1) := by decide +kernel
theorem d20_5 : decode jdk_33_method_28_code 5 = .ok (.lreturn, 1) := by decide +kernel
theorem ef_20 (m : MethodId) (o0 : Addr) : entryFrame m #[(.ref o0)] 1 = mkF m 0 #[.val (.ref o0)] [] := by first | (simp [entryFrame, mkF, argsToLocals, Value.category]; done) | rfl
set_option maxRecDepth 65536 in
set_option maxHeartbeats 40000000 in
theorem c20 (l : Launch) (Z : State) (a0 : Array Value) (hw : ∀ d ∈ tables_1, d.before a0 Z = true) (o0 : Addr) (v : Int32) (h0 : Heap) (FV : Fld Z h0 o0 "java/lang/Integer" "value" "I" (.int v)) : Own.Con l Z (⟨"java/lang/Integer", "longValue", "()J"⟩ : MethodName) jdk_33_method_28_code 1 (some .long) ({ frames := 0, cells := 0, slots := 0, locals := 0 } : Room) #[(.ref o0)] h0 (Own.Pure (.long v.toInt64) h0) := by
  intro ws
  refine MetFree.of_bodySF (plainFor_of_name pn_2) hisR ?_
  intro p e s m args below meth c s₁ Bd hml0 hP hK
  obtain ⟨rfl, hZ, hh⟩ := hP
  have hx := Bd.exec
  have hby := Bd.bytes
  have hml : c.maxLocals = 1 := hml0
  have hown : s.vm.findClass "java/lang/Integer" = some m.cls := findClass_of_methodNamed Bd.named
  have hnm := (name_of_methodNamed Bd.named Bd.method).1
  have X0 : Stand p l e ({ frames := 0, cells := 0, slots := 0, locals := 0 } : Room) s m #[(.ref o0)] below meth c s₁ [] 0 0 := Stand.of_body Bd
  have e0 : s₁.heap = h0 := by rw [← hh, Bd.state]; rfl
  have K0 : ∀ t, Steps p.tables e below (s₁.setTop (mkF m 0 #[.val (.ref o0)] [])) t → Steps p.tables e below (s₁.setTop (entryFrame m #[(.ref o0)] 1)) t := fun t k => castTop (ef_20 m o0) k
  generalize s₁.setTop (entryFrame m #[(.ref o0)] 1) = B0 at K0 ⊢
  show Own.Fin p e below B0 s (({ frames := 0, cells := 0, slots := 0, locals := 0 } : Room)).cells (({ frames := 0, cells := 0, slots := 0, locals := 0 } : Room)).slots (Own.Pure (.long v.toInt64) h0)
  have K1 : ∀ t, Steps p.tables e below (s₁.setTop (mkF m 1 #[.val (.ref o0)] [(.ref o0)])) t → Steps p.tables e below B0 t := fun t k => K0 t (by
    refine Own.aloadN X0 hx (hb hby d20_0) rfl rfl ?_
    exact k)
  obtain ⟨T2, X2, e2, st2⟩ := Own.getF (Ls := #[.val (.ref o0)]) X0 hx hZ e0 hown (host := "") (Or.inl (hw _ (List.mem_of_getElem? (i := 102) rfl))) Via.refl FV (S := []) (hb hby d20_1)
  have K3 : ∀ t, Steps p.tables e below (T2.setTop (mkF m 4 #[.val (.ref o0)] [(.int v)])) t → Steps p.tables e below B0 t := fun t k => K1 t (st2 t k)
  have K4 : ∀ t, Steps p.tables e below (T2.setTop (mkF m 5 #[.val (.ref o0)] [(.long (v.toInt64))])) t → Steps p.tables e below B0 t := fun t k => K3 t (by
    refine Own.i2l X2 hx (hb hby d20_4) ?_
    exact k)
  exact Own.finJ X2 hx (BodyLoose.notSynchronized Bd) Bd.returns (hb hby d20_5) K4 (by decide) (by decide) ⟨rfl, rfl, e2⟩

theorem own_gt9 {i j : Nat} (hi : i ≤ 4000) (hj : j ≤ 4000) : (9 : Int32) < Int32.ofNat j - Int32.ofNat i ↔ i + 9 < j := by
  rw [Int32.lt_iff_toInt_lt, Int32.toInt_sub, Int32.toInt_ofNat_small (by omega), Int32.toInt_ofNat_small (by omega), show (9 : Int32).toInt = 9 by decide, Int.bmod_eq_of_le (by omega) (by omega)]
  omega

theorem d10_0 : decode prog_9_method_6_code 0 = .ok (.iload_n 2, 1) := by decide +kernel
theorem d10_1 : decode prog_9_method_6_code 1 = .ok (.iload_n 1, 1) := by decide +kernel
theorem d10_2 : decode prog_9_method_6_code 2 = .ok (.isub, 1) := by decide +kernel
theorem d10_3 : decode prog_9_method_6_code 3 = .ok (.bipush 9, 2) := by decide +kernel
theorem d10_5 : decode prog_9_method_6_code 5 = .ok (.if_icmp .gt 12, 3) := by decide +kernel
theorem d10_8 : decode prog_9_method_6_code 8 = .ok (.aload_n 0, 1) := by decide +kernel
theorem d10_9 : decode prog_9_method_6_code 9 = .ok (.iload_n 1, 1) := by decide +kernel
theorem d10_10 : decode prog_9_method_6_code 10 = .ok (.iload_n 2, 1) := by decide +kernel
theorem d10_11 : decode prog_9_method_6_code 11 = .ok (.invokestatic 52, 3) := by decide +kernel
theorem d10_14 : decode prog_9_method_6_code 14 = .ok (.ifCond .ne 5, 3) := by decide +kernel
theorem d10_17 : decode prog_9_method_6_code 17 = .ok (.aconst_null, 1) := by decide +kernel
theorem d10_18 : decode prog_9_method_6_code 18 = .ok (.areturn, 1) := by decide +kernel
theorem d10_19 : decode prog_9_method_6_code 19 = .ok (.aload_n 0, 1) := by decide +kernel
theorem d10_20 : decode prog_9_method_6_code 20 = .ok (.iload_n 1, 1) := by decide +kernel
theorem d10_21 : decode prog_9_method_6_code 21 = .ok (.iload_n 2, 1) := by decide +kernel
theorem d10_22 : decode prog_9_method_6_code 22 = .ok (.invokestatic 31, 3) := by decide +kernel
theorem d10_25 : decode prog_9_method_6_code 25 = .ok (.invokestatic 56, 3) := by decide +kernel
theorem d10_28 : decode prog_9_method_6_code 28 = .ok (.invokestatic 62, 3) := by decide +kernel
theorem d10_31 : decode prog_9_method_6_code 31 = .ok (.areturn, 1) := by decide +kernel
theorem pd_3 : parseMethodDescriptor "(Ljava/lang/String;II)Z" = some ⟨[(.object "java/lang/String"), .int, .int], some .boolean⟩ := by decide +kernel
theorem pd_4 : parseMethodDescriptor "(Ljava/lang/String;II)J" = some ⟨[(.object "java/lang/String"), .int, .int], some .long⟩ := by decide +kernel
theorem pd_5 : parseMethodDescriptor "(J)I" = some ⟨[.long], some .int⟩ := by decide +kernel
theorem pd_6 : parseMethodDescriptor "(I)Ljava/lang/Integer;" = some ⟨[.int], some (.object "java/lang/Integer")⟩ := by decide +kernel
theorem ef_10 (m : MethodId) (o0 : Addr) (p1 : Int32) (p2 : Int32) : entryFrame m #[(.ref o0), (.int p1), (.int p2)] 3 = mkF m 0 #[.val (.ref o0), .val (.int p1), .val (.int p2)] [] := by first | (simp [entryFrame, mkF, argsToLocals, Value.category]; done) | rfl
set_option maxRecDepth 65536 in
set_option maxHeartbeats 40000000 in
theorem c10 (l : Launch) (Z : State) (a0 : Array Value) (hw : ∀ d ∈ tables_1, d.before a0 Z = true) (o0 : Addr) (i : Nat) (j : Nat) (cs : List Int32) (G1 : Int32) (G3 : Value) (n0 : Nat) (wc : Addr) (h0 : Heap) (TX : own_Txt Z h0 o0 cs) (SC : Sta Z h0 "java/lang/String" "COMPACT_STRINGS" "Z" (.int G1)) (hG1 : ¬ G1 = 0) (SF : Sta Z h0 "jdk/internal/util/Preconditions" "SIOOBE_FORMATTER" "Ljava/util/function/BiFunction;" G3) (rG3 : G3.isRef = true) (hj : j ≤ cs.length) (hi : i ≤ 4000) (Z0 : n0 ≤ h0.size) (SH : Sta Z h0 "java/lang/Integer$IntegerCache" "high" "I" (.int 127)) (SA : Sta Z h0 "java/lang/Integer$IntegerCache" "cache" "[Ljava/lang/Integer;" (.ref wc)) (KC : own_Cache Z h0 wc) : Own.Con l Z (⟨"com/example/makewhole/makewhole/input/Notation", "wholeNumber", "(Ljava/lang/String;II)Ljava/lang/Integer;"⟩ : MethodName) prog_9_method_6_code 3 (some (.object "java/lang/Integer")) ({ frames := 5, cells := 1, slots := 1, locals := 71 } : Room) #[(.ref o0), (.int (Int32.ofNat i)), (.int (Int32.ofNat j))] h0 (fun v h L => Fr n0 L ∧ Keep h0 h [] ∧ ((v = some .null ∧ ¬ (i < j ∧ j ≤ i + 9 ∧ own_allD cs i (j - i) = true)) ∨ (∃ b, v = some (.ref b) ∧ (i < j ∧ j ≤ i + 9 ∧ own_allD cs i (j - i) = true) ∧ Exa Z h b "java/lang/Integer" ∧ Fld Z h b "java/lang/Integer" "value" "I" (.int (own_dv cs 0 i (j - i)).toInt32)))) := by
  intro ws
  refine MetFree.of_bodySF (plainFor_of_name pn_0) hisR ?_
  intro p e s m args below meth c s₁ Bd hml0 hP hK
  obtain ⟨rfl, hZ, hh⟩ := hP
  have hx := Bd.exec
  have hby := Bd.bytes
  have hml : c.maxLocals = 3 := hml0
  have hown : s.vm.findClass "com/example/makewhole/makewhole/input/Notation" = some m.cls := findClass_of_methodNamed Bd.named
  have hnm := (name_of_methodNamed Bd.named Bd.method).1
  have X0 : Stand p l e ({ frames := 5, cells := 1, slots := 1, locals := 71 } : Room) s m #[(.ref o0), (.int (Int32.ofNat i)), (.int (Int32.ofNat j))] below meth c s₁ [] 0 0 := Stand.of_body Bd
  have e0 : s₁.heap = h0 := by rw [← hh, Bd.state]; rfl
  have K0 : ∀ t, Steps p.tables e below (s₁.setTop (mkF m 0 #[.val (.ref o0), .val (.int (Int32.ofNat i)), .val (.int (Int32.ofNat j))] [])) t → Steps p.tables e below (s₁.setTop (entryFrame m #[(.ref o0), (.int (Int32.ofNat i)), (.int (Int32.ofNat j))] 3)) t := fun t k => castTop (ef_10 m o0 (Int32.ofNat i) (Int32.ofNat j)) k
  generalize s₁.setTop (entryFrame m #[(.ref o0), (.int (Int32.ofNat i)), (.int (Int32.ofNat j))] 3) = B0 at K0 ⊢
  show Own.Fin p e below B0 s (({ frames := 5, cells := 1, slots := 1, locals := 71 } : Room)).cells (({ frames := 5, cells := 1, slots := 1, locals := 71 } : Room)).slots (fun v h L => Fr n0 L ∧ Keep h0 h [] ∧ ((v = some .null ∧ ¬ (i < j ∧ j ≤ i + 9 ∧ own_allD cs i (j - i) = true)) ∨ (∃ b, v = some (.ref b) ∧ (i < j ∧ j ≤ i + 9 ∧ own_allD cs i (j - i) = true) ∧ Exa Z h b "java/lang/Integer" ∧ Fld Z h b "java/lang/Integer" "value" "I" (.int (own_dv cs 0 i (j - i)).toInt32))))
  have hcl := own_Txt.len TX
  have K1 : ∀ t, Steps p.tables e below (s₁.setTop (mkF m 5 #[.val (.ref o0), .val (.int (Int32.ofNat i)), .val (.int (Int32.ofNat j))] [(.int (9 : Int32)), (.int ((Int32.ofNat j) - (Int32.ofNat i)))])) t → Steps p.tables e below B0 t := fun t k => K0 t (by
    refine Own.iloadN X0 hx (hb hby d10_0) rfl ?_
    refine Own.iloadN X0 hx (hb hby d10_1) rfl ?_
    refine Own.isub X0 hx (hb hby d10_2) ?_
    refine Own.bipush X0 hx (9 : Int32) (hb hby d10_3) rfl ?_
    exact k)
  by_cases hc2 : (9 : Int32) < ((Int32.ofNat j) - (Int32.ofNat i))
  · have K3 : ∀ t, Steps p.tables e below (s₁.setTop (mkF m 18 #[.val (.ref o0), .val (.int (Int32.ofNat i)), .val (.int (Int32.ofNat j))] [.null])) t → Steps p.tables e below B0 t := fun t k => K1 t (by
      refine Own.icmpYes X0 hx 17 (hb hby d10_5) (tlt hc2).2.2.1 (by decide) (by decide) ?_
      refine Own.aconstNull X0 hx (hb hby d10_17) ?_
      exact k)
    have kp := (Keep.refl h0 [])
    exact Own.finA X0 hx (BodyLoose.notSynchronized Bd) Bd.returns rfl rfl (hb hby d10_18) K3 (by decide) (by decide) (by rw [e0]; exact ⟨Fr.nil _, kp, Or.inl ⟨rfl, fun q => absurd ((own_gt9 (by omega) (by omega)).mp hc2) (by omega)⟩⟩)
  · have K4 : ∀ t, Steps p.tables e below (s₁.setTop (mkF m 11 #[.val (.ref o0), .val (.int (Int32.ofNat i)), .val (.int (Int32.ofNat j))] [(.int (Int32.ofNat j)), (.int (Int32.ofNat i)), (.ref o0)])) t → Steps p.tables e below B0 t := fun t k => K1 t (by
      refine Own.icmpNo X0 hx (hb hby d10_5) (flt hc2).2.2.1 ?_
      refine Own.aloadN X0 hx (hb hby d10_8) rfl rfl ?_
      refine Own.iloadN X0 hx (hb hby d10_9) rfl ?_
      refine Own.iloadN X0 hx (hb hby d10_10) rfl ?_
      exact k)
    obtain ⟨T5, X5, e5, st5⟩ := Own.callP (Ls := #[.val (.ref o0), .val (.int (Int32.ofNat i)), .val (.int (Int32.ofNat j))]) X0 hx hZ e0 [(.ref o0), (.int (Int32.ofNat i)), (.int (Int32.ofNat j))] [] (c11 l Z a0 hw o0 i j cs G1 G3 h0 TX SC hG1 SF rG3 hj (by omega)) hown (hw _ (List.mem_of_getElem? (i := 57) rfl)) (hw _ (List.mem_of_getElem? (i := 58) rfl)) (hw _ (List.mem_of_getElem? (i := 55) rfl)) (hw _ (List.mem_of_getElem? (i := 59) rfl)) (by decide) 0 rfl rfl (by decide) (by decide) (by decide) (by decide) (by rw [hml]; rfl) (lenOf pd_3 rfl) rfl (Nat.le_of_eq rfl) (hb hby d10_11)
    have K6 : ∀ t, Steps p.tables e below (T5.setTop (mkF m 14 #[.val (.ref o0), .val (.int (Int32.ofNat i)), .val (.int (Int32.ofNat j))] [(.int (own_isd cs i j))])) t → Steps p.tables e below B0 t := fun t k => K4 t (st5 t k)
    by_cases hc7 : (own_isd cs i j) = (0 : Int32)
    · have K8 : ∀ t, Steps p.tables e below (T5.setTop (mkF m 18 #[.val (.ref o0), .val (.int (Int32.ofNat i)), .val (.int (Int32.ofNat j))] [.null])) t → Steps p.tables e below B0 t := fun t k => K6 t (by
        refine Own.ifNo X5 hx (hb hby d10_14) ((if0 _ _).trans (teq hc7).2) ?_
        refine Own.aconstNull X5 hx (hb hby d10_17) ?_
        exact k)
      have kp := (Keep.refl h0 [])
      exact Own.finA X5 hx (BodyLoose.notSynchronized Bd) Bd.returns rfl rfl (hb hby d10_18) K8 (by decide) (by decide) (by rw [e5]; exact ⟨Fr.nil _, kp, Or.inl ⟨rfl, fun q => own_isd0 hc7 ⟨q.1, q.2.2⟩⟩⟩)
    · have K9 : ∀ t, Steps p.tables e below (T5.setTop (mkF m 19 #[.val (.ref o0), .val (.int (Int32.ofNat i)), .val (.int (Int32.ofNat j))] [])) t → Steps p.tables e below B0 t := fun t k => K6 t (by
        refine Own.ifYes X5 hx 19 (hb hby d10_14) ((if0 _ _).trans (feq hc7).2) (by decide) (by decide) ?_
        exact k)
      have hi1 := own_isd1 hc7
      have h4 : (i < j ∧ j ≤ i + 9 ∧ own_allD cs i (j - i) = true) := ⟨hi1.1, by have q : ¬ i + 9 < j := fun q => hc2 ((own_gt9 (by omega) (by omega)).mpr q); omega, hi1.2⟩
      have hd := own_dv0 h4.2.2 (by omega)
      have K10 : ∀ t, Steps p.tables e below (T5.setTop (mkF m 22 #[.val (.ref o0), .val (.int (Int32.ofNat i)), .val (.int (Int32.ofNat j))] [(.int (Int32.ofNat j)), (.int (Int32.ofNat i)), (.ref o0)])) t → Steps p.tables e below B0 t := fun t k => K9 t (by
        refine Own.aloadN X5 hx (hb hby d10_19) rfl rfl ?_
        refine Own.iloadN X5 hx (hb hby d10_20) rfl ?_
        refine Own.iloadN X5 hx (hb hby d10_21) rfl ?_
        exact k)
      obtain ⟨T11, X11, e11, st11⟩ := Own.callP (Ls := #[.val (.ref o0), .val (.int (Int32.ofNat i)), .val (.int (Int32.ofNat j))]) X5 hx hZ e5 [(.ref o0), (.int (Int32.ofNat i)), (.int (Int32.ofNat j))] [] (c17 l Z a0 hw o0 i j cs G1 G3 h0 TX SC hG1 SF rG3 hj (by omega)) hown (hw _ (List.mem_of_getElem? (i := 82) rfl)) (hw _ (List.mem_of_getElem? (i := 83) rfl)) (hw _ (List.mem_of_getElem? (i := 55) rfl)) (hw _ (List.mem_of_getElem? (i := 84) rfl)) (by decide) 0 rfl rfl (by decide) (by decide) (by decide) (by decide) (by rw [hml]; rfl) (lenOf pd_4 rfl) rfl (Nat.le_of_eq rfl) (hb hby d10_22)
      have K12 : ∀ t, Steps p.tables e below (T11.setTop (mkF m 25 #[.val (.ref o0), .val (.int (Int32.ofNat i)), .val (.int (Int32.ofNat j))] [(.long (own_dv cs 0 i (j - i)))])) t → Steps p.tables e below B0 t := fun t k => K10 t (st11 t k)
      obtain ⟨T13, X13, e13, st13⟩ := Own.callP (Ls := #[.val (.ref o0), .val (.int (Int32.ofNat i)), .val (.int (Int32.ofNat j))]) X11 hx hZ e11 [(.long (own_dv cs 0 i (j - i)))] [] (c18 l Z a0 hw (own_dv cs 0 i (j - i))  h0 (own_fits (by rw [hd.1]; exact hd.2.1) (by rw [hd.1]; exact hd.2.2))) hown (hw _ (List.mem_of_getElem? (i := 86) rfl)) (hw _ (List.mem_of_getElem? (i := 87) rfl)) (hw _ (List.mem_of_getElem? (i := 88) rfl)) (hw _ (List.mem_of_getElem? (i := 89) rfl)) (by decide) 0 rfl rfl (by decide) (by decide) (by decide) (by decide) (by rw [hml]; rfl) (lenOf pd_5 rfl) rfl (Nat.le_of_eq rfl) (hb hby d10_25)
      have K14 : ∀ t, Steps p.tables e below (T13.setTop (mkF m 28 #[.val (.ref o0), .val (.int (Int32.ofNat i)), .val (.int (Int32.ofNat j))] [(.int ((own_dv cs 0 i (j - i)).toInt32))])) t → Steps p.tables e below B0 t := fun t k => K12 t (st13 t k)
      obtain ⟨T15, h15, v15, J15, L15, X15, e15, n15, hQ15, st15⟩ := Own.callH (Ls := #[.val (.ref o0), .val (.int (Int32.ofNat i)), .val (.int (Int32.ofNat j))]) X13 hx hZ e13 [(.int ((own_dv cs 0 i (j - i)).toInt32))] [] (c19 l Z a0 hw ((own_dv cs 0 i (j - i)).toInt32) n0 wc h0 (Nat.le_trans Z0 (Nat.le_refl _)) SH SA KC (own_low0 (by rw [hd.1]; exact hd.2.1) (by rw [hd.1]; exact hd.2.2))) hown (hw _ (List.mem_of_getElem? (i := 90) rfl)) (hw _ (List.mem_of_getElem? (i := 91) rfl)) (hw _ (List.mem_of_getElem? (i := 92) rfl)) (hw _ (List.mem_of_getElem? (i := 93) rfl)) (by decide) 0 (by decide) (by decide) (by decide) (by decide) (by rw [hml]; rfl) (lenOf pd_6 rfl) rfl (Nat.le_of_eq rfl) (hb hby d10_28)
      have X15 : Stand p l e ({ frames := 5, cells := 1, slots := 1, locals := 71 } : Room) s m #[(.ref o0), (.int (Int32.ofNat i)), (.int (Int32.ofNat j))] below meth c T15 L15 1 1 := X15
      obtain ⟨bi15, rfl, NN15, K15, E15, F15⟩ := hQ15
      have N15 : Fr n0 L15 := n15 n0 (Fr.nil _) NN15
      have m16 : h0.size ≤ h15.size := K15.1
      have K17 : ∀ t, Steps p.tables e below (T15.setTop (mkF m 31 #[.val (.ref o0), .val (.int (Int32.ofNat i)), .val (.int (Int32.ofNat j))] [(.ref bi15)])) t → Steps p.tables e below B0 t := fun t k => K14 t (st15 t k)
      have kp := ((Keep.refl h0 []).trans K15 all0)
      exact Own.finA X15 hx (BodyLoose.notSynchronized Bd) Bd.returns rfl rfl (hb hby d10_31) K17 (by decide) (by decide) (by rw [e15]; exact ⟨N15, kp, Or.inr ⟨_, rfl, h4, E15, F15⟩⟩)

theorem d8_0 : decode method_3_code 0 = .ok (.iload_n 1, 1) := by decide +kernel
theorem d8_1 : decode method_3_code 1 = .ok (.iload_n 2, 1) := by decide +kernel
theorem d8_2 : decode method_3_code 2 = .ok (.if_icmp .lt 8, 3) := by decide +kernel
theorem d8_5 : decode method_3_code 5 = .ok (.iload_n 1, 1) := by decide +kernel
theorem d8_6 : decode method_3_code 6 = .ok (.iload_n 3, 1) := by decide +kernel
theorem d8_7 : decode method_3_code 7 = .ok (.if_icmp .lt 5, 3) := by decide +kernel
theorem d8_10 : decode method_3_code 10 = .ok (.iconst 0, 1) := by decide +kernel
theorem d8_11 : decode method_3_code 11 = .ok (.ireturn, 1) := by decide +kernel
theorem d8_12 : decode method_3_code 12 = .ok (.aload_n 0, 1) := by decide +kernel
theorem d8_13 : decode method_3_code 13 = .ok (.iload_n 1, 1) := by decide +kernel
theorem d8_14 : decode method_3_code 14 = .ok (.caload, 1) := by decide +kernel
theorem d8_15 : decode method_3_code 15 = .ok (.istore 4, 2) := by decide +kernel
theorem d8_17 : decode method_3_code 17 = .ok (.iload 4, 2) := by decide +kernel
theorem d8_19 : decode method_3_code 19 = .ok (.bipush 48, 2) := by decide +kernel
theorem d8_21 : decode method_3_code 21 = .ok (.if_icmp .lt 10, 3) := by decide +kernel
theorem d8_24 : decode method_3_code 24 = .ok (.iload 4, 2) := by decide +kernel
theorem d8_26 : decode method_3_code 26 = .ok (.bipush 57, 2) := by decide +kernel
theorem d8_28 : decode method_3_code 28 = .ok (.if_icmp .le 7, 3) := by decide +kernel
theorem d8_31 : decode method_3_code 31 = .ok (.iconst 1, 1) := by decide +kernel
theorem d8_32 : decode method_3_code 32 = .ok (.goto 4, 3) := by decide +kernel
theorem d8_35 : decode method_3_code 35 = .ok (.iconst 0, 1) := by decide +kernel
theorem d8_36 : decode method_3_code 36 = .ok (.ireturn, 1) := by decide +kernel
theorem ef_8 (m : MethodId) (o0 : Addr) (p1 : Int32) (p2 : Int32) (p3 : Int32) : entryFrame m #[(.ref o0), (.int p1), (.int p2), (.int p3)] 5 = mkF m 0 #[.val (.ref o0), .val (.int p1), .val (.int p2), .val (.int p3), .unset] [] := by first | (simp [entryFrame, mkF, argsToLocals, Value.category]; done) | rfl
def F8 (q : Nat) (i : Nat) (j : Nat) (cs : List Int32) : Int32 := (if (Int32.ofNat q) < (Int32.ofNat i) then (0 : Int32) else (if (Int32.ofNat q) < (Int32.ofNat j) then (nar .boolean (if (cs.getD q 0) < (48 : Int32) then (1 : Int32) else (if (57 : Int32) < (cs.getD q 0) then (1 : Int32) else (0 : Int32)))) else (0 : Int32)))
set_option maxRecDepth 65536 in
set_option maxHeartbeats 40000000 in
theorem c8 (l : Launch) (Z : State) (a0 : Array Value) (hw : ∀ d ∈ tables_1, d.before a0 Z = true) (o0 : Addr) (q : Nat) (i : Nat) (j : Nat) (cs : List Int32) (h0 : Heap) (VA : Own.CA Z h0 o0 .char cs) (hq : q < cs.length) (hl : cs.length ≤ 100) : Own.Con l Z (⟨"com/example/makewhole/makewhole/input/NotationWholeNumberPinLaw", "bad", "([CIII)Z"⟩ : MethodName) method_3_code 5 (some .boolean) ({ frames := 0, cells := 0, slots := 0, locals := 0 } : Room) #[(.ref o0), (.int (Int32.ofNat q)), (.int (Int32.ofNat i)), (.int (Int32.ofNat j))] h0 (Own.Pure (.int (F8 q i j cs)) h0) := by
  intro ws
  refine MetFree.of_bodySF (plainFor_of_name pn_3) hisR ?_
  intro p e s m args below meth c s₁ Bd hml0 hP hK
  obtain ⟨rfl, hZ, hh⟩ := hP
  have hx := Bd.exec
  have hby := Bd.bytes
  have hml : c.maxLocals = 5 := hml0
  have hown : s.vm.findClass "com/example/makewhole/makewhole/input/NotationWholeNumberPinLaw" = some m.cls := findClass_of_methodNamed Bd.named
  have hnm := (name_of_methodNamed Bd.named Bd.method).1
  have X0 : Stand p l e ({ frames := 0, cells := 0, slots := 0, locals := 0 } : Room) s m #[(.ref o0), (.int (Int32.ofNat q)), (.int (Int32.ofNat i)), (.int (Int32.ofNat j))] below meth c s₁ [] 0 0 := Stand.of_body Bd
  have e0 : s₁.heap = h0 := by rw [← hh, Bd.state]; rfl
  have K0 : ∀ t, Steps p.tables e below (s₁.setTop (mkF m 0 #[.val (.ref o0), .val (.int (Int32.ofNat q)), .val (.int (Int32.ofNat i)), .val (.int (Int32.ofNat j)), .unset] [])) t → Steps p.tables e below (s₁.setTop (entryFrame m #[(.ref o0), (.int (Int32.ofNat q)), (.int (Int32.ofNat i)), (.int (Int32.ofNat j))] 5)) t := fun t k => castTop (ef_8 m o0 (Int32.ofNat q) (Int32.ofNat i) (Int32.ofNat j)) k
  generalize s₁.setTop (entryFrame m #[(.ref o0), (.int (Int32.ofNat q)), (.int (Int32.ofNat i)), (.int (Int32.ofNat j))] 5) = B0 at K0 ⊢
  show Own.Fin p e below B0 s (({ frames := 0, cells := 0, slots := 0, locals := 0 } : Room)).cells (({ frames := 0, cells := 0, slots := 0, locals := 0 } : Room)).slots (Own.Pure (.int (F8 q i j cs)) h0)
  have K1 : ∀ t, Steps p.tables e below (s₁.setTop (mkF m 2 #[.val (.ref o0), .val (.int (Int32.ofNat q)), .val (.int (Int32.ofNat i)), .val (.int (Int32.ofNat j)), .unset] [(.int (Int32.ofNat i)), (.int (Int32.ofNat q))])) t → Steps p.tables e below B0 t := fun t k => K0 t (by
    refine Own.iloadN X0 hx (hb hby d8_0) rfl ?_
    refine Own.iloadN X0 hx (hb hby d8_1) rfl ?_
    exact k)
  by_cases hc2 : (Int32.ofNat q) < (Int32.ofNat i)
  · have K3 : ∀ t, Steps p.tables e below (s₁.setTop (mkF m 11 #[.val (.ref o0), .val (.int (Int32.ofNat q)), .val (.int (Int32.ofNat i)), .val (.int (Int32.ofNat j)), .unset] [(.int (0 : Int32))])) t → Steps p.tables e below B0 t := fun t k => K1 t (by
      refine Own.icmpYes X0 hx 10 (hb hby d8_2) (tlt hc2).1 (by decide) (by decide) ?_
      refine Own.iconst X0 hx (0 : Int32) (hb hby d8_10) rfl ?_
      exact k)
    exact Own.finN X0 hx (BodyLoose.notSynchronized Bd) Bd.returns (by simp) (hb hby d8_11) K3 (by decide) (by decide) ⟨by unfold F8; first | (rw [if_pos hc2]; done) | (rw [if_pos hc2]; rfl), rfl, e0⟩
  · have K4 : ∀ t, Steps p.tables e below (s₁.setTop (mkF m 7 #[.val (.ref o0), .val (.int (Int32.ofNat q)), .val (.int (Int32.ofNat i)), .val (.int (Int32.ofNat j)), .unset] [(.int (Int32.ofNat j)), (.int (Int32.ofNat q))])) t → Steps p.tables e below B0 t := fun t k => K1 t (by
      refine Own.icmpNo X0 hx (hb hby d8_2) (flt hc2).1 ?_
      refine Own.iloadN X0 hx (hb hby d8_5) rfl ?_
      refine Own.iloadN X0 hx (hb hby d8_6) rfl ?_
      exact k)
    by_cases hc5 : (Int32.ofNat q) < (Int32.ofNat j)
    · have K6 : ∀ t, Steps p.tables e below (s₁.setTop (mkF m 14 #[.val (.ref o0), .val (.int (Int32.ofNat q)), .val (.int (Int32.ofNat i)), .val (.int (Int32.ofNat j)), .unset] [(.int (Int32.ofNat q)), (.ref o0)])) t → Steps p.tables e below B0 t := fun t k => K4 t (by
        refine Own.icmpYes X0 hx 12 (hb hby d8_7) (tlt hc5).1 (by decide) (by decide) ?_
        refine Own.aloadN X0 hx (hb hby d8_12) rfl rfl ?_
        refine Own.iloadN X0 hx (hb hby d8_13) rfl ?_
        exact k)
      have K7 : ∀ t, Steps p.tables e below (s₁.setTop (mkF m 21 #[.val (.ref o0), .val (.int (Int32.ofNat q)), .val (.int (Int32.ofNat i)), .val (.int (Int32.ofNat j)), .val (.int (cs.getD q 0))] [(.int (48 : Int32)), (.int (cs.getD q 0))])) t → Steps p.tables e below B0 t := fun t k => K6 t (by
        refine Own.cal X0 hx hZ e0 VA (cs.getD q 0) (Int32.ofNat_not_neg (show q < 2 ^ 31 by omega)) (by rw [Own.ofNat_clamp (by omega)]; omega) (by rw [Own.ofNat_clamp (by omega)]) (hb hby d8_14) ?_
        refine Own.istore X0 hx #[.val (.ref o0), .val (.int (Int32.ofNat q)), .val (.int (Int32.ofNat i)), .val (.int (Int32.ofNat j)), .val (.int (cs.getD q 0))] (hb hby d8_15) rfl ?_
        refine Own.iload X0 hx (hb hby d8_17) rfl ?_
        refine Own.bipush X0 hx (48 : Int32) (hb hby d8_19) rfl ?_
        exact k)
      obtain ⟨x16, hx16⟩ : ∃ z : Int32, z = (if (cs.getD q 0) < (48 : Int32) then (1 : Int32) else (if (57 : Int32) < (cs.getD q 0) then (1 : Int32) else (0 : Int32))) := ⟨_, rfl⟩
      obtain ⟨T17, X17, e17, K17⟩ : ∃ T' : State, Stand p l e ({ frames := 0, cells := 0, slots := 0, locals := 0 } : Room) s m #[(.ref o0), (.int (Int32.ofNat q)), (.int (Int32.ofNat i)), (.int (Int32.ofNat j))] below meth c T' [] 0 0 ∧ T'.heap = h0 ∧ ∀ t, Steps p.tables e below (T'.setTop (mkF m 36 #[.val (.ref o0), .val (.int (Int32.ofNat q)), .val (.int (Int32.ofNat i)), .val (.int (Int32.ofNat j)), .val (.int (cs.getD q 0))] [(.int x16)])) t → Steps p.tables e below B0 t := by
        by_cases hc8 : (cs.getD q 0) < (48 : Int32)
        · have K9 : ∀ t, Steps p.tables e below (s₁.setTop (mkF m 36 #[.val (.ref o0), .val (.int (Int32.ofNat q)), .val (.int (Int32.ofNat i)), .val (.int (Int32.ofNat j)), .val (.int (cs.getD q 0))] [(.int (1 : Int32))])) t → Steps p.tables e below B0 t := fun t k => K7 t (by
            refine Own.icmpYes X0 hx 31 (hb hby d8_21) (tlt hc8).1 (by decide) (by decide) ?_
            refine Own.iconst X0 hx (1 : Int32) (hb hby d8_31) rfl ?_
            refine Own.goto X0 hx 36 (hb hby d8_32) (by decide) (by decide) ?_
            exact k)
          exact ⟨s₁, X0, e0, fun t k => K9 t (by rw [hx16, if_pos hc8] at k; exact k)⟩
        · have K10 : ∀ t, Steps p.tables e below (s₁.setTop (mkF m 28 #[.val (.ref o0), .val (.int (Int32.ofNat q)), .val (.int (Int32.ofNat i)), .val (.int (Int32.ofNat j)), .val (.int (cs.getD q 0))] [(.int (57 : Int32)), (.int (cs.getD q 0))])) t → Steps p.tables e below B0 t := fun t k => K7 t (by
            refine Own.icmpNo X0 hx (hb hby d8_21) (flt hc8).1 ?_
            refine Own.iload X0 hx (hb hby d8_24) rfl ?_
            refine Own.bipush X0 hx (57 : Int32) (hb hby d8_26) rfl ?_
            exact k)
          obtain ⟨x14, hx14⟩ : ∃ z : Int32, z = (if (57 : Int32) < (cs.getD q 0) then (1 : Int32) else (0 : Int32)) := ⟨_, rfl⟩
          obtain ⟨T15, X15, e15, K15⟩ : ∃ T' : State, Stand p l e ({ frames := 0, cells := 0, slots := 0, locals := 0 } : Room) s m #[(.ref o0), (.int (Int32.ofNat q)), (.int (Int32.ofNat i)), (.int (Int32.ofNat j))] below meth c T' [] 0 0 ∧ T'.heap = h0 ∧ ∀ t, Steps p.tables e below (T'.setTop (mkF m 36 #[.val (.ref o0), .val (.int (Int32.ofNat q)), .val (.int (Int32.ofNat i)), .val (.int (Int32.ofNat j)), .val (.int (cs.getD q 0))] [(.int x14)])) t → Steps p.tables e below B0 t := by
            by_cases hc11 : (57 : Int32) < (cs.getD q 0)
            · have K12 : ∀ t, Steps p.tables e below (s₁.setTop (mkF m 36 #[.val (.ref o0), .val (.int (Int32.ofNat q)), .val (.int (Int32.ofNat i)), .val (.int (Int32.ofNat j)), .val (.int (cs.getD q 0))] [(.int (1 : Int32))])) t → Steps p.tables e below B0 t := fun t k => K10 t (by
                refine Own.icmpNo X0 hx (hb hby d8_28) (tlt hc11).2.2.2 ?_
                refine Own.iconst X0 hx (1 : Int32) (hb hby d8_31) rfl ?_
                refine Own.goto X0 hx 36 (hb hby d8_32) (by decide) (by decide) ?_
                exact k)
              exact ⟨s₁, X0, e0, fun t k => K12 t (by rw [hx14, if_pos hc11] at k; exact k)⟩
            · have K13 : ∀ t, Steps p.tables e below (s₁.setTop (mkF m 36 #[.val (.ref o0), .val (.int (Int32.ofNat q)), .val (.int (Int32.ofNat i)), .val (.int (Int32.ofNat j)), .val (.int (cs.getD q 0))] [(.int (0 : Int32))])) t → Steps p.tables e below B0 t := fun t k => K10 t (by
                refine Own.icmpYes X0 hx 35 (hb hby d8_28) (flt hc11).2.2.2 (by decide) (by decide) ?_
                refine Own.iconst X0 hx (0 : Int32) (hb hby d8_35) rfl ?_
                exact k)
              exact ⟨s₁, X0, e0, fun t k => K13 t (by rw [hx14, if_neg hc11] at k; exact k)⟩
          exact ⟨T15, X15, e15, fun t k => K15 t (by subst hx14; rw [hx16, if_neg hc8] at k; exact k)⟩
      exact Own.finN X17 hx (BodyLoose.notSynchronized Bd) Bd.returns (by simp) (hb hby d8_36) K17 (by decide) (by decide) ⟨by subst hx16; unfold F8; first | (rw [if_neg hc2, if_pos hc5]; done) | (rw [if_neg hc2, if_pos hc5]; rfl), rfl, e17⟩
    · have K18 : ∀ t, Steps p.tables e below (s₁.setTop (mkF m 11 #[.val (.ref o0), .val (.int (Int32.ofNat q)), .val (.int (Int32.ofNat i)), .val (.int (Int32.ofNat j)), .unset] [(.int (0 : Int32))])) t → Steps p.tables e below B0 t := fun t k => K4 t (by
        refine Own.icmpNo X0 hx (hb hby d8_7) (flt hc5).1 ?_
        refine Own.iconst X0 hx (0 : Int32) (hb hby d8_10) rfl ?_
        exact k)
      exact Own.finN X0 hx (BodyLoose.notSynchronized Bd) Bd.returns (by simp) (hb hby d8_11) K18 (by decide) (by decide) ⟨by unfold F8; first | (rw [if_neg hc2, if_neg hc5]; done) | (rw [if_neg hc2, if_neg hc5]; rfl), rfl, e0⟩

def own_pw : List Int64 := [1, 10, 100, 1000, 10000, 100000, 1000000, 10000000, 100000000, 1000000000, 10000000000, 100000000000]
def own_tm (q i j : Nat) (cs : List Int32) : Int64 := if Int32.ofNat q < Int32.ofNat i then 0 else (if Int32.ofNat q < Int32.ofNat j then (if cs.getD q 0 < 48 then 0 else (if (57 : Int32) < cs.getD q 0 then 0 else (cs.getD q 0 - 48).toInt64 * own_pw.getD (j - 1 - q) 0)) else 0)
theorem own_ix {q j : Nat} (h : q < j) (hj : j ≤ 4000) : Int32.ofNat j - 1 - Int32.ofNat q = Int32.ofNat (j - 1 - q) := by
  rw [show (1 : Int32) = Int32.ofNat 1 from rfl, own_sub (by omega) (by omega), own_sub (by omega) (by omega)]

theorem d9_0 : decode method_4_code 0 = .ok (.iload_n 1, 1) := by decide +kernel
theorem d9_1 : decode method_4_code 1 = .ok (.iload_n 2, 1) := by decide +kernel
theorem d9_2 : decode method_4_code 2 = .ok (.if_icmp .lt 8, 3) := by decide +kernel
theorem d9_5 : decode method_4_code 5 = .ok (.iload_n 1, 1) := by decide +kernel
theorem d9_6 : decode method_4_code 6 = .ok (.iload_n 3, 1) := by decide +kernel
theorem d9_7 : decode method_4_code 7 = .ok (.if_icmp .lt 5, 3) := by decide +kernel
theorem d9_10 : decode method_4_code 10 = .ok (.lconst 0, 1) := by decide +kernel
theorem d9_11 : decode method_4_code 11 = .ok (.lreturn, 1) := by decide +kernel
theorem d9_12 : decode method_4_code 12 = .ok (.aload_n 0, 1) := by decide +kernel
theorem d9_13 : decode method_4_code 13 = .ok (.iload_n 1, 1) := by decide +kernel
theorem d9_14 : decode method_4_code 14 = .ok (.caload, 1) := by decide +kernel
theorem d9_15 : decode method_4_code 15 = .ok (.istore 4, 2) := by decide +kernel
theorem d9_17 : decode method_4_code 17 = .ok (.iload 4, 2) := by decide +kernel
theorem d9_19 : decode method_4_code 19 = .ok (.bipush 48, 2) := by decide +kernel
theorem d9_21 : decode method_4_code 21 = .ok (.if_icmp .lt 10, 3) := by decide +kernel
theorem d9_24 : decode method_4_code 24 = .ok (.iload 4, 2) := by decide +kernel
theorem d9_26 : decode method_4_code 26 = .ok (.bipush 57, 2) := by decide +kernel
theorem d9_28 : decode method_4_code 28 = .ok (.if_icmp .le 5, 3) := by decide +kernel
theorem d9_31 : decode method_4_code 31 = .ok (.lconst 0, 1) := by decide +kernel
theorem d9_32 : decode method_4_code 32 = .ok (.lreturn, 1) := by decide +kernel
theorem d9_33 : decode method_4_code 33 = .ok (.bipush 12, 2) := by decide +kernel
theorem d9_35 : decode method_4_code 35 = .ok (.newarray .long, 2) := by decide +kernel
theorem d9_37 : decode method_4_code 37 = .ok (.dup, 1) := by decide +kernel
theorem d9_38 : decode method_4_code 38 = .ok (.iconst 0, 1) := by decide +kernel
theorem d9_39 : decode method_4_code 39 = .ok (.lconst 1, 1) := by decide +kernel
theorem d9_40 : decode method_4_code 40 = .ok (.lastore, 1) := by decide +kernel
theorem d9_41 : decode method_4_code 41 = .ok (.dup, 1) := by decide +kernel
theorem d9_42 : decode method_4_code 42 = .ok (.iconst 1, 1) := by decide +kernel
theorem d9_43 : decode method_4_code 43 = .ok (.ldc2_w 7, 3) := by decide +kernel
theorem d9_46 : decode method_4_code 46 = .ok (.lastore, 1) := by decide +kernel
theorem d9_47 : decode method_4_code 47 = .ok (.dup, 1) := by decide +kernel
theorem d9_48 : decode method_4_code 48 = .ok (.iconst 2, 1) := by decide +kernel
theorem d9_49 : decode method_4_code 49 = .ok (.ldc2_w 9, 3) := by decide +kernel
theorem d9_52 : decode method_4_code 52 = .ok (.lastore, 1) := by decide +kernel
theorem d9_53 : decode method_4_code 53 = .ok (.dup, 1) := by decide +kernel
theorem d9_54 : decode method_4_code 54 = .ok (.iconst 3, 1) := by decide +kernel
theorem d9_55 : decode method_4_code 55 = .ok (.ldc2_w 11, 3) := by decide +kernel
theorem d9_58 : decode method_4_code 58 = .ok (.lastore, 1) := by decide +kernel
theorem d9_59 : decode method_4_code 59 = .ok (.dup, 1) := by decide +kernel
theorem d9_60 : decode method_4_code 60 = .ok (.iconst 4, 1) := by decide +kernel
theorem d9_61 : decode method_4_code 61 = .ok (.ldc2_w 13, 3) := by decide +kernel
theorem d9_64 : decode method_4_code 64 = .ok (.lastore, 1) := by decide +kernel
theorem d9_65 : decode method_4_code 65 = .ok (.dup, 1) := by decide +kernel
theorem d9_66 : decode method_4_code 66 = .ok (.iconst 5, 1) := by decide +kernel
theorem d9_67 : decode method_4_code 67 = .ok (.ldc2_w 15, 3) := by decide +kernel
theorem d9_70 : decode method_4_code 70 = .ok (.lastore, 1) := by decide +kernel
theorem d9_71 : decode method_4_code 71 = .ok (.dup, 1) := by decide +kernel
theorem d9_72 : decode method_4_code 72 = .ok (.bipush 6, 2) := by decide +kernel
theorem d9_74 : decode method_4_code 74 = .ok (.ldc2_w 17, 3) := by decide +kernel
theorem d9_77 : decode method_4_code 77 = .ok (.lastore, 1) := by decide +kernel
theorem d9_78 : decode method_4_code 78 = .ok (.dup, 1) := by decide +kernel
theorem d9_79 : decode method_4_code 79 = .ok (.bipush 7, 2) := by decide +kernel
theorem d9_81 : decode method_4_code 81 = .ok (.ldc2_w 19, 3) := by decide +kernel
theorem d9_84 : decode method_4_code 84 = .ok (.lastore, 1) := by decide +kernel
theorem d9_85 : decode method_4_code 85 = .ok (.dup, 1) := by decide +kernel
theorem d9_86 : decode method_4_code 86 = .ok (.bipush 8, 2) := by decide +kernel
theorem d9_88 : decode method_4_code 88 = .ok (.ldc2_w 21, 3) := by decide +kernel
theorem d9_91 : decode method_4_code 91 = .ok (.lastore, 1) := by decide +kernel
theorem d9_92 : decode method_4_code 92 = .ok (.dup, 1) := by decide +kernel
theorem d9_93 : decode method_4_code 93 = .ok (.bipush 9, 2) := by decide +kernel
theorem d9_95 : decode method_4_code 95 = .ok (.ldc2_w 23, 3) := by decide +kernel
theorem d9_98 : decode method_4_code 98 = .ok (.lastore, 1) := by decide +kernel
theorem d9_99 : decode method_4_code 99 = .ok (.dup, 1) := by decide +kernel
theorem d9_100 : decode method_4_code 100 = .ok (.bipush 10, 2) := by decide +kernel
theorem d9_102 : decode method_4_code 102 = .ok (.ldc2_w 25, 3) := by decide +kernel
theorem d9_105 : decode method_4_code 105 = .ok (.lastore, 1) := by decide +kernel
theorem d9_106 : decode method_4_code 106 = .ok (.dup, 1) := by decide +kernel
theorem d9_107 : decode method_4_code 107 = .ok (.bipush 11, 2) := by decide +kernel
theorem d9_109 : decode method_4_code 109 = .ok (.ldc2_w 27, 3) := by decide +kernel
theorem d9_112 : decode method_4_code 112 = .ok (.lastore, 1) := by decide +kernel
theorem d9_113 : decode method_4_code 113 = .ok (.astore 5, 2) := by decide +kernel
theorem d9_115 : decode method_4_code 115 = .ok (.iload 4, 2) := by decide +kernel
theorem d9_117 : decode method_4_code 117 = .ok (.bipush 48, 2) := by decide +kernel
theorem d9_119 : decode method_4_code 119 = .ok (.isub, 1) := by decide +kernel
theorem d9_120 : decode method_4_code 120 = .ok (.i2l, 1) := by decide +kernel
theorem d9_121 : decode method_4_code 121 = .ok (.aload 5, 2) := by decide +kernel
theorem d9_123 : decode method_4_code 123 = .ok (.iload_n 3, 1) := by decide +kernel
theorem d9_124 : decode method_4_code 124 = .ok (.iconst 1, 1) := by decide +kernel
theorem d9_125 : decode method_4_code 125 = .ok (.isub, 1) := by decide +kernel
theorem d9_126 : decode method_4_code 126 = .ok (.iload_n 1, 1) := by decide +kernel
theorem d9_127 : decode method_4_code 127 = .ok (.isub, 1) := by decide +kernel
theorem d9_128 : decode method_4_code 128 = .ok (.laload, 1) := by decide +kernel
theorem d9_129 : decode method_4_code 129 = .ok (.lmul, 1) := by decide +kernel
theorem d9_130 : decode method_4_code 130 = .ok (.lreturn, 1) := by decide +kernel
theorem ef_9 (m : MethodId) (o0 : Addr) (p1 : Int32) (p2 : Int32) (p3 : Int32) : entryFrame m #[(.ref o0), (.int p1), (.int p2), (.int p3)] 6 = mkF m 0 #[.val (.ref o0), .val (.int p1), .val (.int p2), .val (.int p3), .unset, .unset] [] := by first | (simp [entryFrame, mkF, argsToLocals, Value.category]; done) | rfl
set_option maxRecDepth 65536 in
set_option maxHeartbeats 40000000 in
theorem c9 (l : Launch) (Z : State) (a0 : Array Value) (hw : ∀ d ∈ tables_1, d.before a0 Z = true) (o0 : Addr) (q : Nat) (i : Nat) (j : Nat) (cs : List Int32) (n0 : Nat) (h0 : Heap) (VA : Own.CA Z h0 o0 .char cs) (hq : q < cs.length) (hl : cs.length ≤ 100) (hj12 : j ≤ 12) (hi12 : i ≤ 12) (Z0 : n0 ≤ h0.size) : Own.Con l Z (⟨"com/example/makewhole/makewhole/input/NotationWholeNumberPinLaw", "term", "([CIII)J"⟩ : MethodName) method_4_code 6 (some .long) ({ frames := 0, cells := 1, slots := 12, locals := 0 } : Room) #[(.ref o0), (.int (Int32.ofNat q)), (.int (Int32.ofNat i)), (.int (Int32.ofNat j))] h0 (fun v h L => v = some (.long (own_tm q i j cs)) ∧ Fr n0 L ∧ Keep h0 h []) := by
  intro ws
  refine MetFree.of_bodySF (plainFor_of_name pn_3) hisR ?_
  intro p e s m args below meth c s₁ Bd hml0 hP hK
  obtain ⟨rfl, hZ, hh⟩ := hP
  have hx := Bd.exec
  have hby := Bd.bytes
  have hml : c.maxLocals = 6 := hml0
  have hown : s.vm.findClass "com/example/makewhole/makewhole/input/NotationWholeNumberPinLaw" = some m.cls := findClass_of_methodNamed Bd.named
  have hnm := (name_of_methodNamed Bd.named Bd.method).1
  have X0 : Stand p l e ({ frames := 0, cells := 1, slots := 12, locals := 0 } : Room) s m #[(.ref o0), (.int (Int32.ofNat q)), (.int (Int32.ofNat i)), (.int (Int32.ofNat j))] below meth c s₁ [] 0 0 := Stand.of_body Bd
  have e0 : s₁.heap = h0 := by rw [← hh, Bd.state]; rfl
  have K0 : ∀ t, Steps p.tables e below (s₁.setTop (mkF m 0 #[.val (.ref o0), .val (.int (Int32.ofNat q)), .val (.int (Int32.ofNat i)), .val (.int (Int32.ofNat j)), .unset, .unset] [])) t → Steps p.tables e below (s₁.setTop (entryFrame m #[(.ref o0), (.int (Int32.ofNat q)), (.int (Int32.ofNat i)), (.int (Int32.ofNat j))] 6)) t := fun t k => castTop (ef_9 m o0 (Int32.ofNat q) (Int32.ofNat i) (Int32.ofNat j)) k
  generalize s₁.setTop (entryFrame m #[(.ref o0), (.int (Int32.ofNat q)), (.int (Int32.ofNat i)), (.int (Int32.ofNat j))] 6) = B0 at K0 ⊢
  show Own.Fin p e below B0 s (({ frames := 0, cells := 1, slots := 12, locals := 0 } : Room)).cells (({ frames := 0, cells := 1, slots := 12, locals := 0 } : Room)).slots (fun v h L => v = some (.long (own_tm q i j cs)) ∧ Fr n0 L ∧ Keep h0 h [])
  have K1 : ∀ t, Steps p.tables e below (s₁.setTop (mkF m 2 #[.val (.ref o0), .val (.int (Int32.ofNat q)), .val (.int (Int32.ofNat i)), .val (.int (Int32.ofNat j)), .unset, .unset] [(.int (Int32.ofNat i)), (.int (Int32.ofNat q))])) t → Steps p.tables e below B0 t := fun t k => K0 t (by
    refine Own.iloadN X0 hx (hb hby d9_0) rfl ?_
    refine Own.iloadN X0 hx (hb hby d9_1) rfl ?_
    exact k)
  by_cases hc2 : (Int32.ofNat q) < (Int32.ofNat i)
  · have K3 : ∀ t, Steps p.tables e below (s₁.setTop (mkF m 11 #[.val (.ref o0), .val (.int (Int32.ofNat q)), .val (.int (Int32.ofNat i)), .val (.int (Int32.ofNat j)), .unset, .unset] [(.long (0 : Int64))])) t → Steps p.tables e below B0 t := fun t k => K1 t (by
      refine Own.icmpYes X0 hx 10 (hb hby d9_2) (tlt hc2).1 (by decide) (by decide) ?_
      refine Own.lconst X0 hx (0 : Int64) (hb hby d9_10) rfl ?_
      exact k)
    have kp := (Keep.refl h0 [])
    exact Own.finJ X0 hx (BodyLoose.notSynchronized Bd) Bd.returns (hb hby d9_11) K3 (by decide) (by decide) (by rw [e0]; exact ⟨by unfold own_tm; rw [if_pos hc2], Fr.nil _, kp⟩)
  · have K4 : ∀ t, Steps p.tables e below (s₁.setTop (mkF m 7 #[.val (.ref o0), .val (.int (Int32.ofNat q)), .val (.int (Int32.ofNat i)), .val (.int (Int32.ofNat j)), .unset, .unset] [(.int (Int32.ofNat j)), (.int (Int32.ofNat q))])) t → Steps p.tables e below B0 t := fun t k => K1 t (by
      refine Own.icmpNo X0 hx (hb hby d9_2) (flt hc2).1 ?_
      refine Own.iloadN X0 hx (hb hby d9_5) rfl ?_
      refine Own.iloadN X0 hx (hb hby d9_6) rfl ?_
      exact k)
    by_cases hc5 : (Int32.ofNat q) < (Int32.ofNat j)
    · have K6 : ∀ t, Steps p.tables e below (s₁.setTop (mkF m 14 #[.val (.ref o0), .val (.int (Int32.ofNat q)), .val (.int (Int32.ofNat i)), .val (.int (Int32.ofNat j)), .unset, .unset] [(.int (Int32.ofNat q)), (.ref o0)])) t → Steps p.tables e below B0 t := fun t k => K4 t (by
        refine Own.icmpYes X0 hx 12 (hb hby d9_7) (tlt hc5).1 (by decide) (by decide) ?_
        refine Own.aloadN X0 hx (hb hby d9_12) rfl rfl ?_
        refine Own.iloadN X0 hx (hb hby d9_13) rfl ?_
        exact k)
      have K7 : ∀ t, Steps p.tables e below (s₁.setTop (mkF m 21 #[.val (.ref o0), .val (.int (Int32.ofNat q)), .val (.int (Int32.ofNat i)), .val (.int (Int32.ofNat j)), .val (.int (cs.getD q 0)), .unset] [(.int (48 : Int32)), (.int (cs.getD q 0))])) t → Steps p.tables e below B0 t := fun t k => K6 t (by
        refine Own.cal X0 hx hZ e0 VA (cs.getD q 0) (Int32.ofNat_not_neg (show q < 2 ^ 31 by omega)) (by rw [Own.ofNat_clamp (by omega)]; omega) (by rw [Own.ofNat_clamp (by omega)]) (hb hby d9_14) ?_
        refine Own.istore X0 hx #[.val (.ref o0), .val (.int (Int32.ofNat q)), .val (.int (Int32.ofNat i)), .val (.int (Int32.ofNat j)), .val (.int (cs.getD q 0)), .unset] (hb hby d9_15) rfl ?_
        refine Own.iload X0 hx (hb hby d9_17) rfl ?_
        refine Own.bipush X0 hx (48 : Int32) (hb hby d9_19) rfl ?_
        exact k)
      by_cases hc8 : (cs.getD q 0) < (48 : Int32)
      · have K9 : ∀ t, Steps p.tables e below (s₁.setTop (mkF m 32 #[.val (.ref o0), .val (.int (Int32.ofNat q)), .val (.int (Int32.ofNat i)), .val (.int (Int32.ofNat j)), .val (.int (cs.getD q 0)), .unset] [(.long (0 : Int64))])) t → Steps p.tables e below B0 t := fun t k => K7 t (by
          refine Own.icmpYes X0 hx 31 (hb hby d9_21) (tlt hc8).1 (by decide) (by decide) ?_
          refine Own.lconst X0 hx (0 : Int64) (hb hby d9_31) rfl ?_
          exact k)
        have kp := (Keep.refl h0 [])
        exact Own.finJ X0 hx (BodyLoose.notSynchronized Bd) Bd.returns (hb hby d9_32) K9 (by decide) (by decide) (by rw [e0]; exact ⟨by unfold own_tm; rw [if_neg hc2, if_pos hc5, if_pos hc8], Fr.nil _, kp⟩)
      · have K10 : ∀ t, Steps p.tables e below (s₁.setTop (mkF m 28 #[.val (.ref o0), .val (.int (Int32.ofNat q)), .val (.int (Int32.ofNat i)), .val (.int (Int32.ofNat j)), .val (.int (cs.getD q 0)), .unset] [(.int (57 : Int32)), (.int (cs.getD q 0))])) t → Steps p.tables e below B0 t := fun t k => K7 t (by
          refine Own.icmpNo X0 hx (hb hby d9_21) (flt hc8).1 ?_
          refine Own.iload X0 hx (hb hby d9_24) rfl ?_
          refine Own.bipush X0 hx (57 : Int32) (hb hby d9_26) rfl ?_
          exact k)
        by_cases hc11 : (57 : Int32) < (cs.getD q 0)
        · have K12 : ∀ t, Steps p.tables e below (s₁.setTop (mkF m 32 #[.val (.ref o0), .val (.int (Int32.ofNat q)), .val (.int (Int32.ofNat i)), .val (.int (Int32.ofNat j)), .val (.int (cs.getD q 0)), .unset] [(.long (0 : Int64))])) t → Steps p.tables e below B0 t := fun t k => K10 t (by
            refine Own.icmpNo X0 hx (hb hby d9_28) (tlt hc11).2.2.2 ?_
            refine Own.lconst X0 hx (0 : Int64) (hb hby d9_31) rfl ?_
            exact k)
          have kp := (Keep.refl h0 [])
          exact Own.finJ X0 hx (BodyLoose.notSynchronized Bd) Bd.returns (hb hby d9_32) K12 (by decide) (by decide) (by rw [e0]; exact ⟨by unfold own_tm; rw [if_neg hc2, if_pos hc5, if_neg hc8, if_pos hc11], Fr.nil _, kp⟩)
        · have K13 : ∀ t, Steps p.tables e below (s₁.setTop (mkF m 35 #[.val (.ref o0), .val (.int (Int32.ofNat q)), .val (.int (Int32.ofNat i)), .val (.int (Int32.ofNat j)), .val (.int (cs.getD q 0)), .unset] [(.int (12 : Int32))])) t → Steps p.tables e below B0 t := fun t k => K10 t (by
            refine Own.icmpYes X0 hx 33 (hb hby d9_28) (flt hc11).2.2.2 (by decide) (by decide) ?_
            refine Own.bipush X0 hx (12 : Int32) (hb hby d9_33) rfl ?_
            exact k)
          obtain ⟨T14, h14, b14, X14, e14, E14, g14, V14, st14⟩ := Own.newL (Ls := #[.val (.ref o0), .val (.int (Int32.ofNat q)), .val (.int (Int32.ofNat i)), .val (.int (Int32.ofNat j)), .val (.int (cs.getD q 0)), .unset]) (S := []) (z := (12 : Int32)) X0 hx hZ e0 (hw _ (List.mem_of_getElem? (i := 41) rfl)) 12 rfl (by decide) (hb hby d9_35) (by decide) (by decide)
          have le_b14 : h0.size ≤ b14 := Nat.le_of_eq g14.symm
          have X14 : Stand p l e ({ frames := 0, cells := 1, slots := 12, locals := 0 } : Room) s m #[(.ref o0), (.int (Int32.ofNat q)), (.int (Int32.ofNat i)), (.int (Int32.ofNat j))] below meth c T14 [] 1 12 := X14
          have V14 : Own.LA Z h14 b14 [(0 : Int64), (0 : Int64), (0 : Int64), (0 : Int64), (0 : Int64), (0 : Int64), (0 : Int64), (0 : Int64), (0 : Int64), (0 : Int64), (0 : Int64), (0 : Int64)] := V14
          have m15 : h0.size ≤ h14.size := E14.1
          have K16 : ∀ t, Steps p.tables e below (T14.setTop (mkF m 37 #[.val (.ref o0), .val (.int (Int32.ofNat q)), .val (.int (Int32.ofNat i)), .val (.int (Int32.ofNat j)), .val (.int (cs.getD q 0)), .unset] [(.ref b14)])) t → Steps p.tables e below B0 t := fun t k => K13 t (st14 t k)
          have K17 : ∀ t, Steps p.tables e below (T14.setTop (mkF m 40 #[.val (.ref o0), .val (.int (Int32.ofNat q)), .val (.int (Int32.ofNat i)), .val (.int (Int32.ofNat j)), .val (.int (cs.getD q 0)), .unset] [(.long (1 : Int64)), (.int (0 : Int32)), (.ref b14), (.ref b14)])) t → Steps p.tables e below B0 t := fun t k => K16 t (by
            refine Own.dup X14 hx (hb hby d9_37) rfl ?_
            refine Own.iconst X14 hx (0 : Int32) (hb hby d9_38) rfl ?_
            refine Own.lconst X14 hx (1 : Int64) (hb hby d9_39) rfl ?_
            exact k)
          obtain ⟨T18, h18, L18, X18, e18, n18, W18, V18, st18⟩ := Own.stl (Ls := #[.val (.ref o0), .val (.int (Int32.ofNat q)), .val (.int (Int32.ofNat i)), .val (.int (Int32.ofNat j)), .val (.int (cs.getD q 0)), .unset]) (S := [(.ref b14)]) (x := (1 : Int64)) (j := (0 : Int32)) X14 hx hZ e14 V14 0 rfl (by decide) (show 0 < 12 by decide) (hb hby d9_40)
          have V18 : Own.LA Z h18 b14 [(1 : Int64), (0 : Int64), (0 : Int64), (0 : Int64), (0 : Int64), (0 : Int64), (0 : Int64), (0 : Int64), (0 : Int64), (0 : Int64), (0 : Int64), (0 : Int64)] := V18
          have N18 : Fr n0 L18 := n18 n0 (Fr.nil _) (Nat.le_trans Z0 (Nat.le_trans (Nat.le_refl _) le_b14))
          have m19 : h14.size ≤ h18.size := Nat.le_of_eq W18.size.symm
          have K20 : ∀ t, Steps p.tables e below (T18.setTop (mkF m 41 #[.val (.ref o0), .val (.int (Int32.ofNat q)), .val (.int (Int32.ofNat i)), .val (.int (Int32.ofNat j)), .val (.int (cs.getD q 0)), .unset] [(.ref b14)])) t → Steps p.tables e below B0 t := fun t k => K17 t (st18 t k)
          have K21 : ∀ t, Steps p.tables e below (T18.setTop (mkF m 46 #[.val (.ref o0), .val (.int (Int32.ofNat q)), .val (.int (Int32.ofNat i)), .val (.int (Int32.ofNat j)), .val (.int (cs.getD q 0)), .unset] [(.long (10 : Int64)), (.int (1 : Int32)), (.ref b14), (.ref b14)])) t → Steps p.tables e below B0 t := fun t k => K20 t (by
            refine Own.dup X18 hx (hb hby d9_41) rfl ?_
            refine Own.iconst X18 hx (1 : Int32) (hb hby d9_42) rfl ?_
            refine Own.ldc2J X18 hx (10 : Int64) hZ hown (hw _ (List.mem_of_getElem? (i := 42) rfl)) (hb hby d9_43) ?_
            exact k)
          obtain ⟨T22, h22, L22, X22, e22, n22, W22, V22, st22⟩ := Own.stl (Ls := #[.val (.ref o0), .val (.int (Int32.ofNat q)), .val (.int (Int32.ofNat i)), .val (.int (Int32.ofNat j)), .val (.int (cs.getD q 0)), .unset]) (S := [(.ref b14)]) (x := (10 : Int64)) (j := (1 : Int32)) X18 hx hZ e18 V18 1 rfl (by decide) (show 1 < 12 by decide) (hb hby d9_46)
          have V22 : Own.LA Z h22 b14 [(1 : Int64), (10 : Int64), (0 : Int64), (0 : Int64), (0 : Int64), (0 : Int64), (0 : Int64), (0 : Int64), (0 : Int64), (0 : Int64), (0 : Int64), (0 : Int64)] := V22
          have N22 : Fr n0 L22 := n22 n0 N18 (Nat.le_trans Z0 (Nat.le_trans (Nat.le_refl _) le_b14))
          have m23 : h18.size ≤ h22.size := Nat.le_of_eq W22.size.symm
          have K24 : ∀ t, Steps p.tables e below (T22.setTop (mkF m 47 #[.val (.ref o0), .val (.int (Int32.ofNat q)), .val (.int (Int32.ofNat i)), .val (.int (Int32.ofNat j)), .val (.int (cs.getD q 0)), .unset] [(.ref b14)])) t → Steps p.tables e below B0 t := fun t k => K21 t (st22 t k)
          have K25 : ∀ t, Steps p.tables e below (T22.setTop (mkF m 52 #[.val (.ref o0), .val (.int (Int32.ofNat q)), .val (.int (Int32.ofNat i)), .val (.int (Int32.ofNat j)), .val (.int (cs.getD q 0)), .unset] [(.long (100 : Int64)), (.int (2 : Int32)), (.ref b14), (.ref b14)])) t → Steps p.tables e below B0 t := fun t k => K24 t (by
            refine Own.dup X22 hx (hb hby d9_47) rfl ?_
            refine Own.iconst X22 hx (2 : Int32) (hb hby d9_48) rfl ?_
            refine Own.ldc2J X22 hx (100 : Int64) hZ hown (hw _ (List.mem_of_getElem? (i := 43) rfl)) (hb hby d9_49) ?_
            exact k)
          obtain ⟨T26, h26, L26, X26, e26, n26, W26, V26, st26⟩ := Own.stl (Ls := #[.val (.ref o0), .val (.int (Int32.ofNat q)), .val (.int (Int32.ofNat i)), .val (.int (Int32.ofNat j)), .val (.int (cs.getD q 0)), .unset]) (S := [(.ref b14)]) (x := (100 : Int64)) (j := (2 : Int32)) X22 hx hZ e22 V22 2 rfl (by decide) (show 2 < 12 by decide) (hb hby d9_52)
          have V26 : Own.LA Z h26 b14 [(1 : Int64), (10 : Int64), (100 : Int64), (0 : Int64), (0 : Int64), (0 : Int64), (0 : Int64), (0 : Int64), (0 : Int64), (0 : Int64), (0 : Int64), (0 : Int64)] := V26
          have N26 : Fr n0 L26 := n26 n0 N22 (Nat.le_trans Z0 (Nat.le_trans (Nat.le_refl _) le_b14))
          have m27 : h22.size ≤ h26.size := Nat.le_of_eq W26.size.symm
          have K28 : ∀ t, Steps p.tables e below (T26.setTop (mkF m 53 #[.val (.ref o0), .val (.int (Int32.ofNat q)), .val (.int (Int32.ofNat i)), .val (.int (Int32.ofNat j)), .val (.int (cs.getD q 0)), .unset] [(.ref b14)])) t → Steps p.tables e below B0 t := fun t k => K25 t (st26 t k)
          have K29 : ∀ t, Steps p.tables e below (T26.setTop (mkF m 58 #[.val (.ref o0), .val (.int (Int32.ofNat q)), .val (.int (Int32.ofNat i)), .val (.int (Int32.ofNat j)), .val (.int (cs.getD q 0)), .unset] [(.long (1000 : Int64)), (.int (3 : Int32)), (.ref b14), (.ref b14)])) t → Steps p.tables e below B0 t := fun t k => K28 t (by
            refine Own.dup X26 hx (hb hby d9_53) rfl ?_
            refine Own.iconst X26 hx (3 : Int32) (hb hby d9_54) rfl ?_
            refine Own.ldc2J X26 hx (1000 : Int64) hZ hown (hw _ (List.mem_of_getElem? (i := 44) rfl)) (hb hby d9_55) ?_
            exact k)
          obtain ⟨T30, h30, L30, X30, e30, n30, W30, V30, st30⟩ := Own.stl (Ls := #[.val (.ref o0), .val (.int (Int32.ofNat q)), .val (.int (Int32.ofNat i)), .val (.int (Int32.ofNat j)), .val (.int (cs.getD q 0)), .unset]) (S := [(.ref b14)]) (x := (1000 : Int64)) (j := (3 : Int32)) X26 hx hZ e26 V26 3 rfl (by decide) (show 3 < 12 by decide) (hb hby d9_58)
          have V30 : Own.LA Z h30 b14 [(1 : Int64), (10 : Int64), (100 : Int64), (1000 : Int64), (0 : Int64), (0 : Int64), (0 : Int64), (0 : Int64), (0 : Int64), (0 : Int64), (0 : Int64), (0 : Int64)] := V30
          have N30 : Fr n0 L30 := n30 n0 N26 (Nat.le_trans Z0 (Nat.le_trans (Nat.le_refl _) le_b14))
          have m31 : h26.size ≤ h30.size := Nat.le_of_eq W30.size.symm
          have K32 : ∀ t, Steps p.tables e below (T30.setTop (mkF m 59 #[.val (.ref o0), .val (.int (Int32.ofNat q)), .val (.int (Int32.ofNat i)), .val (.int (Int32.ofNat j)), .val (.int (cs.getD q 0)), .unset] [(.ref b14)])) t → Steps p.tables e below B0 t := fun t k => K29 t (st30 t k)
          have K33 : ∀ t, Steps p.tables e below (T30.setTop (mkF m 64 #[.val (.ref o0), .val (.int (Int32.ofNat q)), .val (.int (Int32.ofNat i)), .val (.int (Int32.ofNat j)), .val (.int (cs.getD q 0)), .unset] [(.long (10000 : Int64)), (.int (4 : Int32)), (.ref b14), (.ref b14)])) t → Steps p.tables e below B0 t := fun t k => K32 t (by
            refine Own.dup X30 hx (hb hby d9_59) rfl ?_
            refine Own.iconst X30 hx (4 : Int32) (hb hby d9_60) rfl ?_
            refine Own.ldc2J X30 hx (10000 : Int64) hZ hown (hw _ (List.mem_of_getElem? (i := 45) rfl)) (hb hby d9_61) ?_
            exact k)
          obtain ⟨T34, h34, L34, X34, e34, n34, W34, V34, st34⟩ := Own.stl (Ls := #[.val (.ref o0), .val (.int (Int32.ofNat q)), .val (.int (Int32.ofNat i)), .val (.int (Int32.ofNat j)), .val (.int (cs.getD q 0)), .unset]) (S := [(.ref b14)]) (x := (10000 : Int64)) (j := (4 : Int32)) X30 hx hZ e30 V30 4 rfl (by decide) (show 4 < 12 by decide) (hb hby d9_64)
          have V34 : Own.LA Z h34 b14 [(1 : Int64), (10 : Int64), (100 : Int64), (1000 : Int64), (10000 : Int64), (0 : Int64), (0 : Int64), (0 : Int64), (0 : Int64), (0 : Int64), (0 : Int64), (0 : Int64)] := V34
          have N34 : Fr n0 L34 := n34 n0 N30 (Nat.le_trans Z0 (Nat.le_trans (Nat.le_refl _) le_b14))
          have m35 : h30.size ≤ h34.size := Nat.le_of_eq W34.size.symm
          have K36 : ∀ t, Steps p.tables e below (T34.setTop (mkF m 65 #[.val (.ref o0), .val (.int (Int32.ofNat q)), .val (.int (Int32.ofNat i)), .val (.int (Int32.ofNat j)), .val (.int (cs.getD q 0)), .unset] [(.ref b14)])) t → Steps p.tables e below B0 t := fun t k => K33 t (st34 t k)
          have K37 : ∀ t, Steps p.tables e below (T34.setTop (mkF m 70 #[.val (.ref o0), .val (.int (Int32.ofNat q)), .val (.int (Int32.ofNat i)), .val (.int (Int32.ofNat j)), .val (.int (cs.getD q 0)), .unset] [(.long (100000 : Int64)), (.int (5 : Int32)), (.ref b14), (.ref b14)])) t → Steps p.tables e below B0 t := fun t k => K36 t (by
            refine Own.dup X34 hx (hb hby d9_65) rfl ?_
            refine Own.iconst X34 hx (5 : Int32) (hb hby d9_66) rfl ?_
            refine Own.ldc2J X34 hx (100000 : Int64) hZ hown (hw _ (List.mem_of_getElem? (i := 46) rfl)) (hb hby d9_67) ?_
            exact k)
          obtain ⟨T38, h38, L38, X38, e38, n38, W38, V38, st38⟩ := Own.stl (Ls := #[.val (.ref o0), .val (.int (Int32.ofNat q)), .val (.int (Int32.ofNat i)), .val (.int (Int32.ofNat j)), .val (.int (cs.getD q 0)), .unset]) (S := [(.ref b14)]) (x := (100000 : Int64)) (j := (5 : Int32)) X34 hx hZ e34 V34 5 rfl (by decide) (show 5 < 12 by decide) (hb hby d9_70)
          have V38 : Own.LA Z h38 b14 [(1 : Int64), (10 : Int64), (100 : Int64), (1000 : Int64), (10000 : Int64), (100000 : Int64), (0 : Int64), (0 : Int64), (0 : Int64), (0 : Int64), (0 : Int64), (0 : Int64)] := V38
          have N38 : Fr n0 L38 := n38 n0 N34 (Nat.le_trans Z0 (Nat.le_trans (Nat.le_refl _) le_b14))
          have m39 : h34.size ≤ h38.size := Nat.le_of_eq W38.size.symm
          have K40 : ∀ t, Steps p.tables e below (T38.setTop (mkF m 71 #[.val (.ref o0), .val (.int (Int32.ofNat q)), .val (.int (Int32.ofNat i)), .val (.int (Int32.ofNat j)), .val (.int (cs.getD q 0)), .unset] [(.ref b14)])) t → Steps p.tables e below B0 t := fun t k => K37 t (st38 t k)
          have K41 : ∀ t, Steps p.tables e below (T38.setTop (mkF m 77 #[.val (.ref o0), .val (.int (Int32.ofNat q)), .val (.int (Int32.ofNat i)), .val (.int (Int32.ofNat j)), .val (.int (cs.getD q 0)), .unset] [(.long (1000000 : Int64)), (.int (6 : Int32)), (.ref b14), (.ref b14)])) t → Steps p.tables e below B0 t := fun t k => K40 t (by
            refine Own.dup X38 hx (hb hby d9_71) rfl ?_
            refine Own.bipush X38 hx (6 : Int32) (hb hby d9_72) rfl ?_
            refine Own.ldc2J X38 hx (1000000 : Int64) hZ hown (hw _ (List.mem_of_getElem? (i := 47) rfl)) (hb hby d9_74) ?_
            exact k)
          obtain ⟨T42, h42, L42, X42, e42, n42, W42, V42, st42⟩ := Own.stl (Ls := #[.val (.ref o0), .val (.int (Int32.ofNat q)), .val (.int (Int32.ofNat i)), .val (.int (Int32.ofNat j)), .val (.int (cs.getD q 0)), .unset]) (S := [(.ref b14)]) (x := (1000000 : Int64)) (j := (6 : Int32)) X38 hx hZ e38 V38 6 rfl (by decide) (show 6 < 12 by decide) (hb hby d9_77)
          have V42 : Own.LA Z h42 b14 [(1 : Int64), (10 : Int64), (100 : Int64), (1000 : Int64), (10000 : Int64), (100000 : Int64), (1000000 : Int64), (0 : Int64), (0 : Int64), (0 : Int64), (0 : Int64), (0 : Int64)] := V42
          have N42 : Fr n0 L42 := n42 n0 N38 (Nat.le_trans Z0 (Nat.le_trans (Nat.le_refl _) le_b14))
          have m43 : h38.size ≤ h42.size := Nat.le_of_eq W42.size.symm
          have K44 : ∀ t, Steps p.tables e below (T42.setTop (mkF m 78 #[.val (.ref o0), .val (.int (Int32.ofNat q)), .val (.int (Int32.ofNat i)), .val (.int (Int32.ofNat j)), .val (.int (cs.getD q 0)), .unset] [(.ref b14)])) t → Steps p.tables e below B0 t := fun t k => K41 t (st42 t k)
          have K45 : ∀ t, Steps p.tables e below (T42.setTop (mkF m 84 #[.val (.ref o0), .val (.int (Int32.ofNat q)), .val (.int (Int32.ofNat i)), .val (.int (Int32.ofNat j)), .val (.int (cs.getD q 0)), .unset] [(.long (10000000 : Int64)), (.int (7 : Int32)), (.ref b14), (.ref b14)])) t → Steps p.tables e below B0 t := fun t k => K44 t (by
            refine Own.dup X42 hx (hb hby d9_78) rfl ?_
            refine Own.bipush X42 hx (7 : Int32) (hb hby d9_79) rfl ?_
            refine Own.ldc2J X42 hx (10000000 : Int64) hZ hown (hw _ (List.mem_of_getElem? (i := 48) rfl)) (hb hby d9_81) ?_
            exact k)
          obtain ⟨T46, h46, L46, X46, e46, n46, W46, V46, st46⟩ := Own.stl (Ls := #[.val (.ref o0), .val (.int (Int32.ofNat q)), .val (.int (Int32.ofNat i)), .val (.int (Int32.ofNat j)), .val (.int (cs.getD q 0)), .unset]) (S := [(.ref b14)]) (x := (10000000 : Int64)) (j := (7 : Int32)) X42 hx hZ e42 V42 7 rfl (by decide) (show 7 < 12 by decide) (hb hby d9_84)
          have V46 : Own.LA Z h46 b14 [(1 : Int64), (10 : Int64), (100 : Int64), (1000 : Int64), (10000 : Int64), (100000 : Int64), (1000000 : Int64), (10000000 : Int64), (0 : Int64), (0 : Int64), (0 : Int64), (0 : Int64)] := V46
          have N46 : Fr n0 L46 := n46 n0 N42 (Nat.le_trans Z0 (Nat.le_trans (Nat.le_refl _) le_b14))
          have m47 : h42.size ≤ h46.size := Nat.le_of_eq W46.size.symm
          have K48 : ∀ t, Steps p.tables e below (T46.setTop (mkF m 85 #[.val (.ref o0), .val (.int (Int32.ofNat q)), .val (.int (Int32.ofNat i)), .val (.int (Int32.ofNat j)), .val (.int (cs.getD q 0)), .unset] [(.ref b14)])) t → Steps p.tables e below B0 t := fun t k => K45 t (st46 t k)
          have K49 : ∀ t, Steps p.tables e below (T46.setTop (mkF m 91 #[.val (.ref o0), .val (.int (Int32.ofNat q)), .val (.int (Int32.ofNat i)), .val (.int (Int32.ofNat j)), .val (.int (cs.getD q 0)), .unset] [(.long (100000000 : Int64)), (.int (8 : Int32)), (.ref b14), (.ref b14)])) t → Steps p.tables e below B0 t := fun t k => K48 t (by
            refine Own.dup X46 hx (hb hby d9_85) rfl ?_
            refine Own.bipush X46 hx (8 : Int32) (hb hby d9_86) rfl ?_
            refine Own.ldc2J X46 hx (100000000 : Int64) hZ hown (hw _ (List.mem_of_getElem? (i := 49) rfl)) (hb hby d9_88) ?_
            exact k)
          obtain ⟨T50, h50, L50, X50, e50, n50, W50, V50, st50⟩ := Own.stl (Ls := #[.val (.ref o0), .val (.int (Int32.ofNat q)), .val (.int (Int32.ofNat i)), .val (.int (Int32.ofNat j)), .val (.int (cs.getD q 0)), .unset]) (S := [(.ref b14)]) (x := (100000000 : Int64)) (j := (8 : Int32)) X46 hx hZ e46 V46 8 rfl (by decide) (show 8 < 12 by decide) (hb hby d9_91)
          have V50 : Own.LA Z h50 b14 [(1 : Int64), (10 : Int64), (100 : Int64), (1000 : Int64), (10000 : Int64), (100000 : Int64), (1000000 : Int64), (10000000 : Int64), (100000000 : Int64), (0 : Int64), (0 : Int64), (0 : Int64)] := V50
          have N50 : Fr n0 L50 := n50 n0 N46 (Nat.le_trans Z0 (Nat.le_trans (Nat.le_refl _) le_b14))
          have m51 : h46.size ≤ h50.size := Nat.le_of_eq W50.size.symm
          have K52 : ∀ t, Steps p.tables e below (T50.setTop (mkF m 92 #[.val (.ref o0), .val (.int (Int32.ofNat q)), .val (.int (Int32.ofNat i)), .val (.int (Int32.ofNat j)), .val (.int (cs.getD q 0)), .unset] [(.ref b14)])) t → Steps p.tables e below B0 t := fun t k => K49 t (st50 t k)
          have K53 : ∀ t, Steps p.tables e below (T50.setTop (mkF m 98 #[.val (.ref o0), .val (.int (Int32.ofNat q)), .val (.int (Int32.ofNat i)), .val (.int (Int32.ofNat j)), .val (.int (cs.getD q 0)), .unset] [(.long (1000000000 : Int64)), (.int (9 : Int32)), (.ref b14), (.ref b14)])) t → Steps p.tables e below B0 t := fun t k => K52 t (by
            refine Own.dup X50 hx (hb hby d9_92) rfl ?_
            refine Own.bipush X50 hx (9 : Int32) (hb hby d9_93) rfl ?_
            refine Own.ldc2J X50 hx (1000000000 : Int64) hZ hown (hw _ (List.mem_of_getElem? (i := 50) rfl)) (hb hby d9_95) ?_
            exact k)
          obtain ⟨T54, h54, L54, X54, e54, n54, W54, V54, st54⟩ := Own.stl (Ls := #[.val (.ref o0), .val (.int (Int32.ofNat q)), .val (.int (Int32.ofNat i)), .val (.int (Int32.ofNat j)), .val (.int (cs.getD q 0)), .unset]) (S := [(.ref b14)]) (x := (1000000000 : Int64)) (j := (9 : Int32)) X50 hx hZ e50 V50 9 rfl (by decide) (show 9 < 12 by decide) (hb hby d9_98)
          have V54 : Own.LA Z h54 b14 [(1 : Int64), (10 : Int64), (100 : Int64), (1000 : Int64), (10000 : Int64), (100000 : Int64), (1000000 : Int64), (10000000 : Int64), (100000000 : Int64), (1000000000 : Int64), (0 : Int64), (0 : Int64)] := V54
          have N54 : Fr n0 L54 := n54 n0 N50 (Nat.le_trans Z0 (Nat.le_trans (Nat.le_refl _) le_b14))
          have m55 : h50.size ≤ h54.size := Nat.le_of_eq W54.size.symm
          have K56 : ∀ t, Steps p.tables e below (T54.setTop (mkF m 99 #[.val (.ref o0), .val (.int (Int32.ofNat q)), .val (.int (Int32.ofNat i)), .val (.int (Int32.ofNat j)), .val (.int (cs.getD q 0)), .unset] [(.ref b14)])) t → Steps p.tables e below B0 t := fun t k => K53 t (st54 t k)
          have K57 : ∀ t, Steps p.tables e below (T54.setTop (mkF m 105 #[.val (.ref o0), .val (.int (Int32.ofNat q)), .val (.int (Int32.ofNat i)), .val (.int (Int32.ofNat j)), .val (.int (cs.getD q 0)), .unset] [(.long (10000000000 : Int64)), (.int (10 : Int32)), (.ref b14), (.ref b14)])) t → Steps p.tables e below B0 t := fun t k => K56 t (by
            refine Own.dup X54 hx (hb hby d9_99) rfl ?_
            refine Own.bipush X54 hx (10 : Int32) (hb hby d9_100) rfl ?_
            refine Own.ldc2J X54 hx (10000000000 : Int64) hZ hown (hw _ (List.mem_of_getElem? (i := 51) rfl)) (hb hby d9_102) ?_
            exact k)
          obtain ⟨T58, h58, L58, X58, e58, n58, W58, V58, st58⟩ := Own.stl (Ls := #[.val (.ref o0), .val (.int (Int32.ofNat q)), .val (.int (Int32.ofNat i)), .val (.int (Int32.ofNat j)), .val (.int (cs.getD q 0)), .unset]) (S := [(.ref b14)]) (x := (10000000000 : Int64)) (j := (10 : Int32)) X54 hx hZ e54 V54 10 rfl (by decide) (show 10 < 12 by decide) (hb hby d9_105)
          have V58 : Own.LA Z h58 b14 [(1 : Int64), (10 : Int64), (100 : Int64), (1000 : Int64), (10000 : Int64), (100000 : Int64), (1000000 : Int64), (10000000 : Int64), (100000000 : Int64), (1000000000 : Int64), (10000000000 : Int64), (0 : Int64)] := V58
          have N58 : Fr n0 L58 := n58 n0 N54 (Nat.le_trans Z0 (Nat.le_trans (Nat.le_refl _) le_b14))
          have m59 : h54.size ≤ h58.size := Nat.le_of_eq W58.size.symm
          have K60 : ∀ t, Steps p.tables e below (T58.setTop (mkF m 106 #[.val (.ref o0), .val (.int (Int32.ofNat q)), .val (.int (Int32.ofNat i)), .val (.int (Int32.ofNat j)), .val (.int (cs.getD q 0)), .unset] [(.ref b14)])) t → Steps p.tables e below B0 t := fun t k => K57 t (st58 t k)
          have K61 : ∀ t, Steps p.tables e below (T58.setTop (mkF m 112 #[.val (.ref o0), .val (.int (Int32.ofNat q)), .val (.int (Int32.ofNat i)), .val (.int (Int32.ofNat j)), .val (.int (cs.getD q 0)), .unset] [(.long (100000000000 : Int64)), (.int (11 : Int32)), (.ref b14), (.ref b14)])) t → Steps p.tables e below B0 t := fun t k => K60 t (by
            refine Own.dup X58 hx (hb hby d9_106) rfl ?_
            refine Own.bipush X58 hx (11 : Int32) (hb hby d9_107) rfl ?_
            refine Own.ldc2J X58 hx (100000000000 : Int64) hZ hown (hw _ (List.mem_of_getElem? (i := 52) rfl)) (hb hby d9_109) ?_
            exact k)
          obtain ⟨T62, h62, L62, X62, e62, n62, W62, V62, st62⟩ := Own.stl (Ls := #[.val (.ref o0), .val (.int (Int32.ofNat q)), .val (.int (Int32.ofNat i)), .val (.int (Int32.ofNat j)), .val (.int (cs.getD q 0)), .unset]) (S := [(.ref b14)]) (x := (100000000000 : Int64)) (j := (11 : Int32)) X58 hx hZ e58 V58 11 rfl (by decide) (show 11 < 12 by decide) (hb hby d9_112)
          have V62 : Own.LA Z h62 b14 [(1 : Int64), (10 : Int64), (100 : Int64), (1000 : Int64), (10000 : Int64), (100000 : Int64), (1000000 : Int64), (10000000 : Int64), (100000000 : Int64), (1000000000 : Int64), (10000000000 : Int64), (100000000000 : Int64)] := V62
          have N62 : Fr n0 L62 := n62 n0 N58 (Nat.le_trans Z0 (Nat.le_trans (Nat.le_refl _) le_b14))
          have m63 : h58.size ≤ h62.size := Nat.le_of_eq W62.size.symm
          have K64 : ∀ t, Steps p.tables e below (T62.setTop (mkF m 113 #[.val (.ref o0), .val (.int (Int32.ofNat q)), .val (.int (Int32.ofNat i)), .val (.int (Int32.ofNat j)), .val (.int (cs.getD q 0)), .unset] [(.ref b14)])) t → Steps p.tables e below B0 t := fun t k => K61 t (st62 t k)
          have K65 : ∀ t, Steps p.tables e below (T62.setTop (mkF m 128 #[.val (.ref o0), .val (.int (Int32.ofNat q)), .val (.int (Int32.ofNat i)), .val (.int (Int32.ofNat j)), .val (.int (cs.getD q 0)), .val (.ref b14)] [(.int (((Int32.ofNat j) - (1 : Int32)) - (Int32.ofNat q))), (.ref b14), (.long (((cs.getD q 0) - (48 : Int32)).toInt64))])) t → Steps p.tables e below B0 t := fun t k => K64 t (by
            refine Own.astore X62 hx #[.val (.ref o0), .val (.int (Int32.ofNat q)), .val (.int (Int32.ofNat i)), .val (.int (Int32.ofNat j)), .val (.int (cs.getD q 0)), .val (.ref b14)] (hb hby d9_113) rfl rfl ?_
            refine Own.iload X62 hx (hb hby d9_115) rfl ?_
            refine Own.bipush X62 hx (48 : Int32) (hb hby d9_117) rfl ?_
            refine Own.isub X62 hx (hb hby d9_119) ?_
            refine Own.i2l X62 hx (hb hby d9_120) ?_
            refine Own.aload X62 hx (hb hby d9_121) rfl rfl ?_
            refine Own.iloadN X62 hx (hb hby d9_123) rfl ?_
            refine Own.iconst X62 hx (1 : Int32) (hb hby d9_124) rfl ?_
            refine Own.isub X62 hx (hb hby d9_125) ?_
            refine Own.iloadN X62 hx (hb hby d9_126) rfl ?_
            refine Own.isub X62 hx (hb hby d9_127) ?_
            exact k)
          have hqj : q < j := (own_lt (by omega) (by omega)).mp hc5
          have ei := own_ix hqj (by omega)
          rw [ei] at K65
          have K66 : ∀ t, Steps p.tables e below (T62.setTop (mkF m 130 #[.val (.ref o0), .val (.int (Int32.ofNat q)), .val (.int (Int32.ofNat i)), .val (.int (Int32.ofNat j)), .val (.int (cs.getD q 0)), .val (.ref b14)] [(.long ((((cs.getD q 0) - (48 : Int32)).toInt64) * (own_pw.getD (j - 1 - q) 0)))])) t → Steps p.tables e below B0 t := fun t k => K65 t (by
            refine Own.lal X62 hx hZ e62 V62 (own_pw.getD (j - 1 - q) 0) (Int32.ofNat_not_neg (show j - 1 - q < 2 ^ 31 by omega)) (by rw [Own.ofNat_clamp (by omega)]; show j - 1 - q < 12; omega) (by rw [Own.ofNat_clamp (by omega)]; rfl) (hb hby d9_128) ?_
            refine Own.lmul X62 hx (hb hby d9_129) ?_
            exact k)
          have kp := ((((((((((((((Keep.refl h0 []).ext E14).wr W18 (Or.inr le_b14)).wr W22 (Or.inr le_b14)).wr W26 (Or.inr le_b14)).wr W30 (Or.inr le_b14)).wr W34 (Or.inr le_b14)).wr W38 (Or.inr le_b14)).wr W42 (Or.inr le_b14)).wr W46 (Or.inr le_b14)).wr W50 (Or.inr le_b14)).wr W54 (Or.inr le_b14)).wr W58 (Or.inr le_b14)).wr W62 (Or.inr le_b14))
          exact Own.finJ X62 hx (BodyLoose.notSynchronized Bd) Bd.returns (hb hby d9_130) K66 (by decide) (by decide) (by rw [e62]; exact ⟨by unfold own_tm; rw [if_neg hc2, if_pos hc5, if_neg hc8, if_neg hc11], N62, kp⟩)
    · have K67 : ∀ t, Steps p.tables e below (s₁.setTop (mkF m 11 #[.val (.ref o0), .val (.int (Int32.ofNat q)), .val (.int (Int32.ofNat i)), .val (.int (Int32.ofNat j)), .unset, .unset] [(.long (0 : Int64))])) t → Steps p.tables e below B0 t := fun t k => K4 t (by
        refine Own.icmpNo X0 hx (hb hby d9_7) (flt hc5).1 ?_
        refine Own.lconst X0 hx (0 : Int64) (hb hby d9_10) rfl ?_
        exact k)
      have kp := (Keep.refl h0 [])
      exact Own.finJ X0 hx (BodyLoose.notSynchronized Bd) Bd.returns (hb hby d9_11) K67 (by decide) (by decide) (by rw [e0]; exact ⟨by unfold own_tm; rw [if_neg hc2, if_neg hc5], Fr.nil _, kp⟩)

theorem own_pkb (b : Int32) : ¬ nar .char (F1 b) < 0 ∧ ¬ (255 : Int32) < nar .char (F1 b) := by
  have hb := own_mask (b &&& 511) 8 255 (by decide) (by decide)
  have h0 : 0 ≤ ((b &&& 511) &&& 255).toInt ∧ ((b &&& 511) &&& 255).toInt ≤ 255 := by omega
  have h1 : (((b &&& 511) &&& 255) % 10).toInt = ((b &&& 511) &&& 255).toInt % 10 := by
    rw [Int32.toInt_mod, show (10 : Int32).toInt = 10 by decide]; exact Int.tmod_eq_emod_of_nonneg h0.1
  have h2 : ((48 : Int32) + (((b &&& 511) &&& 255) % 10)).toInt = 48 + ((b &&& 511) &&& 255).toInt % 10 := by
    rw [Int32.toInt_add, h1, show (48 : Int32).toInt = 48 by decide]; exact Int.bmod_eq_of_le (by omega) (by omega)
  unfold F1
  split
  · rw [show ((48 : Int32) + (((b &&& 511) &&& 255) % 10)).toUInt32.toUInt16.toUInt32.toInt32 = (48 : Int32) + (((b &&& 511) &&& 255) % 10) from own_nar (by omega) (by omega), own_nar (x := (48 : Int32) + (((b &&& 511) &&& 255) % 10)) (by omega) (by omega), own_nar (by omega) (by omega)]
    exact own_lt0 (by omega) (by omega)
  · rw [show ((b &&& 511) &&& 255).toUInt32.toUInt16.toUInt32.toInt32 = (b &&& 511) &&& 255 from own_nar (by omega) (by omega), own_nar (x := (b &&& 511) &&& 255) (by omega) (by omega), own_nar (by omega) (by omega)]
    exact own_lt0 h0.1 h0.2

def own_bad (i j : Nat) (cs : List Int32) : Int32 := ((((((((((((F8 0 i j cs) ||| (F8 1 i j cs)) ||| (F8 2 i j cs)) ||| (F8 3 i j cs)) ||| (F8 4 i j cs)) ||| (F8 5 i j cs)) ||| (F8 6 i j cs)) ||| (F8 7 i j cs)) ||| (F8 8 i j cs)) ||| (F8 9 i j cs)) ||| (F8 10 i j cs)) ||| (F8 11 i j cs))
def own_ref (i j : Nat) (b : Int32) : Int32 := (if (Int32.ofNat i) < (Int32.ofNat j) then (if (9 : Int32) < ((Int32.ofNat j) - (Int32.ofNat i)) then (1 : Int32) else (if b = (0 : Int32) then (0 : Int32) else (1 : Int32))) else (1 : Int32))
def own_sum (i j : Nat) (cs : List Int32) : Int64 := ((((((((((((own_tm 0 i j cs) + (own_tm 1 i j cs)) + (own_tm 2 i j cs)) + (own_tm 3 i j cs)) + (own_tm 4 i j cs)) + (own_tm 5 i j cs)) + (own_tm 6 i j cs)) + (own_tm 7 i j cs)) + (own_tm 8 i j cs)) + (own_tm 9 i j cs)) + (own_tm 10 i j cs)) + (own_tm 11 i j cs))
theorem own_bd {q i j : Nat} {cs : List Int32} (hq : q ≤ 12) (hi : i ≤ 12) (hj : j ≤ 12) : F8 q i j cs = if i ≤ q ∧ q < j ∧ own_digit (cs.getD q 0) = false then 1 else 0 := by
  unfold F8 own_digit
  generalize cs.getD q 0 = d
  by_cases h1 : Int32.ofNat q < Int32.ofNat i
  · have g1 := (own_lt (by omega) (by omega)).mp h1
    rw [if_pos h1, if_neg (fun z => by omega)]
  · have g1 : ¬ q < i := fun z => h1 ((own_lt (by omega) (by omega)).mpr z)
    rw [if_neg h1]
    by_cases h2 : Int32.ofNat q < Int32.ofNat j
    · have g2 := (own_lt (by omega) (by omega)).mp h2
      rw [if_pos h2]
      by_cases h3 : d < 48
      · rw [if_pos h3, if_pos ⟨by omega, g2, by simp only [h3, decide_true, Bool.not_true, Bool.false_and]⟩]; rfl
      · rw [if_neg h3]
        by_cases h4 : (57 : Int32) < d
        · rw [if_pos h4, if_pos ⟨by omega, g2, by simp only [h4, decide_true, Bool.not_true, Bool.and_false]⟩]; rfl
        · rw [if_neg h4, if_neg (fun z => absurd z.2.2 (by simp only [h3, h4, decide_false, Bool.not_false, Bool.and_self]; decide))]; rfl
    · rw [if_neg h2, if_neg (fun z => h2 ((own_lt (by omega) (by omega)).mpr z.2.1))]
theorem own_or1 {a b : Int32} (h : a ||| b = 0) (ha : a = 0 ∨ a = 1) (hb : b = 0 ∨ b = 1) : a = 0 ∧ b = 0 := by
  rcases ha with rfl | rfl <;> rcases hb with rfl | rfl <;> first | exact ⟨rfl, rfl⟩ | exact absurd h (by decide)
theorem own_or01 {a b : Int32} (ha : a = 0 ∨ a = 1) (hb : b = 0 ∨ b = 1) : a ||| b = 0 ∨ a ||| b = 1 := by
  rcases ha with rfl | rfl <;> rcases hb with rfl | rfl <;> decide
theorem own_bd01 {q i j : Nat} {cs : List Int32} (hq : q ≤ 12) (hi : i ≤ 12) (hj : j ≤ 12) : F8 q i j cs = 0 ∨ F8 q i j cs = 1 := by
  rw [own_bd hq hi hj]; split
  · exact Or.inr rfl
  · exact Or.inl rfl
theorem own_allD_iff (cs : List Int32) : ∀ (n a : Nat), own_allD cs a n = true ↔ ∀ q, a ≤ q → q < a + n → own_digit (cs.getD q 0) = true
  | 0, a => ⟨fun _ q h1 h2 => by omega, fun _ => rfl⟩
  | n + 1, a => by
    simp only [own_allD, Bool.and_eq_true, own_allD_iff cs n (a + 1)]
    exact ⟨fun h q h1 h2 => by
      by_cases e : q = a
      · rw [e]; exact h.1
      · exact h.2 q (by omega) (by omega), fun h => ⟨h a (Nat.le_refl _) (by omega), fun q h1 h2 => h q (by omega) (by omega)⟩⟩
theorem own_bad0 {i j : Nat} {cs : List Int32} (hi : i ≤ 12) (hj : j ≤ 12) : own_bad i j cs = 0 ↔ ∀ q, i ≤ q → q < j → own_digit (cs.getD q 0) = true := by
  have b := fun q (hq : q ≤ 12) => own_bd01 (q := q) (cs := cs) hq hi hj
  have key : own_bad i j cs = 0 ↔ ∀ q, q < 12 → F8 q i j cs = 0 := by
    constructor
    · intro h
      unfold own_bad at h
      obtain ⟨h, z11⟩ := own_or1 h (own_or01 (own_or01 (own_or01 (own_or01 (own_or01 (own_or01 (own_or01 (own_or01 (own_or01 (own_or01 (b 0 (by omega)) (b 1 (by omega))) (b 2 (by omega))) (b 3 (by omega))) (b 4 (by omega))) (b 5 (by omega))) (b 6 (by omega))) (b 7 (by omega))) (b 8 (by omega))) (b 9 (by omega))) (b 10 (by omega))) (b 11 (by omega))
      obtain ⟨h, z10⟩ := own_or1 h (own_or01 (own_or01 (own_or01 (own_or01 (own_or01 (own_or01 (own_or01 (own_or01 (own_or01 (b 0 (by omega)) (b 1 (by omega))) (b 2 (by omega))) (b 3 (by omega))) (b 4 (by omega))) (b 5 (by omega))) (b 6 (by omega))) (b 7 (by omega))) (b 8 (by omega))) (b 9 (by omega))) (b 10 (by omega))
      obtain ⟨h, z9⟩ := own_or1 h (own_or01 (own_or01 (own_or01 (own_or01 (own_or01 (own_or01 (own_or01 (own_or01 (b 0 (by omega)) (b 1 (by omega))) (b 2 (by omega))) (b 3 (by omega))) (b 4 (by omega))) (b 5 (by omega))) (b 6 (by omega))) (b 7 (by omega))) (b 8 (by omega))) (b 9 (by omega))
      obtain ⟨h, z8⟩ := own_or1 h (own_or01 (own_or01 (own_or01 (own_or01 (own_or01 (own_or01 (own_or01 (b 0 (by omega)) (b 1 (by omega))) (b 2 (by omega))) (b 3 (by omega))) (b 4 (by omega))) (b 5 (by omega))) (b 6 (by omega))) (b 7 (by omega))) (b 8 (by omega))
      obtain ⟨h, z7⟩ := own_or1 h (own_or01 (own_or01 (own_or01 (own_or01 (own_or01 (own_or01 (b 0 (by omega)) (b 1 (by omega))) (b 2 (by omega))) (b 3 (by omega))) (b 4 (by omega))) (b 5 (by omega))) (b 6 (by omega))) (b 7 (by omega))
      obtain ⟨h, z6⟩ := own_or1 h (own_or01 (own_or01 (own_or01 (own_or01 (own_or01 (b 0 (by omega)) (b 1 (by omega))) (b 2 (by omega))) (b 3 (by omega))) (b 4 (by omega))) (b 5 (by omega))) (b 6 (by omega))
      obtain ⟨h, z5⟩ := own_or1 h (own_or01 (own_or01 (own_or01 (own_or01 (b 0 (by omega)) (b 1 (by omega))) (b 2 (by omega))) (b 3 (by omega))) (b 4 (by omega))) (b 5 (by omega))
      obtain ⟨h, z4⟩ := own_or1 h (own_or01 (own_or01 (own_or01 (b 0 (by omega)) (b 1 (by omega))) (b 2 (by omega))) (b 3 (by omega))) (b 4 (by omega))
      obtain ⟨h, z3⟩ := own_or1 h (own_or01 (own_or01 (b 0 (by omega)) (b 1 (by omega))) (b 2 (by omega))) (b 3 (by omega))
      obtain ⟨h, z2⟩ := own_or1 h (own_or01 (b 0 (by omega)) (b 1 (by omega))) (b 2 (by omega))
      obtain ⟨h, z1⟩ := own_or1 h (b 0 (by omega)) (b 1 (by omega))
      intro q hq
      have : q = 0 ∨ q = 1 ∨ q = 2 ∨ q = 3 ∨ q = 4 ∨ q = 5 ∨ q = 6 ∨ q = 7 ∨ q = 8 ∨ q = 9 ∨ q = 10 ∨ q = 11 := by omega
      rcases this with rfl | rfl | rfl | rfl | rfl | rfl | rfl | rfl | rfl | rfl | rfl | rfl <;> assumption
    · intro h
      unfold own_bad
      rw [h 0 (by omega), h 1 (by omega), h 2 (by omega), h 3 (by omega), h 4 (by omega), h 5 (by omega), h 6 (by omega), h 7 (by omega), h 8 (by omega), h 9 (by omega), h 10 (by omega), h 11 (by omega)]
      decide
  rw [key]
  constructor
  · intro h q h1 h2
    have := h q (by omega)
    rw [own_bd (by omega) hi hj] at this
    cases hd : own_digit (cs.getD q 0)
    · rw [if_pos ⟨h1, h2, hd⟩] at this; exact absurd this (by decide)
    · rfl
  · intro h q hq
    rw [own_bd (by omega) hi hj, if_neg]
    intro z
    rw [h q z.1 z.2.1] at z
    exact absurd z.2.2 (by decide)
theorem own_ref_no {i j : Nat} {cs : List Int32} (h : ¬ (i < j ∧ j ≤ i + 9 ∧ own_allD cs i (j - i) = true)) (hi : i ≤ 12) (hj : j ≤ 12) : ¬ own_ref i j (own_bad i j cs) = 0 := by
  unfold own_ref
  by_cases h1 : Int32.ofNat i < Int32.ofNat j
  · have g1 := (own_lt (by omega) (by omega)).mp h1
    rw [if_pos h1]
    by_cases h2 : (9 : Int32) < Int32.ofNat j - Int32.ofNat i
    · rw [if_pos h2]; decide
    · have g2 : ¬ i + 9 < j := fun z => h2 ((own_gt9 (by omega) (by omega)).mpr z)
      rw [if_neg h2, if_neg]
      · decide
      · intro h3
        refine h ⟨g1, by omega, (own_allD_iff cs _ _).mpr fun q a b => (own_bad0 hi hj).mp h3 q a (by omega)⟩
  · rw [if_neg h1]; decide
theorem own_ref_yes {i j : Nat} {cs : List Int32} (h : i < j ∧ j ≤ i + 9 ∧ own_allD cs i (j - i) = true) (hj : j ≤ 12) : own_ref i j (own_bad i j cs) = 0 := by
  unfold own_ref
  rw [if_pos ((own_lt (by omega) (by omega)).mpr h.1), if_neg (fun z => by have := (own_gt9 (by omega) (by omega)).mp z; omega), if_pos ((own_bad0 (by omega) hj).mpr fun q a b => (own_allD_iff cs _ _).mp h.2.2 q a (by omega))]
def own_T (cs : List Int32) : Nat → Nat → Int
  | _, 0 => 0
  | a, n + 1 => ((cs.getD a 0).toInt - 48) * 10 ^ n + own_T cs (a + 1) n
theorem own_num_T (cs : List Int32) : ∀ (n a : Nat) (v : Int), own_num cs v a n = v * 10 ^ n + own_T cs a n
  | 0, a, v => by simp [own_num, own_T]
  | n + 1, a, v => by
    rw [own_num, own_num_T cs n, own_T, Int.add_mul, Int.mul_assoc, Int.pow_succ, Int.mul_comm (10 ^ n) 10, Int.add_assoc]
def own_t (cs : List Int32) (i j q : Nat) : Int := if i ≤ q ∧ q < j then ((cs.getD q 0).toInt - 48) * 10 ^ (j - 1 - q) else 0
theorem own_tm_t {cs : List Int32} {q i j : Nat} (h : i < j ∧ j ≤ i + 9 ∧ own_allD cs i (j - i) = true) (hj : j ≤ 12) (hq : q ≤ 12) : (own_tm q i j cs).toInt = own_t cs i j q ∧ 0 ≤ own_t cs i j q ∧ own_t cs i j q ≤ 900000000 := by
  unfold own_tm own_t
  by_cases h1 : Int32.ofNat q < Int32.ofNat i
  · have g1 := (own_lt (by omega) (by omega)).mp h1
    rw [if_pos h1, if_neg (fun z => by omega)]; decide
  · have g1 : ¬ q < i := fun z => h1 ((own_lt (by omega) (by omega)).mpr z)
    rw [if_neg h1]
    by_cases h2 : Int32.ofNat q < Int32.ofNat j
    · have g2 := (own_lt (by omega) (by omega)).mp h2
      have hd := own_digit_iff ((own_allD_iff cs _ _).mp h.2.2 q (by omega) (by omega))
      rw [if_pos h2, if_neg (fun z => by rw [Int32.lt_iff_toInt_lt, show (48 : Int32).toInt = 48 by decide] at z; omega), if_neg (fun z => by rw [Int32.lt_iff_toInt_lt, show (57 : Int32).toInt = 57 by decide] at z; omega), if_pos ⟨by omega, g2⟩]
      have e1 : (cs.getD q 0 - 48).toInt = (cs.getD q 0).toInt - 48 := by
        rw [Int32.toInt_sub, show (48 : Int32).toInt = 48 by decide]; exact Int.bmod_eq_of_le (by omega) (by omega)
      have hk : j - 1 - q ≤ 8 := by omega
      generalize j - 1 - q = k at *
      generalize (cs.getD q 0).toInt = d at *
      have e2 : (own_pw.getD k 0).toInt = 10 ^ k := by
        have : k = 0 ∨ k = 1 ∨ k = 2 ∨ k = 3 ∨ k = 4 ∨ k = 5 ∨ k = 6 ∨ k = 7 ∨ k = 8 := by omega
        rcases this with rfl | rfl | rfl | rfl | rfl | rfl | rfl | rfl | rfl <;> decide
      have e3 : (1 : Int) ≤ 10 ^ k ∧ (10 : Int) ^ k ≤ 100000000 := by
        have : k = 0 ∨ k = 1 ∨ k = 2 ∨ k = 3 ∨ k = 4 ∨ k = 5 ∨ k = 6 ∨ k = 7 ∨ k = 8 := by omega
        rcases this with rfl | rfl | rfl | rfl | rfl | rfl | rfl | rfl | rfl <;> decide
      have e4 : 0 ≤ (d - 48) * 10 ^ k := Int.mul_nonneg (by omega) (by omega)
      have e5 : (d - 48) * 10 ^ k ≤ 9 * 100000000 := Int.mul_le_mul (by omega) e3.2 (by omega) (by omega)
      refine ⟨?_, e4, by omega⟩
      rw [Int64.toInt_mul, Int32.toInt_toInt64, e1, e2]
      exact Int.bmod_eq_of_le (by omega) (by omega)
    · rw [if_neg h2, if_neg (fun z => h2 ((own_lt (by omega) (by omega)).mpr z.2))]; decide
theorem own_add64 {x y : Int64} {a b : Int} (hx : x.toInt = a) (hy : y.toInt = b) (h0 : 0 ≤ a + b) (h1 : a + b ≤ 100000000000) : (x + y).toInt = a + b := by
  rw [Int64.toInt_add, hx, hy]; exact Int.bmod_eq_of_le (by omega) (by omega)
theorem own_sumT {cs : List Int32} {i n : Nat} (hn : 0 < n) (hn9 : n ≤ 9) (hj : i + n ≤ 12) : own_t cs i (i + n) 0 + own_t cs i (i + n) 1 + own_t cs i (i + n) 2 + own_t cs i (i + n) 3 + own_t cs i (i + n) 4 + own_t cs i (i + n) 5 + own_t cs i (i + n) 6 + own_t cs i (i + n) 7 + own_t cs i (i + n) 8 + own_t cs i (i + n) 9 + own_t cs i (i + n) 10 + own_t cs i (i + n) 11 = own_T cs i n := by
  have h1 : i = 0 ∨ i = 1 ∨ i = 2 ∨ i = 3 ∨ i = 4 ∨ i = 5 ∨ i = 6 ∨ i = 7 ∨ i = 8 ∨ i = 9 ∨ i = 10 ∨ i = 11 := by omega
  have h2 : n = 1 ∨ n = 2 ∨ n = 3 ∨ n = 4 ∨ n = 5 ∨ n = 6 ∨ n = 7 ∨ n = 8 ∨ n = 9 := by omega
  rcases h1 with rfl | rfl | rfl | rfl | rfl | rfl | rfl | rfl | rfl | rfl | rfl | rfl <;> rcases h2 with rfl | rfl | rfl | rfl | rfl | rfl | rfl | rfl | rfl <;> first | (exfalso; omega) | (simp [own_t, own_T]; omega) | (simp [own_t, own_T]; done)
theorem own_sum_eq {i j : Nat} {cs : List Int32} (h : i < j ∧ j ≤ i + 9 ∧ own_allD cs i (j - i) = true) (hj : j ≤ 12) : ((own_dv cs 0 i (j - i)).toInt32).toInt64 = own_sum i j cs := by
  have hv := own_dv0 h.2.2 (by omega)
  rw [own_fits (by rw [hv.1]; exact hv.2.1) (by rw [hv.1]; exact hv.2.2), ← Int64.toInt_inj, hv.1, own_num_T]
  have t := fun q hq => own_tm_t (q := q) h hj hq
  have hS : (own_sum i j cs).toInt = own_t cs i j 0 + own_t cs i j 1 + own_t cs i j 2 + own_t cs i j 3 + own_t cs i j 4 + own_t cs i j 5 + own_t cs i j 6 + own_t cs i j 7 + own_t cs i j 8 + own_t cs i j 9 + own_t cs i j 10 + own_t cs i j 11 := by
    unfold own_sum
    have t0 := t 0 (by omega)
    have t1 := t 1 (by omega)
    have t2 := t 2 (by omega)
    have t3 := t 3 (by omega)
    have t4 := t 4 (by omega)
    have t5 := t 5 (by omega)
    have t6 := t 6 (by omega)
    have t7 := t 7 (by omega)
    have t8 := t 8 (by omega)
    have t9 := t 9 (by omega)
    have t10 := t 10 (by omega)
    have t11 := t 11 (by omega)
    exact (own_add64 (own_add64 (own_add64 (own_add64 (own_add64 (own_add64 (own_add64 (own_add64 (own_add64 (own_add64 (own_add64 t0.1 t1.1 (by omega) (by omega)) t2.1 (by omega) (by omega)) t3.1 (by omega) (by omega)) t4.1 (by omega) (by omega)) t5.1 (by omega) (by omega)) t6.1 (by omega) (by omega)) t7.1 (by omega) (by omega)) t8.1 (by omega) (by omega)) t9.1 (by omega) (by omega)) t10.1 (by omega) (by omega)) t11.1 (by omega) (by omega))
  rw [hS]
  have e := own_sumT (cs := cs) (i := i) (n := j - i) (by omega) (by omega) (by omega)
  rw [show i + (j - i) = j by omega] at e
  rw [e]; omega

theorem pd_7 : parseMethodDescriptor "([C)V" = some ⟨[(.array .char)], none⟩ := by decide +kernel
theorem pd_8 : parseMethodDescriptor "([CIII)Z" = some ⟨[(.array .char), .int, .int, .int], some .boolean⟩ := by decide +kernel
theorem pd_9 : parseMethodDescriptor "([CIII)J" = some ⟨[(.array .char), .int, .int, .int], some .long⟩ := by decide +kernel
theorem pd_10 : parseMethodDescriptor "(Ljava/lang/String;II)Ljava/lang/Integer;" = some ⟨[(.object "java/lang/String"), .int, .int], some (.object "java/lang/Integer")⟩ := by decide +kernel
theorem pd_11 : parseMethodDescriptor "()J" = some ⟨[], some .long⟩ := by decide +kernel
theorem ef_0 (m : MethodId) (p0 : Int32) (p1 : Int32) (p2 : Int32) (p3 : Int32) (p4 : Int32) (p5 : Int32) : entryFrame m #[(.int p0), (.int p1), (.int p2), (.int p3), (.int p4), (.int p5)] maxLocals = mkF m 0 #[.val (.int p0), .val (.int p1), .val (.int p2), .val (.int p3), .val (.int p4), .val (.int p5), .unset, .unset, .unset, .unset, .unset, .unset, .unset, .unset, .unset] [] := by first | (simp [entryFrame, mkF, argsToLocals, Value.category, maxLocals]; done) | rfl
set_option maxRecDepth 65536 in
set_option maxHeartbeats 40000000 in
theorem c0 (l : Launch) (Z : State) (a0 : Array Value) (hw : ∀ d ∈ tables_1, d.before a0 Z = true) (p0 : Int32) (p1 : Int32) (p2 : Int32) (p3 : Int32) (p4 : Int32) (p5 : Int32) (G1 : Int32) (G3 : Value) (wc : Addr) (h0 : Heap) (SC : Sta Z h0 "java/lang/String" "COMPACT_STRINGS" "Z" (.int G1)) (hG1 : ¬ G1 = 0) (SF : Sta Z h0 "jdk/internal/util/Preconditions" "SIOOBE_FORMATTER" "Ljava/util/function/BiFunction;" G3) (rG3 : G3.isRef = true) (SH : Sta Z h0 "java/lang/Integer$IntegerCache" "high" "I" (.int 127)) (SA : Sta Z h0 "java/lang/Integer$IntegerCache" "cache" "[Ljava/lang/Integer;" (.ref wc)) (KC : own_Cache Z h0 wc) : Own.Con l Z x code maxLocals ret room_1 #[(.int p0), (.int p1), (.int p2), (.int p3), (.int p4), (.int p5)] h0 (Own.Law1 h0) := by
  intro ws
  refine MetFree.of_bodySF (plainFor_of_name pn_3) hisR ?_
  intro p e s m args below meth c s₁ Bd hml0 hP hK
  obtain ⟨rfl, hZ, hh⟩ := hP
  have hx := Bd.exec
  have hby := Bd.bytes
  have hml : c.maxLocals = 15 := hml0
  have hown : s.vm.findClass "com/example/makewhole/makewhole/input/NotationWholeNumberPinLaw" = some m.cls := findClass_of_methodNamed Bd.named
  have hnm := (name_of_methodNamed Bd.named Bd.method).1
  have X0 : Stand p l e room_1 s m #[(.int p0), (.int p1), (.int p2), (.int p3), (.int p4), (.int p5)] below meth c s₁ [] 0 0 := Stand.of_body Bd
  have e0 : s₁.heap = h0 := by rw [← hh, Bd.state]; rfl
  have K0 : ∀ t, Steps p.tables e below (s₁.setTop (mkF m 0 #[.val (.int p0), .val (.int p1), .val (.int p2), .val (.int p3), .val (.int p4), .val (.int p5), .unset, .unset, .unset, .unset, .unset, .unset, .unset, .unset, .unset] [])) t → Steps p.tables e below (s₁.setTop (entryFrame m #[(.int p0), (.int p1), (.int p2), (.int p3), (.int p4), (.int p5)] maxLocals)) t := fun t k => castTop (ef_0 m p0 p1 p2 p3 p4 p5) k
  generalize s₁.setTop (entryFrame m #[(.int p0), (.int p1), (.int p2), (.int p3), (.int p4), (.int p5)] maxLocals) = B0 at K0 ⊢
  show Own.Fin p e below B0 s (room_1).cells (room_1).slots (Own.Law1 h0)
  obtain ⟨n0, hn0⟩ : ∃ z, z = h0.size := ⟨_, rfl⟩
  have Z0 : n0 ≤ h0.size := Nat.le_of_eq hn0
  have K1 : ∀ t, Steps p.tables e below (s₁.setTop (mkF m 2 #[.val (.int p0), .val (.int p1), .val (.int p2), .val (.int p3), .val (.int p4), .val (.int p5), .unset, .unset, .unset, .unset, .unset, .unset, .unset, .unset, .unset] [(.int (12 : Int32))])) t → Steps p.tables e below B0 t := fun t k => K0 t (by
    refine Own.bipush X0 hx (12 : Int32) (hb hby at_0) rfl ?_
    exact k)
  obtain ⟨T2, h2, b2, X2, e2, E2, g2, V2, st2⟩ := Own.newA (Ls := #[.val (.int p0), .val (.int p1), .val (.int p2), .val (.int p3), .val (.int p4), .val (.int p5), .unset, .unset, .unset, .unset, .unset, .unset, .unset, .unset, .unset]) (S := []) (z := (12 : Int32)) X0 hx hZ e0 .char rfl rfl (hw _ (List.mem_of_getElem? (i := 0) rfl)) 12 rfl (by decide) (hb hby at_2) (by decide) (by decide)
  have le_b2 : h0.size ≤ b2 := Nat.le_of_eq g2.symm
  have X2 : Stand p l e room_1 s m #[(.int p0), (.int p1), (.int p2), (.int p3), (.int p4), (.int p5)] below meth c T2 [] 1 12 := X2
  have V2 : Own.CA Z h2 b2 .char [(0 : Int32), (0 : Int32), (0 : Int32), (0 : Int32), (0 : Int32), (0 : Int32), (0 : Int32), (0 : Int32), (0 : Int32), (0 : Int32), (0 : Int32), (0 : Int32)] := V2
  have m3 : h0.size ≤ h2.size := E2.1
  have K4 : ∀ t, Steps p.tables e below (T2.setTop (mkF m 4 #[.val (.int p0), .val (.int p1), .val (.int p2), .val (.int p3), .val (.int p4), .val (.int p5), .unset, .unset, .unset, .unset, .unset, .unset, .unset, .unset, .unset] [(.ref b2)])) t → Steps p.tables e below B0 t := fun t k => K1 t (st2 t k)
  have K5 : ∀ t, Steps p.tables e below (T2.setTop (mkF m 10 #[.val (.int p0), .val (.int p1), .val (.int p2), .val (.int p3), .val (.int p4), .val (.int p5), .val (.ref b2), .unset, .unset, .unset, .unset, .unset, .unset, .unset, .unset] [(.int p0), (.int (0 : Int32)), (.ref b2)])) t → Steps p.tables e below B0 t := fun t k => K4 t (by
    refine Own.astore X2 hx #[.val (.int p0), .val (.int p1), .val (.int p2), .val (.int p3), .val (.int p4), .val (.int p5), .val (.ref b2), .unset, .unset, .unset, .unset, .unset, .unset, .unset, .unset] (hb hby at_4) rfl rfl ?_
    refine Own.aload X2 hx (hb hby at_6) rfl rfl ?_
    refine Own.iconst X2 hx (0 : Int32) (hb hby at_8) rfl ?_
    refine Own.iloadN X2 hx (hb hby at_9) rfl ?_
    exact k)
  obtain ⟨T6, X6, e6, st6⟩ := Own.callP (Ls := #[.val (.int p0), .val (.int p1), .val (.int p2), .val (.int p3), .val (.int p4), .val (.int p5), .val (.ref b2), .unset, .unset, .unset, .unset, .unset, .unset, .unset, .unset]) X2 hx hZ e2 [(.int p0)] [(.int (0 : Int32)), (.ref b2)] (c1 l Z a0 hw p0  h2 ) hown (hw _ (List.mem_of_getElem? (i := 1) rfl)) (hw _ (List.mem_of_getElem? (i := 2) rfl)) (hw _ (List.mem_of_getElem? (i := 3) rfl)) (hw _ (List.mem_of_getElem? (i := 4) rfl)) (by decide) 2 rfl rfl (by decide) (by decide) (by decide) (by decide) (by rw [hml]; rfl) (lenOf pd_0 rfl) rfl (Nat.le_of_eq rfl) (hb hby at_10)
  have K7 : ∀ t, Steps p.tables e below (T6.setTop (mkF m 13 #[.val (.int p0), .val (.int p1), .val (.int p2), .val (.int p3), .val (.int p4), .val (.int p5), .val (.ref b2), .unset, .unset, .unset, .unset, .unset, .unset, .unset, .unset] [(.int (F1 p0)), (.int (0 : Int32)), (.ref b2)])) t → Steps p.tables e below B0 t := fun t k => K5 t (st6 t k)
  obtain ⟨ch9, hch9⟩ : ∃ z : Int32, z = nar .char (F1 p0) := ⟨_, rfl⟩
  obtain ⟨T8, h8, L8, X8, e8, n8, W8, V8, st8⟩ := Own.stc (Ls := #[.val (.int p0), .val (.int p1), .val (.int p2), .val (.int p3), .val (.int p4), .val (.int p5), .val (.ref b2), .unset, .unset, .unset, .unset, .unset, .unset, .unset, .unset]) (S := []) (x := (F1 p0)) (j := (0 : Int32)) X6 hx hZ e6 V2 0 rfl (by decide) (show 0 < 12 by decide) (hb hby at_13)
  have V8 : Own.CA Z h8 b2 .char [ch9, (0 : Int32), (0 : Int32), (0 : Int32), (0 : Int32), (0 : Int32), (0 : Int32), (0 : Int32), (0 : Int32), (0 : Int32), (0 : Int32), (0 : Int32)] := (by rw [hch9]; exact V8)
  have N8 : Fr n0 L8 := n8 n0 (Fr.nil _) (Nat.le_trans Z0 (Nat.le_trans (Nat.le_refl _) le_b2))
  have m10 : h2.size ≤ h8.size := Nat.le_of_eq W8.size.symm
  have K11 : ∀ t, Steps p.tables e below (T8.setTop (mkF m 14 #[.val (.int p0), .val (.int p1), .val (.int p2), .val (.int p3), .val (.int p4), .val (.int p5), .val (.ref b2), .unset, .unset, .unset, .unset, .unset, .unset, .unset, .unset] [])) t → Steps p.tables e below B0 t := fun t k => K7 t (st8 t k)
  have K12 : ∀ t, Steps p.tables e below (T8.setTop (mkF m 21 #[.val (.int p0), .val (.int p1), .val (.int p2), .val (.int p3), .val (.int p4), .val (.int p5), .val (.ref b2), .unset, .unset, .unset, .unset, .unset, .unset, .unset, .unset] [(.int ((p0.toUInt32 >>> ((9 : Int32) &&& 31).toUInt32).toInt32)), (.int (1 : Int32)), (.ref b2)])) t → Steps p.tables e below B0 t := fun t k => K11 t (by
    refine Own.aload X8 hx (hb hby at_14) rfl rfl ?_
    refine Own.iconst X8 hx (1 : Int32) (hb hby at_16) rfl ?_
    refine Own.iloadN X8 hx (hb hby at_17) rfl ?_
    refine Own.bipush X8 hx (9 : Int32) (hb hby at_18) rfl ?_
    refine Own.iushr X8 hx (hb hby at_20) ?_
    exact k)
  obtain ⟨T13, X13, e13, st13⟩ := Own.callP (Ls := #[.val (.int p0), .val (.int p1), .val (.int p2), .val (.int p3), .val (.int p4), .val (.int p5), .val (.ref b2), .unset, .unset, .unset, .unset, .unset, .unset, .unset, .unset]) X8 hx hZ e8 [(.int ((p0.toUInt32 >>> ((9 : Int32) &&& 31).toUInt32).toInt32))] [(.int (1 : Int32)), (.ref b2)] (c1 l Z a0 hw ((p0.toUInt32 >>> ((9 : Int32) &&& 31).toUInt32).toInt32)  h8 ) hown (hw _ (List.mem_of_getElem? (i := 1) rfl)) (hw _ (List.mem_of_getElem? (i := 2) rfl)) (hw _ (List.mem_of_getElem? (i := 3) rfl)) (hw _ (List.mem_of_getElem? (i := 4) rfl)) (by decide) 2 rfl rfl (by decide) (by decide) (by decide) (by decide) (by rw [hml]; rfl) (lenOf pd_0 rfl) rfl (Nat.le_of_eq rfl) (hb hby at_21)
  have K14 : ∀ t, Steps p.tables e below (T13.setTop (mkF m 24 #[.val (.int p0), .val (.int p1), .val (.int p2), .val (.int p3), .val (.int p4), .val (.int p5), .val (.ref b2), .unset, .unset, .unset, .unset, .unset, .unset, .unset, .unset] [(.int (F1 ((p0.toUInt32 >>> ((9 : Int32) &&& 31).toUInt32).toInt32))), (.int (1 : Int32)), (.ref b2)])) t → Steps p.tables e below B0 t := fun t k => K12 t (st13 t k)
  obtain ⟨ch16, hch16⟩ : ∃ z : Int32, z = nar .char (F1 ((p0.toUInt32 >>> ((9 : Int32) &&& 31).toUInt32).toInt32)) := ⟨_, rfl⟩
  obtain ⟨T15, h15, L15, X15, e15, n15, W15, V15, st15⟩ := Own.stc (Ls := #[.val (.int p0), .val (.int p1), .val (.int p2), .val (.int p3), .val (.int p4), .val (.int p5), .val (.ref b2), .unset, .unset, .unset, .unset, .unset, .unset, .unset, .unset]) (S := []) (x := (F1 ((p0.toUInt32 >>> ((9 : Int32) &&& 31).toUInt32).toInt32))) (j := (1 : Int32)) X13 hx hZ e13 V8 1 rfl (by decide) (show 1 < 12 by decide) (hb hby at_24)
  have V15 : Own.CA Z h15 b2 .char [ch9, ch16, (0 : Int32), (0 : Int32), (0 : Int32), (0 : Int32), (0 : Int32), (0 : Int32), (0 : Int32), (0 : Int32), (0 : Int32), (0 : Int32)] := (by rw [hch16]; exact V15)
  have N15 : Fr n0 L15 := n15 n0 N8 (Nat.le_trans Z0 (Nat.le_trans (Nat.le_refl _) le_b2))
  have m17 : h8.size ≤ h15.size := Nat.le_of_eq W15.size.symm
  have K18 : ∀ t, Steps p.tables e below (T15.setTop (mkF m 25 #[.val (.int p0), .val (.int p1), .val (.int p2), .val (.int p3), .val (.int p4), .val (.int p5), .val (.ref b2), .unset, .unset, .unset, .unset, .unset, .unset, .unset, .unset] [])) t → Steps p.tables e below B0 t := fun t k => K14 t (st15 t k)
  have K19 : ∀ t, Steps p.tables e below (T15.setTop (mkF m 32 #[.val (.int p0), .val (.int p1), .val (.int p2), .val (.int p3), .val (.int p4), .val (.int p5), .val (.ref b2), .unset, .unset, .unset, .unset, .unset, .unset, .unset, .unset] [(.int ((p0.toUInt32 >>> ((18 : Int32) &&& 31).toUInt32).toInt32)), (.int (2 : Int32)), (.ref b2)])) t → Steps p.tables e below B0 t := fun t k => K18 t (by
    refine Own.aload X15 hx (hb hby at_25) rfl rfl ?_
    refine Own.iconst X15 hx (2 : Int32) (hb hby at_27) rfl ?_
    refine Own.iloadN X15 hx (hb hby at_28) rfl ?_
    refine Own.bipush X15 hx (18 : Int32) (hb hby at_29) rfl ?_
    refine Own.iushr X15 hx (hb hby at_31) ?_
    exact k)
  obtain ⟨T20, X20, e20, st20⟩ := Own.callP (Ls := #[.val (.int p0), .val (.int p1), .val (.int p2), .val (.int p3), .val (.int p4), .val (.int p5), .val (.ref b2), .unset, .unset, .unset, .unset, .unset, .unset, .unset, .unset]) X15 hx hZ e15 [(.int ((p0.toUInt32 >>> ((18 : Int32) &&& 31).toUInt32).toInt32))] [(.int (2 : Int32)), (.ref b2)] (c1 l Z a0 hw ((p0.toUInt32 >>> ((18 : Int32) &&& 31).toUInt32).toInt32)  h15 ) hown (hw _ (List.mem_of_getElem? (i := 1) rfl)) (hw _ (List.mem_of_getElem? (i := 2) rfl)) (hw _ (List.mem_of_getElem? (i := 3) rfl)) (hw _ (List.mem_of_getElem? (i := 4) rfl)) (by decide) 2 rfl rfl (by decide) (by decide) (by decide) (by decide) (by rw [hml]; rfl) (lenOf pd_0 rfl) rfl (Nat.le_of_eq rfl) (hb hby at_32)
  have K21 : ∀ t, Steps p.tables e below (T20.setTop (mkF m 35 #[.val (.int p0), .val (.int p1), .val (.int p2), .val (.int p3), .val (.int p4), .val (.int p5), .val (.ref b2), .unset, .unset, .unset, .unset, .unset, .unset, .unset, .unset] [(.int (F1 ((p0.toUInt32 >>> ((18 : Int32) &&& 31).toUInt32).toInt32))), (.int (2 : Int32)), (.ref b2)])) t → Steps p.tables e below B0 t := fun t k => K19 t (st20 t k)
  obtain ⟨ch23, hch23⟩ : ∃ z : Int32, z = nar .char (F1 ((p0.toUInt32 >>> ((18 : Int32) &&& 31).toUInt32).toInt32)) := ⟨_, rfl⟩
  obtain ⟨T22, h22, L22, X22, e22, n22, W22, V22, st22⟩ := Own.stc (Ls := #[.val (.int p0), .val (.int p1), .val (.int p2), .val (.int p3), .val (.int p4), .val (.int p5), .val (.ref b2), .unset, .unset, .unset, .unset, .unset, .unset, .unset, .unset]) (S := []) (x := (F1 ((p0.toUInt32 >>> ((18 : Int32) &&& 31).toUInt32).toInt32))) (j := (2 : Int32)) X20 hx hZ e20 V15 2 rfl (by decide) (show 2 < 12 by decide) (hb hby at_35)
  have V22 : Own.CA Z h22 b2 .char [ch9, ch16, ch23, (0 : Int32), (0 : Int32), (0 : Int32), (0 : Int32), (0 : Int32), (0 : Int32), (0 : Int32), (0 : Int32), (0 : Int32)] := (by rw [hch23]; exact V22)
  have N22 : Fr n0 L22 := n22 n0 N15 (Nat.le_trans Z0 (Nat.le_trans (Nat.le_refl _) le_b2))
  have m24 : h15.size ≤ h22.size := Nat.le_of_eq W22.size.symm
  have K25 : ∀ t, Steps p.tables e below (T22.setTop (mkF m 36 #[.val (.int p0), .val (.int p1), .val (.int p2), .val (.int p3), .val (.int p4), .val (.int p5), .val (.ref b2), .unset, .unset, .unset, .unset, .unset, .unset, .unset, .unset] [])) t → Steps p.tables e below B0 t := fun t k => K21 t (st22 t k)
  have K26 : ∀ t, Steps p.tables e below (T22.setTop (mkF m 40 #[.val (.int p0), .val (.int p1), .val (.int p2), .val (.int p3), .val (.int p4), .val (.int p5), .val (.ref b2), .unset, .unset, .unset, .unset, .unset, .unset, .unset, .unset] [(.int p1), (.int (3 : Int32)), (.ref b2)])) t → Steps p.tables e below B0 t := fun t k => K25 t (by
    refine Own.aload X22 hx (hb hby at_36) rfl rfl ?_
    refine Own.iconst X22 hx (3 : Int32) (hb hby at_38) rfl ?_
    refine Own.iloadN X22 hx (hb hby at_39) rfl ?_
    exact k)
  obtain ⟨T27, X27, e27, st27⟩ := Own.callP (Ls := #[.val (.int p0), .val (.int p1), .val (.int p2), .val (.int p3), .val (.int p4), .val (.int p5), .val (.ref b2), .unset, .unset, .unset, .unset, .unset, .unset, .unset, .unset]) X22 hx hZ e22 [(.int p1)] [(.int (3 : Int32)), (.ref b2)] (c1 l Z a0 hw p1  h22 ) hown (hw _ (List.mem_of_getElem? (i := 1) rfl)) (hw _ (List.mem_of_getElem? (i := 2) rfl)) (hw _ (List.mem_of_getElem? (i := 3) rfl)) (hw _ (List.mem_of_getElem? (i := 4) rfl)) (by decide) 2 rfl rfl (by decide) (by decide) (by decide) (by decide) (by rw [hml]; rfl) (lenOf pd_0 rfl) rfl (Nat.le_of_eq rfl) (hb hby at_40)
  have K28 : ∀ t, Steps p.tables e below (T27.setTop (mkF m 43 #[.val (.int p0), .val (.int p1), .val (.int p2), .val (.int p3), .val (.int p4), .val (.int p5), .val (.ref b2), .unset, .unset, .unset, .unset, .unset, .unset, .unset, .unset] [(.int (F1 p1)), (.int (3 : Int32)), (.ref b2)])) t → Steps p.tables e below B0 t := fun t k => K26 t (st27 t k)
  obtain ⟨ch30, hch30⟩ : ∃ z : Int32, z = nar .char (F1 p1) := ⟨_, rfl⟩
  obtain ⟨T29, h29, L29, X29, e29, n29, W29, V29, st29⟩ := Own.stc (Ls := #[.val (.int p0), .val (.int p1), .val (.int p2), .val (.int p3), .val (.int p4), .val (.int p5), .val (.ref b2), .unset, .unset, .unset, .unset, .unset, .unset, .unset, .unset]) (S := []) (x := (F1 p1)) (j := (3 : Int32)) X27 hx hZ e27 V22 3 rfl (by decide) (show 3 < 12 by decide) (hb hby at_43)
  have V29 : Own.CA Z h29 b2 .char [ch9, ch16, ch23, ch30, (0 : Int32), (0 : Int32), (0 : Int32), (0 : Int32), (0 : Int32), (0 : Int32), (0 : Int32), (0 : Int32)] := (by rw [hch30]; exact V29)
  have N29 : Fr n0 L29 := n29 n0 N22 (Nat.le_trans Z0 (Nat.le_trans (Nat.le_refl _) le_b2))
  have m31 : h22.size ≤ h29.size := Nat.le_of_eq W29.size.symm
  have K32 : ∀ t, Steps p.tables e below (T29.setTop (mkF m 44 #[.val (.int p0), .val (.int p1), .val (.int p2), .val (.int p3), .val (.int p4), .val (.int p5), .val (.ref b2), .unset, .unset, .unset, .unset, .unset, .unset, .unset, .unset] [])) t → Steps p.tables e below B0 t := fun t k => K28 t (st29 t k)
  have K33 : ∀ t, Steps p.tables e below (T29.setTop (mkF m 51 #[.val (.int p0), .val (.int p1), .val (.int p2), .val (.int p3), .val (.int p4), .val (.int p5), .val (.ref b2), .unset, .unset, .unset, .unset, .unset, .unset, .unset, .unset] [(.int ((p1.toUInt32 >>> ((9 : Int32) &&& 31).toUInt32).toInt32)), (.int (4 : Int32)), (.ref b2)])) t → Steps p.tables e below B0 t := fun t k => K32 t (by
    refine Own.aload X29 hx (hb hby at_44) rfl rfl ?_
    refine Own.iconst X29 hx (4 : Int32) (hb hby at_46) rfl ?_
    refine Own.iloadN X29 hx (hb hby at_47) rfl ?_
    refine Own.bipush X29 hx (9 : Int32) (hb hby at_48) rfl ?_
    refine Own.iushr X29 hx (hb hby at_50) ?_
    exact k)
  obtain ⟨T34, X34, e34, st34⟩ := Own.callP (Ls := #[.val (.int p0), .val (.int p1), .val (.int p2), .val (.int p3), .val (.int p4), .val (.int p5), .val (.ref b2), .unset, .unset, .unset, .unset, .unset, .unset, .unset, .unset]) X29 hx hZ e29 [(.int ((p1.toUInt32 >>> ((9 : Int32) &&& 31).toUInt32).toInt32))] [(.int (4 : Int32)), (.ref b2)] (c1 l Z a0 hw ((p1.toUInt32 >>> ((9 : Int32) &&& 31).toUInt32).toInt32)  h29 ) hown (hw _ (List.mem_of_getElem? (i := 1) rfl)) (hw _ (List.mem_of_getElem? (i := 2) rfl)) (hw _ (List.mem_of_getElem? (i := 3) rfl)) (hw _ (List.mem_of_getElem? (i := 4) rfl)) (by decide) 2 rfl rfl (by decide) (by decide) (by decide) (by decide) (by rw [hml]; rfl) (lenOf pd_0 rfl) rfl (Nat.le_of_eq rfl) (hb hby at_51)
  have K35 : ∀ t, Steps p.tables e below (T34.setTop (mkF m 54 #[.val (.int p0), .val (.int p1), .val (.int p2), .val (.int p3), .val (.int p4), .val (.int p5), .val (.ref b2), .unset, .unset, .unset, .unset, .unset, .unset, .unset, .unset] [(.int (F1 ((p1.toUInt32 >>> ((9 : Int32) &&& 31).toUInt32).toInt32))), (.int (4 : Int32)), (.ref b2)])) t → Steps p.tables e below B0 t := fun t k => K33 t (st34 t k)
  obtain ⟨ch37, hch37⟩ : ∃ z : Int32, z = nar .char (F1 ((p1.toUInt32 >>> ((9 : Int32) &&& 31).toUInt32).toInt32)) := ⟨_, rfl⟩
  obtain ⟨T36, h36, L36, X36, e36, n36, W36, V36, st36⟩ := Own.stc (Ls := #[.val (.int p0), .val (.int p1), .val (.int p2), .val (.int p3), .val (.int p4), .val (.int p5), .val (.ref b2), .unset, .unset, .unset, .unset, .unset, .unset, .unset, .unset]) (S := []) (x := (F1 ((p1.toUInt32 >>> ((9 : Int32) &&& 31).toUInt32).toInt32))) (j := (4 : Int32)) X34 hx hZ e34 V29 4 rfl (by decide) (show 4 < 12 by decide) (hb hby at_54)
  have V36 : Own.CA Z h36 b2 .char [ch9, ch16, ch23, ch30, ch37, (0 : Int32), (0 : Int32), (0 : Int32), (0 : Int32), (0 : Int32), (0 : Int32), (0 : Int32)] := (by rw [hch37]; exact V36)
  have N36 : Fr n0 L36 := n36 n0 N29 (Nat.le_trans Z0 (Nat.le_trans (Nat.le_refl _) le_b2))
  have m38 : h29.size ≤ h36.size := Nat.le_of_eq W36.size.symm
  have K39 : ∀ t, Steps p.tables e below (T36.setTop (mkF m 55 #[.val (.int p0), .val (.int p1), .val (.int p2), .val (.int p3), .val (.int p4), .val (.int p5), .val (.ref b2), .unset, .unset, .unset, .unset, .unset, .unset, .unset, .unset] [])) t → Steps p.tables e below B0 t := fun t k => K35 t (st36 t k)
  have K40 : ∀ t, Steps p.tables e below (T36.setTop (mkF m 62 #[.val (.int p0), .val (.int p1), .val (.int p2), .val (.int p3), .val (.int p4), .val (.int p5), .val (.ref b2), .unset, .unset, .unset, .unset, .unset, .unset, .unset, .unset] [(.int ((p1.toUInt32 >>> ((18 : Int32) &&& 31).toUInt32).toInt32)), (.int (5 : Int32)), (.ref b2)])) t → Steps p.tables e below B0 t := fun t k => K39 t (by
    refine Own.aload X36 hx (hb hby at_55) rfl rfl ?_
    refine Own.iconst X36 hx (5 : Int32) (hb hby at_57) rfl ?_
    refine Own.iloadN X36 hx (hb hby at_58) rfl ?_
    refine Own.bipush X36 hx (18 : Int32) (hb hby at_59) rfl ?_
    refine Own.iushr X36 hx (hb hby at_61) ?_
    exact k)
  obtain ⟨T41, X41, e41, st41⟩ := Own.callP (Ls := #[.val (.int p0), .val (.int p1), .val (.int p2), .val (.int p3), .val (.int p4), .val (.int p5), .val (.ref b2), .unset, .unset, .unset, .unset, .unset, .unset, .unset, .unset]) X36 hx hZ e36 [(.int ((p1.toUInt32 >>> ((18 : Int32) &&& 31).toUInt32).toInt32))] [(.int (5 : Int32)), (.ref b2)] (c1 l Z a0 hw ((p1.toUInt32 >>> ((18 : Int32) &&& 31).toUInt32).toInt32)  h36 ) hown (hw _ (List.mem_of_getElem? (i := 1) rfl)) (hw _ (List.mem_of_getElem? (i := 2) rfl)) (hw _ (List.mem_of_getElem? (i := 3) rfl)) (hw _ (List.mem_of_getElem? (i := 4) rfl)) (by decide) 2 rfl rfl (by decide) (by decide) (by decide) (by decide) (by rw [hml]; rfl) (lenOf pd_0 rfl) rfl (Nat.le_of_eq rfl) (hb hby at_62)
  have K42 : ∀ t, Steps p.tables e below (T41.setTop (mkF m 65 #[.val (.int p0), .val (.int p1), .val (.int p2), .val (.int p3), .val (.int p4), .val (.int p5), .val (.ref b2), .unset, .unset, .unset, .unset, .unset, .unset, .unset, .unset] [(.int (F1 ((p1.toUInt32 >>> ((18 : Int32) &&& 31).toUInt32).toInt32))), (.int (5 : Int32)), (.ref b2)])) t → Steps p.tables e below B0 t := fun t k => K40 t (st41 t k)
  obtain ⟨ch44, hch44⟩ : ∃ z : Int32, z = nar .char (F1 ((p1.toUInt32 >>> ((18 : Int32) &&& 31).toUInt32).toInt32)) := ⟨_, rfl⟩
  obtain ⟨T43, h43, L43, X43, e43, n43, W43, V43, st43⟩ := Own.stc (Ls := #[.val (.int p0), .val (.int p1), .val (.int p2), .val (.int p3), .val (.int p4), .val (.int p5), .val (.ref b2), .unset, .unset, .unset, .unset, .unset, .unset, .unset, .unset]) (S := []) (x := (F1 ((p1.toUInt32 >>> ((18 : Int32) &&& 31).toUInt32).toInt32))) (j := (5 : Int32)) X41 hx hZ e41 V36 5 rfl (by decide) (show 5 < 12 by decide) (hb hby at_65)
  have V43 : Own.CA Z h43 b2 .char [ch9, ch16, ch23, ch30, ch37, ch44, (0 : Int32), (0 : Int32), (0 : Int32), (0 : Int32), (0 : Int32), (0 : Int32)] := (by rw [hch44]; exact V43)
  have N43 : Fr n0 L43 := n43 n0 N36 (Nat.le_trans Z0 (Nat.le_trans (Nat.le_refl _) le_b2))
  have m45 : h36.size ≤ h43.size := Nat.le_of_eq W43.size.symm
  have K46 : ∀ t, Steps p.tables e below (T43.setTop (mkF m 66 #[.val (.int p0), .val (.int p1), .val (.int p2), .val (.int p3), .val (.int p4), .val (.int p5), .val (.ref b2), .unset, .unset, .unset, .unset, .unset, .unset, .unset, .unset] [])) t → Steps p.tables e below B0 t := fun t k => K42 t (st43 t k)
  have K47 : ∀ t, Steps p.tables e below (T43.setTop (mkF m 71 #[.val (.int p0), .val (.int p1), .val (.int p2), .val (.int p3), .val (.int p4), .val (.int p5), .val (.ref b2), .unset, .unset, .unset, .unset, .unset, .unset, .unset, .unset] [(.int p2), (.int (6 : Int32)), (.ref b2)])) t → Steps p.tables e below B0 t := fun t k => K46 t (by
    refine Own.aload X43 hx (hb hby at_66) rfl rfl ?_
    refine Own.bipush X43 hx (6 : Int32) (hb hby at_68) rfl ?_
    refine Own.iloadN X43 hx (hb hby at_70) rfl ?_
    exact k)
  obtain ⟨T48, X48, e48, st48⟩ := Own.callP (Ls := #[.val (.int p0), .val (.int p1), .val (.int p2), .val (.int p3), .val (.int p4), .val (.int p5), .val (.ref b2), .unset, .unset, .unset, .unset, .unset, .unset, .unset, .unset]) X43 hx hZ e43 [(.int p2)] [(.int (6 : Int32)), (.ref b2)] (c1 l Z a0 hw p2  h43 ) hown (hw _ (List.mem_of_getElem? (i := 1) rfl)) (hw _ (List.mem_of_getElem? (i := 2) rfl)) (hw _ (List.mem_of_getElem? (i := 3) rfl)) (hw _ (List.mem_of_getElem? (i := 4) rfl)) (by decide) 2 rfl rfl (by decide) (by decide) (by decide) (by decide) (by rw [hml]; rfl) (lenOf pd_0 rfl) rfl (Nat.le_of_eq rfl) (hb hby at_71)
  have K49 : ∀ t, Steps p.tables e below (T48.setTop (mkF m 74 #[.val (.int p0), .val (.int p1), .val (.int p2), .val (.int p3), .val (.int p4), .val (.int p5), .val (.ref b2), .unset, .unset, .unset, .unset, .unset, .unset, .unset, .unset] [(.int (F1 p2)), (.int (6 : Int32)), (.ref b2)])) t → Steps p.tables e below B0 t := fun t k => K47 t (st48 t k)
  obtain ⟨ch51, hch51⟩ : ∃ z : Int32, z = nar .char (F1 p2) := ⟨_, rfl⟩
  obtain ⟨T50, h50, L50, X50, e50, n50, W50, V50, st50⟩ := Own.stc (Ls := #[.val (.int p0), .val (.int p1), .val (.int p2), .val (.int p3), .val (.int p4), .val (.int p5), .val (.ref b2), .unset, .unset, .unset, .unset, .unset, .unset, .unset, .unset]) (S := []) (x := (F1 p2)) (j := (6 : Int32)) X48 hx hZ e48 V43 6 rfl (by decide) (show 6 < 12 by decide) (hb hby at_74)
  have V50 : Own.CA Z h50 b2 .char [ch9, ch16, ch23, ch30, ch37, ch44, ch51, (0 : Int32), (0 : Int32), (0 : Int32), (0 : Int32), (0 : Int32)] := (by rw [hch51]; exact V50)
  have N50 : Fr n0 L50 := n50 n0 N43 (Nat.le_trans Z0 (Nat.le_trans (Nat.le_refl _) le_b2))
  have m52 : h43.size ≤ h50.size := Nat.le_of_eq W50.size.symm
  have K53 : ∀ t, Steps p.tables e below (T50.setTop (mkF m 75 #[.val (.int p0), .val (.int p1), .val (.int p2), .val (.int p3), .val (.int p4), .val (.int p5), .val (.ref b2), .unset, .unset, .unset, .unset, .unset, .unset, .unset, .unset] [])) t → Steps p.tables e below B0 t := fun t k => K49 t (st50 t k)
  have K54 : ∀ t, Steps p.tables e below (T50.setTop (mkF m 83 #[.val (.int p0), .val (.int p1), .val (.int p2), .val (.int p3), .val (.int p4), .val (.int p5), .val (.ref b2), .unset, .unset, .unset, .unset, .unset, .unset, .unset, .unset] [(.int ((p2.toUInt32 >>> ((9 : Int32) &&& 31).toUInt32).toInt32)), (.int (7 : Int32)), (.ref b2)])) t → Steps p.tables e below B0 t := fun t k => K53 t (by
    refine Own.aload X50 hx (hb hby at_75) rfl rfl ?_
    refine Own.bipush X50 hx (7 : Int32) (hb hby at_77) rfl ?_
    refine Own.iloadN X50 hx (hb hby at_79) rfl ?_
    refine Own.bipush X50 hx (9 : Int32) (hb hby at_80) rfl ?_
    refine Own.iushr X50 hx (hb hby at_82) ?_
    exact k)
  obtain ⟨T55, X55, e55, st55⟩ := Own.callP (Ls := #[.val (.int p0), .val (.int p1), .val (.int p2), .val (.int p3), .val (.int p4), .val (.int p5), .val (.ref b2), .unset, .unset, .unset, .unset, .unset, .unset, .unset, .unset]) X50 hx hZ e50 [(.int ((p2.toUInt32 >>> ((9 : Int32) &&& 31).toUInt32).toInt32))] [(.int (7 : Int32)), (.ref b2)] (c1 l Z a0 hw ((p2.toUInt32 >>> ((9 : Int32) &&& 31).toUInt32).toInt32)  h50 ) hown (hw _ (List.mem_of_getElem? (i := 1) rfl)) (hw _ (List.mem_of_getElem? (i := 2) rfl)) (hw _ (List.mem_of_getElem? (i := 3) rfl)) (hw _ (List.mem_of_getElem? (i := 4) rfl)) (by decide) 2 rfl rfl (by decide) (by decide) (by decide) (by decide) (by rw [hml]; rfl) (lenOf pd_0 rfl) rfl (Nat.le_of_eq rfl) (hb hby at_83)
  have K56 : ∀ t, Steps p.tables e below (T55.setTop (mkF m 86 #[.val (.int p0), .val (.int p1), .val (.int p2), .val (.int p3), .val (.int p4), .val (.int p5), .val (.ref b2), .unset, .unset, .unset, .unset, .unset, .unset, .unset, .unset] [(.int (F1 ((p2.toUInt32 >>> ((9 : Int32) &&& 31).toUInt32).toInt32))), (.int (7 : Int32)), (.ref b2)])) t → Steps p.tables e below B0 t := fun t k => K54 t (st55 t k)
  obtain ⟨ch58, hch58⟩ : ∃ z : Int32, z = nar .char (F1 ((p2.toUInt32 >>> ((9 : Int32) &&& 31).toUInt32).toInt32)) := ⟨_, rfl⟩
  obtain ⟨T57, h57, L57, X57, e57, n57, W57, V57, st57⟩ := Own.stc (Ls := #[.val (.int p0), .val (.int p1), .val (.int p2), .val (.int p3), .val (.int p4), .val (.int p5), .val (.ref b2), .unset, .unset, .unset, .unset, .unset, .unset, .unset, .unset]) (S := []) (x := (F1 ((p2.toUInt32 >>> ((9 : Int32) &&& 31).toUInt32).toInt32))) (j := (7 : Int32)) X55 hx hZ e55 V50 7 rfl (by decide) (show 7 < 12 by decide) (hb hby at_86)
  have V57 : Own.CA Z h57 b2 .char [ch9, ch16, ch23, ch30, ch37, ch44, ch51, ch58, (0 : Int32), (0 : Int32), (0 : Int32), (0 : Int32)] := (by rw [hch58]; exact V57)
  have N57 : Fr n0 L57 := n57 n0 N50 (Nat.le_trans Z0 (Nat.le_trans (Nat.le_refl _) le_b2))
  have m59 : h50.size ≤ h57.size := Nat.le_of_eq W57.size.symm
  have K60 : ∀ t, Steps p.tables e below (T57.setTop (mkF m 87 #[.val (.int p0), .val (.int p1), .val (.int p2), .val (.int p3), .val (.int p4), .val (.int p5), .val (.ref b2), .unset, .unset, .unset, .unset, .unset, .unset, .unset, .unset] [])) t → Steps p.tables e below B0 t := fun t k => K56 t (st57 t k)
  have K61 : ∀ t, Steps p.tables e below (T57.setTop (mkF m 95 #[.val (.int p0), .val (.int p1), .val (.int p2), .val (.int p3), .val (.int p4), .val (.int p5), .val (.ref b2), .unset, .unset, .unset, .unset, .unset, .unset, .unset, .unset] [(.int ((p2.toUInt32 >>> ((18 : Int32) &&& 31).toUInt32).toInt32)), (.int (8 : Int32)), (.ref b2)])) t → Steps p.tables e below B0 t := fun t k => K60 t (by
    refine Own.aload X57 hx (hb hby at_87) rfl rfl ?_
    refine Own.bipush X57 hx (8 : Int32) (hb hby at_89) rfl ?_
    refine Own.iloadN X57 hx (hb hby at_91) rfl ?_
    refine Own.bipush X57 hx (18 : Int32) (hb hby at_92) rfl ?_
    refine Own.iushr X57 hx (hb hby at_94) ?_
    exact k)
  obtain ⟨T62, X62, e62, st62⟩ := Own.callP (Ls := #[.val (.int p0), .val (.int p1), .val (.int p2), .val (.int p3), .val (.int p4), .val (.int p5), .val (.ref b2), .unset, .unset, .unset, .unset, .unset, .unset, .unset, .unset]) X57 hx hZ e57 [(.int ((p2.toUInt32 >>> ((18 : Int32) &&& 31).toUInt32).toInt32))] [(.int (8 : Int32)), (.ref b2)] (c1 l Z a0 hw ((p2.toUInt32 >>> ((18 : Int32) &&& 31).toUInt32).toInt32)  h57 ) hown (hw _ (List.mem_of_getElem? (i := 1) rfl)) (hw _ (List.mem_of_getElem? (i := 2) rfl)) (hw _ (List.mem_of_getElem? (i := 3) rfl)) (hw _ (List.mem_of_getElem? (i := 4) rfl)) (by decide) 2 rfl rfl (by decide) (by decide) (by decide) (by decide) (by rw [hml]; rfl) (lenOf pd_0 rfl) rfl (Nat.le_of_eq rfl) (hb hby at_95)
  have K63 : ∀ t, Steps p.tables e below (T62.setTop (mkF m 98 #[.val (.int p0), .val (.int p1), .val (.int p2), .val (.int p3), .val (.int p4), .val (.int p5), .val (.ref b2), .unset, .unset, .unset, .unset, .unset, .unset, .unset, .unset] [(.int (F1 ((p2.toUInt32 >>> ((18 : Int32) &&& 31).toUInt32).toInt32))), (.int (8 : Int32)), (.ref b2)])) t → Steps p.tables e below B0 t := fun t k => K61 t (st62 t k)
  obtain ⟨ch65, hch65⟩ : ∃ z : Int32, z = nar .char (F1 ((p2.toUInt32 >>> ((18 : Int32) &&& 31).toUInt32).toInt32)) := ⟨_, rfl⟩
  obtain ⟨T64, h64, L64, X64, e64, n64, W64, V64, st64⟩ := Own.stc (Ls := #[.val (.int p0), .val (.int p1), .val (.int p2), .val (.int p3), .val (.int p4), .val (.int p5), .val (.ref b2), .unset, .unset, .unset, .unset, .unset, .unset, .unset, .unset]) (S := []) (x := (F1 ((p2.toUInt32 >>> ((18 : Int32) &&& 31).toUInt32).toInt32))) (j := (8 : Int32)) X62 hx hZ e62 V57 8 rfl (by decide) (show 8 < 12 by decide) (hb hby at_98)
  have V64 : Own.CA Z h64 b2 .char [ch9, ch16, ch23, ch30, ch37, ch44, ch51, ch58, ch65, (0 : Int32), (0 : Int32), (0 : Int32)] := (by rw [hch65]; exact V64)
  have N64 : Fr n0 L64 := n64 n0 N57 (Nat.le_trans Z0 (Nat.le_trans (Nat.le_refl _) le_b2))
  have m66 : h57.size ≤ h64.size := Nat.le_of_eq W64.size.symm
  have K67 : ∀ t, Steps p.tables e below (T64.setTop (mkF m 99 #[.val (.int p0), .val (.int p1), .val (.int p2), .val (.int p3), .val (.int p4), .val (.int p5), .val (.ref b2), .unset, .unset, .unset, .unset, .unset, .unset, .unset, .unset] [])) t → Steps p.tables e below B0 t := fun t k => K63 t (st64 t k)
  have K68 : ∀ t, Steps p.tables e below (T64.setTop (mkF m 104 #[.val (.int p0), .val (.int p1), .val (.int p2), .val (.int p3), .val (.int p4), .val (.int p5), .val (.ref b2), .unset, .unset, .unset, .unset, .unset, .unset, .unset, .unset] [(.int p3), (.int (9 : Int32)), (.ref b2)])) t → Steps p.tables e below B0 t := fun t k => K67 t (by
    refine Own.aload X64 hx (hb hby at_99) rfl rfl ?_
    refine Own.bipush X64 hx (9 : Int32) (hb hby at_101) rfl ?_
    refine Own.iloadN X64 hx (hb hby at_103) rfl ?_
    exact k)
  obtain ⟨T69, X69, e69, st69⟩ := Own.callP (Ls := #[.val (.int p0), .val (.int p1), .val (.int p2), .val (.int p3), .val (.int p4), .val (.int p5), .val (.ref b2), .unset, .unset, .unset, .unset, .unset, .unset, .unset, .unset]) X64 hx hZ e64 [(.int p3)] [(.int (9 : Int32)), (.ref b2)] (c1 l Z a0 hw p3  h64 ) hown (hw _ (List.mem_of_getElem? (i := 1) rfl)) (hw _ (List.mem_of_getElem? (i := 2) rfl)) (hw _ (List.mem_of_getElem? (i := 3) rfl)) (hw _ (List.mem_of_getElem? (i := 4) rfl)) (by decide) 2 rfl rfl (by decide) (by decide) (by decide) (by decide) (by rw [hml]; rfl) (lenOf pd_0 rfl) rfl (Nat.le_of_eq rfl) (hb hby at_104)
  have K70 : ∀ t, Steps p.tables e below (T69.setTop (mkF m 107 #[.val (.int p0), .val (.int p1), .val (.int p2), .val (.int p3), .val (.int p4), .val (.int p5), .val (.ref b2), .unset, .unset, .unset, .unset, .unset, .unset, .unset, .unset] [(.int (F1 p3)), (.int (9 : Int32)), (.ref b2)])) t → Steps p.tables e below B0 t := fun t k => K68 t (st69 t k)
  obtain ⟨ch72, hch72⟩ : ∃ z : Int32, z = nar .char (F1 p3) := ⟨_, rfl⟩
  obtain ⟨T71, h71, L71, X71, e71, n71, W71, V71, st71⟩ := Own.stc (Ls := #[.val (.int p0), .val (.int p1), .val (.int p2), .val (.int p3), .val (.int p4), .val (.int p5), .val (.ref b2), .unset, .unset, .unset, .unset, .unset, .unset, .unset, .unset]) (S := []) (x := (F1 p3)) (j := (9 : Int32)) X69 hx hZ e69 V64 9 rfl (by decide) (show 9 < 12 by decide) (hb hby at_107)
  have V71 : Own.CA Z h71 b2 .char [ch9, ch16, ch23, ch30, ch37, ch44, ch51, ch58, ch65, ch72, (0 : Int32), (0 : Int32)] := (by rw [hch72]; exact V71)
  have N71 : Fr n0 L71 := n71 n0 N64 (Nat.le_trans Z0 (Nat.le_trans (Nat.le_refl _) le_b2))
  have m73 : h64.size ≤ h71.size := Nat.le_of_eq W71.size.symm
  have K74 : ∀ t, Steps p.tables e below (T71.setTop (mkF m 108 #[.val (.int p0), .val (.int p1), .val (.int p2), .val (.int p3), .val (.int p4), .val (.int p5), .val (.ref b2), .unset, .unset, .unset, .unset, .unset, .unset, .unset, .unset] [])) t → Steps p.tables e below B0 t := fun t k => K70 t (st71 t k)
  have K75 : ∀ t, Steps p.tables e below (T71.setTop (mkF m 116 #[.val (.int p0), .val (.int p1), .val (.int p2), .val (.int p3), .val (.int p4), .val (.int p5), .val (.ref b2), .unset, .unset, .unset, .unset, .unset, .unset, .unset, .unset] [(.int ((p3.toUInt32 >>> ((9 : Int32) &&& 31).toUInt32).toInt32)), (.int (10 : Int32)), (.ref b2)])) t → Steps p.tables e below B0 t := fun t k => K74 t (by
    refine Own.aload X71 hx (hb hby at_108) rfl rfl ?_
    refine Own.bipush X71 hx (10 : Int32) (hb hby at_110) rfl ?_
    refine Own.iloadN X71 hx (hb hby at_112) rfl ?_
    refine Own.bipush X71 hx (9 : Int32) (hb hby at_113) rfl ?_
    refine Own.iushr X71 hx (hb hby at_115) ?_
    exact k)
  obtain ⟨T76, X76, e76, st76⟩ := Own.callP (Ls := #[.val (.int p0), .val (.int p1), .val (.int p2), .val (.int p3), .val (.int p4), .val (.int p5), .val (.ref b2), .unset, .unset, .unset, .unset, .unset, .unset, .unset, .unset]) X71 hx hZ e71 [(.int ((p3.toUInt32 >>> ((9 : Int32) &&& 31).toUInt32).toInt32))] [(.int (10 : Int32)), (.ref b2)] (c1 l Z a0 hw ((p3.toUInt32 >>> ((9 : Int32) &&& 31).toUInt32).toInt32)  h71 ) hown (hw _ (List.mem_of_getElem? (i := 1) rfl)) (hw _ (List.mem_of_getElem? (i := 2) rfl)) (hw _ (List.mem_of_getElem? (i := 3) rfl)) (hw _ (List.mem_of_getElem? (i := 4) rfl)) (by decide) 2 rfl rfl (by decide) (by decide) (by decide) (by decide) (by rw [hml]; rfl) (lenOf pd_0 rfl) rfl (Nat.le_of_eq rfl) (hb hby at_116)
  have K77 : ∀ t, Steps p.tables e below (T76.setTop (mkF m 119 #[.val (.int p0), .val (.int p1), .val (.int p2), .val (.int p3), .val (.int p4), .val (.int p5), .val (.ref b2), .unset, .unset, .unset, .unset, .unset, .unset, .unset, .unset] [(.int (F1 ((p3.toUInt32 >>> ((9 : Int32) &&& 31).toUInt32).toInt32))), (.int (10 : Int32)), (.ref b2)])) t → Steps p.tables e below B0 t := fun t k => K75 t (st76 t k)
  obtain ⟨ch79, hch79⟩ : ∃ z : Int32, z = nar .char (F1 ((p3.toUInt32 >>> ((9 : Int32) &&& 31).toUInt32).toInt32)) := ⟨_, rfl⟩
  obtain ⟨T78, h78, L78, X78, e78, n78, W78, V78, st78⟩ := Own.stc (Ls := #[.val (.int p0), .val (.int p1), .val (.int p2), .val (.int p3), .val (.int p4), .val (.int p5), .val (.ref b2), .unset, .unset, .unset, .unset, .unset, .unset, .unset, .unset]) (S := []) (x := (F1 ((p3.toUInt32 >>> ((9 : Int32) &&& 31).toUInt32).toInt32))) (j := (10 : Int32)) X76 hx hZ e76 V71 10 rfl (by decide) (show 10 < 12 by decide) (hb hby at_119)
  have V78 : Own.CA Z h78 b2 .char [ch9, ch16, ch23, ch30, ch37, ch44, ch51, ch58, ch65, ch72, ch79, (0 : Int32)] := (by rw [hch79]; exact V78)
  have N78 : Fr n0 L78 := n78 n0 N71 (Nat.le_trans Z0 (Nat.le_trans (Nat.le_refl _) le_b2))
  have m80 : h71.size ≤ h78.size := Nat.le_of_eq W78.size.symm
  have K81 : ∀ t, Steps p.tables e below (T78.setTop (mkF m 120 #[.val (.int p0), .val (.int p1), .val (.int p2), .val (.int p3), .val (.int p4), .val (.int p5), .val (.ref b2), .unset, .unset, .unset, .unset, .unset, .unset, .unset, .unset] [])) t → Steps p.tables e below B0 t := fun t k => K77 t (st78 t k)
  have K82 : ∀ t, Steps p.tables e below (T78.setTop (mkF m 128 #[.val (.int p0), .val (.int p1), .val (.int p2), .val (.int p3), .val (.int p4), .val (.int p5), .val (.ref b2), .unset, .unset, .unset, .unset, .unset, .unset, .unset, .unset] [(.int ((p3.toUInt32 >>> ((18 : Int32) &&& 31).toUInt32).toInt32)), (.int (11 : Int32)), (.ref b2)])) t → Steps p.tables e below B0 t := fun t k => K81 t (by
    refine Own.aload X78 hx (hb hby at_120) rfl rfl ?_
    refine Own.bipush X78 hx (11 : Int32) (hb hby at_122) rfl ?_
    refine Own.iloadN X78 hx (hb hby at_124) rfl ?_
    refine Own.bipush X78 hx (18 : Int32) (hb hby at_125) rfl ?_
    refine Own.iushr X78 hx (hb hby at_127) ?_
    exact k)
  obtain ⟨T83, X83, e83, st83⟩ := Own.callP (Ls := #[.val (.int p0), .val (.int p1), .val (.int p2), .val (.int p3), .val (.int p4), .val (.int p5), .val (.ref b2), .unset, .unset, .unset, .unset, .unset, .unset, .unset, .unset]) X78 hx hZ e78 [(.int ((p3.toUInt32 >>> ((18 : Int32) &&& 31).toUInt32).toInt32))] [(.int (11 : Int32)), (.ref b2)] (c1 l Z a0 hw ((p3.toUInt32 >>> ((18 : Int32) &&& 31).toUInt32).toInt32)  h78 ) hown (hw _ (List.mem_of_getElem? (i := 1) rfl)) (hw _ (List.mem_of_getElem? (i := 2) rfl)) (hw _ (List.mem_of_getElem? (i := 3) rfl)) (hw _ (List.mem_of_getElem? (i := 4) rfl)) (by decide) 2 rfl rfl (by decide) (by decide) (by decide) (by decide) (by rw [hml]; rfl) (lenOf pd_0 rfl) rfl (Nat.le_of_eq rfl) (hb hby at_128)
  have K84 : ∀ t, Steps p.tables e below (T83.setTop (mkF m 131 #[.val (.int p0), .val (.int p1), .val (.int p2), .val (.int p3), .val (.int p4), .val (.int p5), .val (.ref b2), .unset, .unset, .unset, .unset, .unset, .unset, .unset, .unset] [(.int (F1 ((p3.toUInt32 >>> ((18 : Int32) &&& 31).toUInt32).toInt32))), (.int (11 : Int32)), (.ref b2)])) t → Steps p.tables e below B0 t := fun t k => K82 t (st83 t k)
  obtain ⟨ch86, hch86⟩ : ∃ z : Int32, z = nar .char (F1 ((p3.toUInt32 >>> ((18 : Int32) &&& 31).toUInt32).toInt32)) := ⟨_, rfl⟩
  obtain ⟨T85, h85, L85, X85, e85, n85, W85, V85, st85⟩ := Own.stc (Ls := #[.val (.int p0), .val (.int p1), .val (.int p2), .val (.int p3), .val (.int p4), .val (.int p5), .val (.ref b2), .unset, .unset, .unset, .unset, .unset, .unset, .unset, .unset]) (S := []) (x := (F1 ((p3.toUInt32 >>> ((18 : Int32) &&& 31).toUInt32).toInt32))) (j := (11 : Int32)) X83 hx hZ e83 V78 11 rfl (by decide) (show 11 < 12 by decide) (hb hby at_131)
  have V85 : Own.CA Z h85 b2 .char [ch9, ch16, ch23, ch30, ch37, ch44, ch51, ch58, ch65, ch72, ch79, ch86] := (by rw [hch86]; exact V85)
  have N85 : Fr n0 L85 := n85 n0 N78 (Nat.le_trans Z0 (Nat.le_trans (Nat.le_refl _) le_b2))
  have m87 : h78.size ≤ h85.size := Nat.le_of_eq W85.size.symm
  have K88 : ∀ t, Steps p.tables e below (T85.setTop (mkF m 132 #[.val (.int p0), .val (.int p1), .val (.int p2), .val (.int p3), .val (.int p4), .val (.int p5), .val (.ref b2), .unset, .unset, .unset, .unset, .unset, .unset, .unset, .unset] [])) t → Steps p.tables e below B0 t := fun t k => K84 t (st85 t k)
  obtain ⟨T89, h89, b89, X89, e89, E89, g89, A89, D89, st89⟩ := Own.newO (Ls := #[.val (.int p0), .val (.int p1), .val (.int p2), .val (.int p3), .val (.int p4), .val (.int p5), .val (.ref b2), .unset, .unset, .unset, .unset, .unset, .unset, .unset, .unset]) (S := []) X85 hx hZ e85 hown (hw _ (List.mem_of_getElem? (i := 5) rfl)) (hw _ (List.mem_of_getElem? (i := 6) rfl)) (hw _ (List.mem_of_getElem? (i := 7) rfl)) (hb hby at_132) (by decide) (by decide)
  have le_b89 : h85.size ≤ b89 := Nat.le_of_eq g89.symm
  have X89 : Stand p l e room_1 s m #[(.int p0), (.int p1), (.int p2), (.int p3), (.int p4), (.int p5)] below meth c T89 L85 2 16 := X89
  have m90 : h85.size ≤ h89.size := E89.1
  have F89_coder : Fld Z h89 b89 "java/lang/String" "coder" "B" (.int (0 : Int32)) := D89 (Or.inr (hw _ (List.mem_of_getElem? (i := 31) rfl))) (ty := .byte) (by decide)
  have F89_value : Fld Z h89 b89 "java/lang/String" "value" "[B" .null := D89 (Or.inr (hw _ (List.mem_of_getElem? (i := 33) rfl))) (ty := (.array .byte)) (by decide)
  have K91 : ∀ t, Steps p.tables e below (T89.setTop (mkF m 135 #[.val (.int p0), .val (.int p1), .val (.int p2), .val (.int p3), .val (.int p4), .val (.int p5), .val (.ref b2), .unset, .unset, .unset, .unset, .unset, .unset, .unset, .unset] [(.ref b89)])) t → Steps p.tables e below B0 t := fun t k => K88 t (st89 t k)
  have K92 : ∀ t, Steps p.tables e below (T89.setTop (mkF m 138 #[.val (.int p0), .val (.int p1), .val (.int p2), .val (.int p3), .val (.int p4), .val (.int p5), .val (.ref b2), .unset, .unset, .unset, .unset, .unset, .unset, .unset, .unset] [(.ref b2), (.ref b89), (.ref b89)])) t → Steps p.tables e below B0 t := fun t k => K91 t (by
    refine Own.dup X89 hx (hb hby at_135) rfl ?_
    refine Own.aload X89 hx (hb hby at_136) rfl rfl ?_
    exact k)
  have f94 := (V85.ext E89)
  have f95 := ((((((((((((((SC.ext E2).wr W8).wr W15).wr W22).wr W29).wr W36).wr W43).wr W50).wr W57).wr W64).wr W71).wr W78).wr W85).ext E89)
  have hp : ∀ c ∈ ([ch9, ch16, ch23, ch30, ch37, ch44, ch51, ch58, ch65, ch72, ch79, ch86] : List Int32), ¬ c < 0 ∧ ¬ (255 : Int32) < c := by
    intro c hc; simp only [List.mem_cons, List.not_mem_nil, or_false] at hc
    rcases hc with rfl | rfl | rfl | rfl | rfl | rfl | rfl | rfl | rfl | rfl | rfl | rfl
    · rw [hch9]; exact own_pkb _
    · rw [hch16]; exact own_pkb _
    · rw [hch23]; exact own_pkb _
    · rw [hch30]; exact own_pkb _
    · rw [hch37]; exact own_pkb _
    · rw [hch44]; exact own_pkb _
    · rw [hch51]; exact own_pkb _
    · rw [hch58]; exact own_pkb _
    · rw [hch65]; exact own_pkb _
    · rw [hch72]; exact own_pkb _
    · rw [hch79]; exact own_pkb _
    · rw [hch86]; exact own_pkb _
  obtain ⟨T93, h93, J93, L93, X93, e93, n93, NN93, K93, t93, st93⟩ := own_newS (Ls := #[.val (.int p0), .val (.int p1), .val (.int p2), .val (.int p3), .val (.int p4), .val (.int p5), .val (.ref b2), .unset, .unset, .unset, .unset, .unset, .unset, .unset, .unset]) (cs := [ch9, ch16, ch23, ch30, ch37, ch44, ch51, ch58, ch65, ch72, ch79, ch86]) (n := 12) (n0 := n0) X89 hx hZ e89 hw (hw _ (List.mem_of_getElem? (i := 6) rfl)) hown rfl (Nat.le_trans Z0 (Nat.le_trans (Nat.le_trans (Nat.le_trans (Nat.le_trans (Nat.le_trans (Nat.le_trans (Nat.le_trans (Nat.le_trans (Nat.le_trans (Nat.le_trans (Nat.le_trans (Nat.le_trans (Nat.le_trans m3 m10) m17) m24) m31) m38) m45) m52) m59) m66) m73) m80) m87) le_b89)) (Nat.le_trans Z0 (Nat.le_trans (Nat.le_trans (Nat.le_trans (Nat.le_trans (Nat.le_trans (Nat.le_trans (Nat.le_trans (Nat.le_trans (Nat.le_trans (Nat.le_trans (Nat.le_trans (Nat.le_trans (Nat.le_trans m3 m10) m17) m24) m31) m38) m45) m52) m59) m66) m73) m80) m87) m90)) A89 F89_value F89_coder f94 f95 hG1 (by decide) (by decide) hp (hw _ (List.mem_of_getElem? (i := 8) rfl)) (hw _ (List.mem_of_getElem? (i := 9) rfl)) (hw _ (List.mem_of_getElem? (i := 10) rfl)) [(.ref b89)] 1 (by decide) (by decide) (by decide) (by decide) (by rw [hml]; rfl) (lenOf pd_7 rfl) (Nat.le_of_eq rfl) (hb hby at_138)
  have X93 : Stand p l e room_1 s m #[(.int p0), (.int p1), (.int p2), (.int p3), (.int p4), (.int p5)] below meth c T93 L93 3 28 := X93
  have N93 : Fr n0 L93 := n93 n0 N85 NN93
  have m96 : h89.size ≤ h93.size := K93.1
  have K97 : ∀ t, Steps p.tables e below (T93.setTop (mkF m 141 #[.val (.int p0), .val (.int p1), .val (.int p2), .val (.int p3), .val (.int p4), .val (.int p5), .val (.ref b2), .unset, .unset, .unset, .unset, .unset, .unset, .unset, .unset] [(.ref b89)])) t → Steps p.tables e below B0 t := fun t k => K92 t (st93 t k)
  obtain ⟨x98, hx98⟩ : ∃ z : Int32, z = ((p4 &&& (2147483647 : Int32)) % (13 : Int32)) := ⟨_, rfl⟩
  have K99 : ∀ t, Steps p.tables e below (T93.setTop (mkF m 153 #[.val (.int p0), .val (.int p1), .val (.int p2), .val (.int p3), .val (.int p4), .val (.int p5), .val (.ref b2), .val (.ref b89), .val (.int x98), .unset, .unset, .unset, .unset, .unset, .unset] [])) t → Steps p.tables e below B0 t := fun t k => K97 t (by
    subst hx98
    refine Own.astore X93 hx #[.val (.int p0), .val (.int p1), .val (.int p2), .val (.int p3), .val (.int p4), .val (.int p5), .val (.ref b2), .val (.ref b89), .unset, .unset, .unset, .unset, .unset, .unset, .unset] (hb hby at_141) rfl rfl ?_
    refine Own.iload X93 hx (hb hby at_143) rfl ?_
    refine Own.ldcI X93 hx (2147483647 : Int32) hZ hown (hw _ (List.mem_of_getElem? (i := 34) rfl)) (hb hby at_145) ?_
    refine Own.iand X93 hx (hb hby at_147) ?_
    refine Own.bipush X93 hx (13 : Int32) (hb hby at_148) rfl ?_
    refine Own.irem X93 hx (hb hby at_150) (by decide) ?_
    refine Own.istore X93 hx #[.val (.int p0), .val (.int p1), .val (.int p2), .val (.int p3), .val (.int p4), .val (.int p5), .val (.ref b2), .val (.ref b89), .val (.int ((p4 &&& (2147483647 : Int32)) % (13 : Int32))), .unset, .unset, .unset, .unset, .unset, .unset] (hb hby at_151) rfl ?_
    exact k)
  obtain ⟨i, hi, ei⟩ : ∃ i : Nat, i < 13 ∧ x98 = Int32.ofNat i := by subst hx98; exact own_nat (own_rem p4 13 (by decide)).1 (own_rem p4 13 (by decide)).2 (by decide)
  rw [ei] at K99
  obtain ⟨x100, hx100⟩ : ∃ z : Int32, z = ((p5 &&& (2147483647 : Int32)) % (13 : Int32)) := ⟨_, rfl⟩
  have K101 : ∀ t, Steps p.tables e below (T93.setTop (mkF m 163 #[.val (.int p0), .val (.int p1), .val (.int p2), .val (.int p3), .val (.int p4), .val (.int p5), .val (.ref b2), .val (.ref b89), .val (.int (Int32.ofNat i)), .val (.int x100), .unset, .unset, .unset, .unset, .unset] [])) t → Steps p.tables e below B0 t := fun t k => K99 t (by
    subst hx100
    refine Own.iload X93 hx (hb hby at_153) rfl ?_
    refine Own.ldcI X93 hx (2147483647 : Int32) hZ hown (hw _ (List.mem_of_getElem? (i := 34) rfl)) (hb hby at_155) ?_
    refine Own.iand X93 hx (hb hby at_157) ?_
    refine Own.bipush X93 hx (13 : Int32) (hb hby at_158) rfl ?_
    refine Own.irem X93 hx (hb hby at_160) (by decide) ?_
    refine Own.istore X93 hx #[.val (.int p0), .val (.int p1), .val (.int p2), .val (.int p3), .val (.int p4), .val (.int p5), .val (.ref b2), .val (.ref b89), .val (.int (Int32.ofNat i)), .val (.int ((p5 &&& (2147483647 : Int32)) % (13 : Int32))), .unset, .unset, .unset, .unset, .unset] (hb hby at_161) rfl ?_
    exact k)
  obtain ⟨j, hj, ej⟩ : ∃ i : Nat, i < 13 ∧ x100 = Int32.ofNat i := by subst hx100; exact own_nat (own_rem p5 13 (by decide)).1 (own_rem p5 13 (by decide)).2 (by decide)
  rw [ej] at K101
  have f102 := (f94.keep K93 (ninS (Nat.ne_of_lt (Nat.lt_of_lt_of_le V85.lt le_b89)) nin0))
  obtain ⟨cs, hcs⟩ : ∃ z : List Int32, z = [ch9, ch16, ch23, ch30, ch37, ch44, ch51, ch58, ch65, ch72, ch79, ch86] := ⟨_, rfl⟩
  have TX : own_Txt Z h93 b89 cs := by rw [hcs]; exact t93
  have VA : Own.CA Z h93 b2 .char cs := by rw [hcs]; exact f102
  have hl12 : cs.length = 12 := by rw [hcs]; rfl
  have K103 : ∀ t, Steps p.tables e below (T93.setTop (mkF m 170 #[.val (.int p0), .val (.int p1), .val (.int p2), .val (.int p3), .val (.int p4), .val (.int p5), .val (.ref b2), .val (.ref b89), .val (.int (Int32.ofNat i)), .val (.int (Int32.ofNat j)), .unset, .unset, .unset, .unset, .unset] [(.int (Int32.ofNat j)), (.int (Int32.ofNat i)), (.int (0 : Int32)), (.ref b2)])) t → Steps p.tables e below B0 t := fun t k => K101 t (by
    refine Own.aload X93 hx (hb hby at_163) rfl rfl ?_
    refine Own.iconst X93 hx (0 : Int32) (hb hby at_165) rfl ?_
    refine Own.iload X93 hx (hb hby at_166) rfl ?_
    refine Own.iload X93 hx (hb hby at_168) rfl ?_
    exact k)
  obtain ⟨T104, X104, e104, st104⟩ := Own.callP (Ls := #[.val (.int p0), .val (.int p1), .val (.int p2), .val (.int p3), .val (.int p4), .val (.int p5), .val (.ref b2), .val (.ref b89), .val (.int (Int32.ofNat i)), .val (.int (Int32.ofNat j)), .unset, .unset, .unset, .unset, .unset]) X93 hx hZ e93 [(.ref b2), (.int (0 : Int32)), (.int (Int32.ofNat i)), (.int (Int32.ofNat j))] [] (c8 l Z a0 hw b2 0 i j cs h93 VA (by omega) (by omega)) hown (hw _ (List.mem_of_getElem? (i := 35) rfl)) (hw _ (List.mem_of_getElem? (i := 36) rfl)) (hw _ (List.mem_of_getElem? (i := 3) rfl)) (hw _ (List.mem_of_getElem? (i := 37) rfl)) (by decide) 0 rfl rfl (by decide) (by decide) (by decide) (by decide) (by rw [hml]; rfl) (lenOf pd_8 rfl) rfl (Nat.le_of_eq rfl) (hb hby at_170)
  have K105 : ∀ t, Steps p.tables e below (T104.setTop (mkF m 173 #[.val (.int p0), .val (.int p1), .val (.int p2), .val (.int p3), .val (.int p4), .val (.int p5), .val (.ref b2), .val (.ref b89), .val (.int (Int32.ofNat i)), .val (.int (Int32.ofNat j)), .unset, .unset, .unset, .unset, .unset] [(.int (F8 0 i j cs))])) t → Steps p.tables e below B0 t := fun t k => K103 t (st104 t k)
  have K106 : ∀ t, Steps p.tables e below (T104.setTop (mkF m 180 #[.val (.int p0), .val (.int p1), .val (.int p2), .val (.int p3), .val (.int p4), .val (.int p5), .val (.ref b2), .val (.ref b89), .val (.int (Int32.ofNat i)), .val (.int (Int32.ofNat j)), .unset, .unset, .unset, .unset, .unset] [(.int (Int32.ofNat j)), (.int (Int32.ofNat i)), (.int (1 : Int32)), (.ref b2), (.int (F8 0 i j cs))])) t → Steps p.tables e below B0 t := fun t k => K105 t (by
    refine Own.aload X104 hx (hb hby at_173) rfl rfl ?_
    refine Own.iconst X104 hx (1 : Int32) (hb hby at_175) rfl ?_
    refine Own.iload X104 hx (hb hby at_176) rfl ?_
    refine Own.iload X104 hx (hb hby at_178) rfl ?_
    exact k)
  obtain ⟨T107, X107, e107, st107⟩ := Own.callP (Ls := #[.val (.int p0), .val (.int p1), .val (.int p2), .val (.int p3), .val (.int p4), .val (.int p5), .val (.ref b2), .val (.ref b89), .val (.int (Int32.ofNat i)), .val (.int (Int32.ofNat j)), .unset, .unset, .unset, .unset, .unset]) X104 hx hZ e104 [(.ref b2), (.int (1 : Int32)), (.int (Int32.ofNat i)), (.int (Int32.ofNat j))] [(.int (F8 0 i j cs))] (c8 l Z a0 hw b2 1 i j cs h93 VA (by omega) (by omega)) hown (hw _ (List.mem_of_getElem? (i := 35) rfl)) (hw _ (List.mem_of_getElem? (i := 36) rfl)) (hw _ (List.mem_of_getElem? (i := 3) rfl)) (hw _ (List.mem_of_getElem? (i := 37) rfl)) (by decide) 1 rfl rfl (by decide) (by decide) (by decide) (by decide) (by rw [hml]; rfl) (lenOf pd_8 rfl) rfl (Nat.le_of_eq rfl) (hb hby at_180)
  have K108 : ∀ t, Steps p.tables e below (T107.setTop (mkF m 183 #[.val (.int p0), .val (.int p1), .val (.int p2), .val (.int p3), .val (.int p4), .val (.int p5), .val (.ref b2), .val (.ref b89), .val (.int (Int32.ofNat i)), .val (.int (Int32.ofNat j)), .unset, .unset, .unset, .unset, .unset] [(.int (F8 1 i j cs)), (.int (F8 0 i j cs))])) t → Steps p.tables e below B0 t := fun t k => K106 t (st107 t k)
  have K109 : ∀ t, Steps p.tables e below (T107.setTop (mkF m 191 #[.val (.int p0), .val (.int p1), .val (.int p2), .val (.int p3), .val (.int p4), .val (.int p5), .val (.ref b2), .val (.ref b89), .val (.int (Int32.ofNat i)), .val (.int (Int32.ofNat j)), .unset, .unset, .unset, .unset, .unset] [(.int (Int32.ofNat j)), (.int (Int32.ofNat i)), (.int (2 : Int32)), (.ref b2), (.int ((F8 0 i j cs) ||| (F8 1 i j cs)))])) t → Steps p.tables e below B0 t := fun t k => K108 t (by
    refine Own.ior X107 hx (hb hby at_183) ?_
    refine Own.aload X107 hx (hb hby at_184) rfl rfl ?_
    refine Own.iconst X107 hx (2 : Int32) (hb hby at_186) rfl ?_
    refine Own.iload X107 hx (hb hby at_187) rfl ?_
    refine Own.iload X107 hx (hb hby at_189) rfl ?_
    exact k)
  obtain ⟨T110, X110, e110, st110⟩ := Own.callP (Ls := #[.val (.int p0), .val (.int p1), .val (.int p2), .val (.int p3), .val (.int p4), .val (.int p5), .val (.ref b2), .val (.ref b89), .val (.int (Int32.ofNat i)), .val (.int (Int32.ofNat j)), .unset, .unset, .unset, .unset, .unset]) X107 hx hZ e107 [(.ref b2), (.int (2 : Int32)), (.int (Int32.ofNat i)), (.int (Int32.ofNat j))] [(.int ((F8 0 i j cs) ||| (F8 1 i j cs)))] (c8 l Z a0 hw b2 2 i j cs h93 VA (by omega) (by omega)) hown (hw _ (List.mem_of_getElem? (i := 35) rfl)) (hw _ (List.mem_of_getElem? (i := 36) rfl)) (hw _ (List.mem_of_getElem? (i := 3) rfl)) (hw _ (List.mem_of_getElem? (i := 37) rfl)) (by decide) 1 rfl rfl (by decide) (by decide) (by decide) (by decide) (by rw [hml]; rfl) (lenOf pd_8 rfl) rfl (Nat.le_of_eq rfl) (hb hby at_191)
  have K111 : ∀ t, Steps p.tables e below (T110.setTop (mkF m 194 #[.val (.int p0), .val (.int p1), .val (.int p2), .val (.int p3), .val (.int p4), .val (.int p5), .val (.ref b2), .val (.ref b89), .val (.int (Int32.ofNat i)), .val (.int (Int32.ofNat j)), .unset, .unset, .unset, .unset, .unset] [(.int (F8 2 i j cs)), (.int ((F8 0 i j cs) ||| (F8 1 i j cs)))])) t → Steps p.tables e below B0 t := fun t k => K109 t (st110 t k)
  have K112 : ∀ t, Steps p.tables e below (T110.setTop (mkF m 202 #[.val (.int p0), .val (.int p1), .val (.int p2), .val (.int p3), .val (.int p4), .val (.int p5), .val (.ref b2), .val (.ref b89), .val (.int (Int32.ofNat i)), .val (.int (Int32.ofNat j)), .unset, .unset, .unset, .unset, .unset] [(.int (Int32.ofNat j)), (.int (Int32.ofNat i)), (.int (3 : Int32)), (.ref b2), (.int (((F8 0 i j cs) ||| (F8 1 i j cs)) ||| (F8 2 i j cs)))])) t → Steps p.tables e below B0 t := fun t k => K111 t (by
    refine Own.ior X110 hx (hb hby at_194) ?_
    refine Own.aload X110 hx (hb hby at_195) rfl rfl ?_
    refine Own.iconst X110 hx (3 : Int32) (hb hby at_197) rfl ?_
    refine Own.iload X110 hx (hb hby at_198) rfl ?_
    refine Own.iload X110 hx (hb hby at_200) rfl ?_
    exact k)
  obtain ⟨T113, X113, e113, st113⟩ := Own.callP (Ls := #[.val (.int p0), .val (.int p1), .val (.int p2), .val (.int p3), .val (.int p4), .val (.int p5), .val (.ref b2), .val (.ref b89), .val (.int (Int32.ofNat i)), .val (.int (Int32.ofNat j)), .unset, .unset, .unset, .unset, .unset]) X110 hx hZ e110 [(.ref b2), (.int (3 : Int32)), (.int (Int32.ofNat i)), (.int (Int32.ofNat j))] [(.int (((F8 0 i j cs) ||| (F8 1 i j cs)) ||| (F8 2 i j cs)))] (c8 l Z a0 hw b2 3 i j cs h93 VA (by omega) (by omega)) hown (hw _ (List.mem_of_getElem? (i := 35) rfl)) (hw _ (List.mem_of_getElem? (i := 36) rfl)) (hw _ (List.mem_of_getElem? (i := 3) rfl)) (hw _ (List.mem_of_getElem? (i := 37) rfl)) (by decide) 1 rfl rfl (by decide) (by decide) (by decide) (by decide) (by rw [hml]; rfl) (lenOf pd_8 rfl) rfl (Nat.le_of_eq rfl) (hb hby at_202)
  have K114 : ∀ t, Steps p.tables e below (T113.setTop (mkF m 205 #[.val (.int p0), .val (.int p1), .val (.int p2), .val (.int p3), .val (.int p4), .val (.int p5), .val (.ref b2), .val (.ref b89), .val (.int (Int32.ofNat i)), .val (.int (Int32.ofNat j)), .unset, .unset, .unset, .unset, .unset] [(.int (F8 3 i j cs)), (.int (((F8 0 i j cs) ||| (F8 1 i j cs)) ||| (F8 2 i j cs)))])) t → Steps p.tables e below B0 t := fun t k => K112 t (st113 t k)
  have K115 : ∀ t, Steps p.tables e below (T113.setTop (mkF m 213 #[.val (.int p0), .val (.int p1), .val (.int p2), .val (.int p3), .val (.int p4), .val (.int p5), .val (.ref b2), .val (.ref b89), .val (.int (Int32.ofNat i)), .val (.int (Int32.ofNat j)), .unset, .unset, .unset, .unset, .unset] [(.int (Int32.ofNat j)), (.int (Int32.ofNat i)), (.int (4 : Int32)), (.ref b2), (.int ((((F8 0 i j cs) ||| (F8 1 i j cs)) ||| (F8 2 i j cs)) ||| (F8 3 i j cs)))])) t → Steps p.tables e below B0 t := fun t k => K114 t (by
    refine Own.ior X113 hx (hb hby at_205) ?_
    refine Own.aload X113 hx (hb hby at_206) rfl rfl ?_
    refine Own.iconst X113 hx (4 : Int32) (hb hby at_208) rfl ?_
    refine Own.iload X113 hx (hb hby at_209) rfl ?_
    refine Own.iload X113 hx (hb hby at_211) rfl ?_
    exact k)
  obtain ⟨T116, X116, e116, st116⟩ := Own.callP (Ls := #[.val (.int p0), .val (.int p1), .val (.int p2), .val (.int p3), .val (.int p4), .val (.int p5), .val (.ref b2), .val (.ref b89), .val (.int (Int32.ofNat i)), .val (.int (Int32.ofNat j)), .unset, .unset, .unset, .unset, .unset]) X113 hx hZ e113 [(.ref b2), (.int (4 : Int32)), (.int (Int32.ofNat i)), (.int (Int32.ofNat j))] [(.int ((((F8 0 i j cs) ||| (F8 1 i j cs)) ||| (F8 2 i j cs)) ||| (F8 3 i j cs)))] (c8 l Z a0 hw b2 4 i j cs h93 VA (by omega) (by omega)) hown (hw _ (List.mem_of_getElem? (i := 35) rfl)) (hw _ (List.mem_of_getElem? (i := 36) rfl)) (hw _ (List.mem_of_getElem? (i := 3) rfl)) (hw _ (List.mem_of_getElem? (i := 37) rfl)) (by decide) 1 rfl rfl (by decide) (by decide) (by decide) (by decide) (by rw [hml]; rfl) (lenOf pd_8 rfl) rfl (Nat.le_of_eq rfl) (hb hby at_213)
  have K117 : ∀ t, Steps p.tables e below (T116.setTop (mkF m 216 #[.val (.int p0), .val (.int p1), .val (.int p2), .val (.int p3), .val (.int p4), .val (.int p5), .val (.ref b2), .val (.ref b89), .val (.int (Int32.ofNat i)), .val (.int (Int32.ofNat j)), .unset, .unset, .unset, .unset, .unset] [(.int (F8 4 i j cs)), (.int ((((F8 0 i j cs) ||| (F8 1 i j cs)) ||| (F8 2 i j cs)) ||| (F8 3 i j cs)))])) t → Steps p.tables e below B0 t := fun t k => K115 t (st116 t k)
  have K118 : ∀ t, Steps p.tables e below (T116.setTop (mkF m 224 #[.val (.int p0), .val (.int p1), .val (.int p2), .val (.int p3), .val (.int p4), .val (.int p5), .val (.ref b2), .val (.ref b89), .val (.int (Int32.ofNat i)), .val (.int (Int32.ofNat j)), .unset, .unset, .unset, .unset, .unset] [(.int (Int32.ofNat j)), (.int (Int32.ofNat i)), (.int (5 : Int32)), (.ref b2), (.int (((((F8 0 i j cs) ||| (F8 1 i j cs)) ||| (F8 2 i j cs)) ||| (F8 3 i j cs)) ||| (F8 4 i j cs)))])) t → Steps p.tables e below B0 t := fun t k => K117 t (by
    refine Own.ior X116 hx (hb hby at_216) ?_
    refine Own.aload X116 hx (hb hby at_217) rfl rfl ?_
    refine Own.iconst X116 hx (5 : Int32) (hb hby at_219) rfl ?_
    refine Own.iload X116 hx (hb hby at_220) rfl ?_
    refine Own.iload X116 hx (hb hby at_222) rfl ?_
    exact k)
  obtain ⟨T119, X119, e119, st119⟩ := Own.callP (Ls := #[.val (.int p0), .val (.int p1), .val (.int p2), .val (.int p3), .val (.int p4), .val (.int p5), .val (.ref b2), .val (.ref b89), .val (.int (Int32.ofNat i)), .val (.int (Int32.ofNat j)), .unset, .unset, .unset, .unset, .unset]) X116 hx hZ e116 [(.ref b2), (.int (5 : Int32)), (.int (Int32.ofNat i)), (.int (Int32.ofNat j))] [(.int (((((F8 0 i j cs) ||| (F8 1 i j cs)) ||| (F8 2 i j cs)) ||| (F8 3 i j cs)) ||| (F8 4 i j cs)))] (c8 l Z a0 hw b2 5 i j cs h93 VA (by omega) (by omega)) hown (hw _ (List.mem_of_getElem? (i := 35) rfl)) (hw _ (List.mem_of_getElem? (i := 36) rfl)) (hw _ (List.mem_of_getElem? (i := 3) rfl)) (hw _ (List.mem_of_getElem? (i := 37) rfl)) (by decide) 1 rfl rfl (by decide) (by decide) (by decide) (by decide) (by rw [hml]; rfl) (lenOf pd_8 rfl) rfl (Nat.le_of_eq rfl) (hb hby at_224)
  have K120 : ∀ t, Steps p.tables e below (T119.setTop (mkF m 227 #[.val (.int p0), .val (.int p1), .val (.int p2), .val (.int p3), .val (.int p4), .val (.int p5), .val (.ref b2), .val (.ref b89), .val (.int (Int32.ofNat i)), .val (.int (Int32.ofNat j)), .unset, .unset, .unset, .unset, .unset] [(.int (F8 5 i j cs)), (.int (((((F8 0 i j cs) ||| (F8 1 i j cs)) ||| (F8 2 i j cs)) ||| (F8 3 i j cs)) ||| (F8 4 i j cs)))])) t → Steps p.tables e below B0 t := fun t k => K118 t (st119 t k)
  have K121 : ∀ t, Steps p.tables e below (T119.setTop (mkF m 236 #[.val (.int p0), .val (.int p1), .val (.int p2), .val (.int p3), .val (.int p4), .val (.int p5), .val (.ref b2), .val (.ref b89), .val (.int (Int32.ofNat i)), .val (.int (Int32.ofNat j)), .unset, .unset, .unset, .unset, .unset] [(.int (Int32.ofNat j)), (.int (Int32.ofNat i)), (.int (6 : Int32)), (.ref b2), (.int ((((((F8 0 i j cs) ||| (F8 1 i j cs)) ||| (F8 2 i j cs)) ||| (F8 3 i j cs)) ||| (F8 4 i j cs)) ||| (F8 5 i j cs)))])) t → Steps p.tables e below B0 t := fun t k => K120 t (by
    refine Own.ior X119 hx (hb hby at_227) ?_
    refine Own.aload X119 hx (hb hby at_228) rfl rfl ?_
    refine Own.bipush X119 hx (6 : Int32) (hb hby at_230) rfl ?_
    refine Own.iload X119 hx (hb hby at_232) rfl ?_
    refine Own.iload X119 hx (hb hby at_234) rfl ?_
    exact k)
  obtain ⟨T122, X122, e122, st122⟩ := Own.callP (Ls := #[.val (.int p0), .val (.int p1), .val (.int p2), .val (.int p3), .val (.int p4), .val (.int p5), .val (.ref b2), .val (.ref b89), .val (.int (Int32.ofNat i)), .val (.int (Int32.ofNat j)), .unset, .unset, .unset, .unset, .unset]) X119 hx hZ e119 [(.ref b2), (.int (6 : Int32)), (.int (Int32.ofNat i)), (.int (Int32.ofNat j))] [(.int ((((((F8 0 i j cs) ||| (F8 1 i j cs)) ||| (F8 2 i j cs)) ||| (F8 3 i j cs)) ||| (F8 4 i j cs)) ||| (F8 5 i j cs)))] (c8 l Z a0 hw b2 6 i j cs h93 VA (by omega) (by omega)) hown (hw _ (List.mem_of_getElem? (i := 35) rfl)) (hw _ (List.mem_of_getElem? (i := 36) rfl)) (hw _ (List.mem_of_getElem? (i := 3) rfl)) (hw _ (List.mem_of_getElem? (i := 37) rfl)) (by decide) 1 rfl rfl (by decide) (by decide) (by decide) (by decide) (by rw [hml]; rfl) (lenOf pd_8 rfl) rfl (Nat.le_of_eq rfl) (hb hby at_236)
  have K123 : ∀ t, Steps p.tables e below (T122.setTop (mkF m 239 #[.val (.int p0), .val (.int p1), .val (.int p2), .val (.int p3), .val (.int p4), .val (.int p5), .val (.ref b2), .val (.ref b89), .val (.int (Int32.ofNat i)), .val (.int (Int32.ofNat j)), .unset, .unset, .unset, .unset, .unset] [(.int (F8 6 i j cs)), (.int ((((((F8 0 i j cs) ||| (F8 1 i j cs)) ||| (F8 2 i j cs)) ||| (F8 3 i j cs)) ||| (F8 4 i j cs)) ||| (F8 5 i j cs)))])) t → Steps p.tables e below B0 t := fun t k => K121 t (st122 t k)
  have K124 : ∀ t, Steps p.tables e below (T122.setTop (mkF m 248 #[.val (.int p0), .val (.int p1), .val (.int p2), .val (.int p3), .val (.int p4), .val (.int p5), .val (.ref b2), .val (.ref b89), .val (.int (Int32.ofNat i)), .val (.int (Int32.ofNat j)), .unset, .unset, .unset, .unset, .unset] [(.int (Int32.ofNat j)), (.int (Int32.ofNat i)), (.int (7 : Int32)), (.ref b2), (.int (((((((F8 0 i j cs) ||| (F8 1 i j cs)) ||| (F8 2 i j cs)) ||| (F8 3 i j cs)) ||| (F8 4 i j cs)) ||| (F8 5 i j cs)) ||| (F8 6 i j cs)))])) t → Steps p.tables e below B0 t := fun t k => K123 t (by
    refine Own.ior X122 hx (hb hby at_239) ?_
    refine Own.aload X122 hx (hb hby at_240) rfl rfl ?_
    refine Own.bipush X122 hx (7 : Int32) (hb hby at_242) rfl ?_
    refine Own.iload X122 hx (hb hby at_244) rfl ?_
    refine Own.iload X122 hx (hb hby at_246) rfl ?_
    exact k)
  obtain ⟨T125, X125, e125, st125⟩ := Own.callP (Ls := #[.val (.int p0), .val (.int p1), .val (.int p2), .val (.int p3), .val (.int p4), .val (.int p5), .val (.ref b2), .val (.ref b89), .val (.int (Int32.ofNat i)), .val (.int (Int32.ofNat j)), .unset, .unset, .unset, .unset, .unset]) X122 hx hZ e122 [(.ref b2), (.int (7 : Int32)), (.int (Int32.ofNat i)), (.int (Int32.ofNat j))] [(.int (((((((F8 0 i j cs) ||| (F8 1 i j cs)) ||| (F8 2 i j cs)) ||| (F8 3 i j cs)) ||| (F8 4 i j cs)) ||| (F8 5 i j cs)) ||| (F8 6 i j cs)))] (c8 l Z a0 hw b2 7 i j cs h93 VA (by omega) (by omega)) hown (hw _ (List.mem_of_getElem? (i := 35) rfl)) (hw _ (List.mem_of_getElem? (i := 36) rfl)) (hw _ (List.mem_of_getElem? (i := 3) rfl)) (hw _ (List.mem_of_getElem? (i := 37) rfl)) (by decide) 1 rfl rfl (by decide) (by decide) (by decide) (by decide) (by rw [hml]; rfl) (lenOf pd_8 rfl) rfl (Nat.le_of_eq rfl) (hb hby at_248)
  have K126 : ∀ t, Steps p.tables e below (T125.setTop (mkF m 251 #[.val (.int p0), .val (.int p1), .val (.int p2), .val (.int p3), .val (.int p4), .val (.int p5), .val (.ref b2), .val (.ref b89), .val (.int (Int32.ofNat i)), .val (.int (Int32.ofNat j)), .unset, .unset, .unset, .unset, .unset] [(.int (F8 7 i j cs)), (.int (((((((F8 0 i j cs) ||| (F8 1 i j cs)) ||| (F8 2 i j cs)) ||| (F8 3 i j cs)) ||| (F8 4 i j cs)) ||| (F8 5 i j cs)) ||| (F8 6 i j cs)))])) t → Steps p.tables e below B0 t := fun t k => K124 t (st125 t k)
  have K127 : ∀ t, Steps p.tables e below (T125.setTop (mkF m 260 #[.val (.int p0), .val (.int p1), .val (.int p2), .val (.int p3), .val (.int p4), .val (.int p5), .val (.ref b2), .val (.ref b89), .val (.int (Int32.ofNat i)), .val (.int (Int32.ofNat j)), .unset, .unset, .unset, .unset, .unset] [(.int (Int32.ofNat j)), (.int (Int32.ofNat i)), (.int (8 : Int32)), (.ref b2), (.int ((((((((F8 0 i j cs) ||| (F8 1 i j cs)) ||| (F8 2 i j cs)) ||| (F8 3 i j cs)) ||| (F8 4 i j cs)) ||| (F8 5 i j cs)) ||| (F8 6 i j cs)) ||| (F8 7 i j cs)))])) t → Steps p.tables e below B0 t := fun t k => K126 t (by
    refine Own.ior X125 hx (hb hby at_251) ?_
    refine Own.aload X125 hx (hb hby at_252) rfl rfl ?_
    refine Own.bipush X125 hx (8 : Int32) (hb hby at_254) rfl ?_
    refine Own.iload X125 hx (hb hby at_256) rfl ?_
    refine Own.iload X125 hx (hb hby at_258) rfl ?_
    exact k)
  obtain ⟨T128, X128, e128, st128⟩ := Own.callP (Ls := #[.val (.int p0), .val (.int p1), .val (.int p2), .val (.int p3), .val (.int p4), .val (.int p5), .val (.ref b2), .val (.ref b89), .val (.int (Int32.ofNat i)), .val (.int (Int32.ofNat j)), .unset, .unset, .unset, .unset, .unset]) X125 hx hZ e125 [(.ref b2), (.int (8 : Int32)), (.int (Int32.ofNat i)), (.int (Int32.ofNat j))] [(.int ((((((((F8 0 i j cs) ||| (F8 1 i j cs)) ||| (F8 2 i j cs)) ||| (F8 3 i j cs)) ||| (F8 4 i j cs)) ||| (F8 5 i j cs)) ||| (F8 6 i j cs)) ||| (F8 7 i j cs)))] (c8 l Z a0 hw b2 8 i j cs h93 VA (by omega) (by omega)) hown (hw _ (List.mem_of_getElem? (i := 35) rfl)) (hw _ (List.mem_of_getElem? (i := 36) rfl)) (hw _ (List.mem_of_getElem? (i := 3) rfl)) (hw _ (List.mem_of_getElem? (i := 37) rfl)) (by decide) 1 rfl rfl (by decide) (by decide) (by decide) (by decide) (by rw [hml]; rfl) (lenOf pd_8 rfl) rfl (Nat.le_of_eq rfl) (hb hby at_260)
  have K129 : ∀ t, Steps p.tables e below (T128.setTop (mkF m 263 #[.val (.int p0), .val (.int p1), .val (.int p2), .val (.int p3), .val (.int p4), .val (.int p5), .val (.ref b2), .val (.ref b89), .val (.int (Int32.ofNat i)), .val (.int (Int32.ofNat j)), .unset, .unset, .unset, .unset, .unset] [(.int (F8 8 i j cs)), (.int ((((((((F8 0 i j cs) ||| (F8 1 i j cs)) ||| (F8 2 i j cs)) ||| (F8 3 i j cs)) ||| (F8 4 i j cs)) ||| (F8 5 i j cs)) ||| (F8 6 i j cs)) ||| (F8 7 i j cs)))])) t → Steps p.tables e below B0 t := fun t k => K127 t (st128 t k)
  have K130 : ∀ t, Steps p.tables e below (T128.setTop (mkF m 272 #[.val (.int p0), .val (.int p1), .val (.int p2), .val (.int p3), .val (.int p4), .val (.int p5), .val (.ref b2), .val (.ref b89), .val (.int (Int32.ofNat i)), .val (.int (Int32.ofNat j)), .unset, .unset, .unset, .unset, .unset] [(.int (Int32.ofNat j)), (.int (Int32.ofNat i)), (.int (9 : Int32)), (.ref b2), (.int (((((((((F8 0 i j cs) ||| (F8 1 i j cs)) ||| (F8 2 i j cs)) ||| (F8 3 i j cs)) ||| (F8 4 i j cs)) ||| (F8 5 i j cs)) ||| (F8 6 i j cs)) ||| (F8 7 i j cs)) ||| (F8 8 i j cs)))])) t → Steps p.tables e below B0 t := fun t k => K129 t (by
    refine Own.ior X128 hx (hb hby at_263) ?_
    refine Own.aload X128 hx (hb hby at_264) rfl rfl ?_
    refine Own.bipush X128 hx (9 : Int32) (hb hby at_266) rfl ?_
    refine Own.iload X128 hx (hb hby at_268) rfl ?_
    refine Own.iload X128 hx (hb hby at_270) rfl ?_
    exact k)
  obtain ⟨T131, X131, e131, st131⟩ := Own.callP (Ls := #[.val (.int p0), .val (.int p1), .val (.int p2), .val (.int p3), .val (.int p4), .val (.int p5), .val (.ref b2), .val (.ref b89), .val (.int (Int32.ofNat i)), .val (.int (Int32.ofNat j)), .unset, .unset, .unset, .unset, .unset]) X128 hx hZ e128 [(.ref b2), (.int (9 : Int32)), (.int (Int32.ofNat i)), (.int (Int32.ofNat j))] [(.int (((((((((F8 0 i j cs) ||| (F8 1 i j cs)) ||| (F8 2 i j cs)) ||| (F8 3 i j cs)) ||| (F8 4 i j cs)) ||| (F8 5 i j cs)) ||| (F8 6 i j cs)) ||| (F8 7 i j cs)) ||| (F8 8 i j cs)))] (c8 l Z a0 hw b2 9 i j cs h93 VA (by omega) (by omega)) hown (hw _ (List.mem_of_getElem? (i := 35) rfl)) (hw _ (List.mem_of_getElem? (i := 36) rfl)) (hw _ (List.mem_of_getElem? (i := 3) rfl)) (hw _ (List.mem_of_getElem? (i := 37) rfl)) (by decide) 1 rfl rfl (by decide) (by decide) (by decide) (by decide) (by rw [hml]; rfl) (lenOf pd_8 rfl) rfl (Nat.le_of_eq rfl) (hb hby at_272)
  have K132 : ∀ t, Steps p.tables e below (T131.setTop (mkF m 275 #[.val (.int p0), .val (.int p1), .val (.int p2), .val (.int p3), .val (.int p4), .val (.int p5), .val (.ref b2), .val (.ref b89), .val (.int (Int32.ofNat i)), .val (.int (Int32.ofNat j)), .unset, .unset, .unset, .unset, .unset] [(.int (F8 9 i j cs)), (.int (((((((((F8 0 i j cs) ||| (F8 1 i j cs)) ||| (F8 2 i j cs)) ||| (F8 3 i j cs)) ||| (F8 4 i j cs)) ||| (F8 5 i j cs)) ||| (F8 6 i j cs)) ||| (F8 7 i j cs)) ||| (F8 8 i j cs)))])) t → Steps p.tables e below B0 t := fun t k => K130 t (st131 t k)
  have K133 : ∀ t, Steps p.tables e below (T131.setTop (mkF m 284 #[.val (.int p0), .val (.int p1), .val (.int p2), .val (.int p3), .val (.int p4), .val (.int p5), .val (.ref b2), .val (.ref b89), .val (.int (Int32.ofNat i)), .val (.int (Int32.ofNat j)), .unset, .unset, .unset, .unset, .unset] [(.int (Int32.ofNat j)), (.int (Int32.ofNat i)), (.int (10 : Int32)), (.ref b2), (.int ((((((((((F8 0 i j cs) ||| (F8 1 i j cs)) ||| (F8 2 i j cs)) ||| (F8 3 i j cs)) ||| (F8 4 i j cs)) ||| (F8 5 i j cs)) ||| (F8 6 i j cs)) ||| (F8 7 i j cs)) ||| (F8 8 i j cs)) ||| (F8 9 i j cs)))])) t → Steps p.tables e below B0 t := fun t k => K132 t (by
    refine Own.ior X131 hx (hb hby at_275) ?_
    refine Own.aload X131 hx (hb hby at_276) rfl rfl ?_
    refine Own.bipush X131 hx (10 : Int32) (hb hby at_278) rfl ?_
    refine Own.iload X131 hx (hb hby at_280) rfl ?_
    refine Own.iload X131 hx (hb hby at_282) rfl ?_
    exact k)
  obtain ⟨T134, X134, e134, st134⟩ := Own.callP (Ls := #[.val (.int p0), .val (.int p1), .val (.int p2), .val (.int p3), .val (.int p4), .val (.int p5), .val (.ref b2), .val (.ref b89), .val (.int (Int32.ofNat i)), .val (.int (Int32.ofNat j)), .unset, .unset, .unset, .unset, .unset]) X131 hx hZ e131 [(.ref b2), (.int (10 : Int32)), (.int (Int32.ofNat i)), (.int (Int32.ofNat j))] [(.int ((((((((((F8 0 i j cs) ||| (F8 1 i j cs)) ||| (F8 2 i j cs)) ||| (F8 3 i j cs)) ||| (F8 4 i j cs)) ||| (F8 5 i j cs)) ||| (F8 6 i j cs)) ||| (F8 7 i j cs)) ||| (F8 8 i j cs)) ||| (F8 9 i j cs)))] (c8 l Z a0 hw b2 10 i j cs h93 VA (by omega) (by omega)) hown (hw _ (List.mem_of_getElem? (i := 35) rfl)) (hw _ (List.mem_of_getElem? (i := 36) rfl)) (hw _ (List.mem_of_getElem? (i := 3) rfl)) (hw _ (List.mem_of_getElem? (i := 37) rfl)) (by decide) 1 rfl rfl (by decide) (by decide) (by decide) (by decide) (by rw [hml]; rfl) (lenOf pd_8 rfl) rfl (Nat.le_of_eq rfl) (hb hby at_284)
  have K135 : ∀ t, Steps p.tables e below (T134.setTop (mkF m 287 #[.val (.int p0), .val (.int p1), .val (.int p2), .val (.int p3), .val (.int p4), .val (.int p5), .val (.ref b2), .val (.ref b89), .val (.int (Int32.ofNat i)), .val (.int (Int32.ofNat j)), .unset, .unset, .unset, .unset, .unset] [(.int (F8 10 i j cs)), (.int ((((((((((F8 0 i j cs) ||| (F8 1 i j cs)) ||| (F8 2 i j cs)) ||| (F8 3 i j cs)) ||| (F8 4 i j cs)) ||| (F8 5 i j cs)) ||| (F8 6 i j cs)) ||| (F8 7 i j cs)) ||| (F8 8 i j cs)) ||| (F8 9 i j cs)))])) t → Steps p.tables e below B0 t := fun t k => K133 t (st134 t k)
  have K136 : ∀ t, Steps p.tables e below (T134.setTop (mkF m 296 #[.val (.int p0), .val (.int p1), .val (.int p2), .val (.int p3), .val (.int p4), .val (.int p5), .val (.ref b2), .val (.ref b89), .val (.int (Int32.ofNat i)), .val (.int (Int32.ofNat j)), .unset, .unset, .unset, .unset, .unset] [(.int (Int32.ofNat j)), (.int (Int32.ofNat i)), (.int (11 : Int32)), (.ref b2), (.int (((((((((((F8 0 i j cs) ||| (F8 1 i j cs)) ||| (F8 2 i j cs)) ||| (F8 3 i j cs)) ||| (F8 4 i j cs)) ||| (F8 5 i j cs)) ||| (F8 6 i j cs)) ||| (F8 7 i j cs)) ||| (F8 8 i j cs)) ||| (F8 9 i j cs)) ||| (F8 10 i j cs)))])) t → Steps p.tables e below B0 t := fun t k => K135 t (by
    refine Own.ior X134 hx (hb hby at_287) ?_
    refine Own.aload X134 hx (hb hby at_288) rfl rfl ?_
    refine Own.bipush X134 hx (11 : Int32) (hb hby at_290) rfl ?_
    refine Own.iload X134 hx (hb hby at_292) rfl ?_
    refine Own.iload X134 hx (hb hby at_294) rfl ?_
    exact k)
  obtain ⟨T137, X137, e137, st137⟩ := Own.callP (Ls := #[.val (.int p0), .val (.int p1), .val (.int p2), .val (.int p3), .val (.int p4), .val (.int p5), .val (.ref b2), .val (.ref b89), .val (.int (Int32.ofNat i)), .val (.int (Int32.ofNat j)), .unset, .unset, .unset, .unset, .unset]) X134 hx hZ e134 [(.ref b2), (.int (11 : Int32)), (.int (Int32.ofNat i)), (.int (Int32.ofNat j))] [(.int (((((((((((F8 0 i j cs) ||| (F8 1 i j cs)) ||| (F8 2 i j cs)) ||| (F8 3 i j cs)) ||| (F8 4 i j cs)) ||| (F8 5 i j cs)) ||| (F8 6 i j cs)) ||| (F8 7 i j cs)) ||| (F8 8 i j cs)) ||| (F8 9 i j cs)) ||| (F8 10 i j cs)))] (c8 l Z a0 hw b2 11 i j cs h93 VA (by omega) (by omega)) hown (hw _ (List.mem_of_getElem? (i := 35) rfl)) (hw _ (List.mem_of_getElem? (i := 36) rfl)) (hw _ (List.mem_of_getElem? (i := 3) rfl)) (hw _ (List.mem_of_getElem? (i := 37) rfl)) (by decide) 1 rfl rfl (by decide) (by decide) (by decide) (by decide) (by rw [hml]; rfl) (lenOf pd_8 rfl) rfl (Nat.le_of_eq rfl) (hb hby at_296)
  have K138 : ∀ t, Steps p.tables e below (T137.setTop (mkF m 299 #[.val (.int p0), .val (.int p1), .val (.int p2), .val (.int p3), .val (.int p4), .val (.int p5), .val (.ref b2), .val (.ref b89), .val (.int (Int32.ofNat i)), .val (.int (Int32.ofNat j)), .unset, .unset, .unset, .unset, .unset] [(.int (F8 11 i j cs)), (.int (((((((((((F8 0 i j cs) ||| (F8 1 i j cs)) ||| (F8 2 i j cs)) ||| (F8 3 i j cs)) ||| (F8 4 i j cs)) ||| (F8 5 i j cs)) ||| (F8 6 i j cs)) ||| (F8 7 i j cs)) ||| (F8 8 i j cs)) ||| (F8 9 i j cs)) ||| (F8 10 i j cs)))])) t → Steps p.tables e below B0 t := fun t k => K136 t (st137 t k)
  obtain ⟨x139, hx139⟩ : ∃ z : Int32, z = ((((((((((((F8 0 i j cs) ||| (F8 1 i j cs)) ||| (F8 2 i j cs)) ||| (F8 3 i j cs)) ||| (F8 4 i j cs)) ||| (F8 5 i j cs)) ||| (F8 6 i j cs)) ||| (F8 7 i j cs)) ||| (F8 8 i j cs)) ||| (F8 9 i j cs)) ||| (F8 10 i j cs)) ||| (F8 11 i j cs)) := ⟨_, rfl⟩
  have K140 : ∀ t, Steps p.tables e below (T137.setTop (mkF m 309 #[.val (.int p0), .val (.int p1), .val (.int p2), .val (.int p3), .val (.int p4), .val (.int p5), .val (.ref b2), .val (.ref b89), .val (.int (Int32.ofNat i)), .val (.int (Int32.ofNat j)), .val (.int x139), .unset, .unset, .unset, .unset] [(.int (Int32.ofNat j)), (.int (Int32.ofNat i)), (.int (0 : Int32)), (.ref b2)])) t → Steps p.tables e below B0 t := fun t k => K138 t (by
    subst hx139
    refine Own.ior X137 hx (hb hby at_299) ?_
    refine Own.istore X137 hx #[.val (.int p0), .val (.int p1), .val (.int p2), .val (.int p3), .val (.int p4), .val (.int p5), .val (.ref b2), .val (.ref b89), .val (.int (Int32.ofNat i)), .val (.int (Int32.ofNat j)), .val (.int ((((((((((((F8 0 i j cs) ||| (F8 1 i j cs)) ||| (F8 2 i j cs)) ||| (F8 3 i j cs)) ||| (F8 4 i j cs)) ||| (F8 5 i j cs)) ||| (F8 6 i j cs)) ||| (F8 7 i j cs)) ||| (F8 8 i j cs)) ||| (F8 9 i j cs)) ||| (F8 10 i j cs)) ||| (F8 11 i j cs))), .unset, .unset, .unset, .unset] (hb hby at_300) rfl ?_
    refine Own.aload X137 hx (hb hby at_302) rfl rfl ?_
    refine Own.iconst X137 hx (0 : Int32) (hb hby at_304) rfl ?_
    refine Own.iload X137 hx (hb hby at_305) rfl ?_
    refine Own.iload X137 hx (hb hby at_307) rfl ?_
    exact k)
  obtain ⟨T141, h141, v141, J141, L141, X141, e141, n141, hQ141, st141⟩ := Own.callH (Ls := #[.val (.int p0), .val (.int p1), .val (.int p2), .val (.int p3), .val (.int p4), .val (.int p5), .val (.ref b2), .val (.ref b89), .val (.int (Int32.ofNat i)), .val (.int (Int32.ofNat j)), .val (.int x139), .unset, .unset, .unset, .unset]) X137 hx hZ e137 [(.ref b2), (.int (0 : Int32)), (.int (Int32.ofNat i)), (.int (Int32.ofNat j))] [] (c9 l Z a0 hw b2 0 i j cs n0 h93 VA (by omega) (by omega) (by omega) (by omega) (Nat.le_trans Z0 (Nat.le_trans (Nat.le_trans (Nat.le_trans (Nat.le_trans (Nat.le_trans (Nat.le_trans (Nat.le_trans (Nat.le_trans (Nat.le_trans (Nat.le_trans (Nat.le_trans (Nat.le_trans (Nat.le_trans (Nat.le_trans m3 m10) m17) m24) m31) m38) m45) m52) m59) m66) m73) m80) m87) m90) m96))) hown (hw _ (List.mem_of_getElem? (i := 38) rfl)) (hw _ (List.mem_of_getElem? (i := 39) rfl)) (hw _ (List.mem_of_getElem? (i := 3) rfl)) (hw _ (List.mem_of_getElem? (i := 40) rfl)) (by decide) 0 (by decide) (by decide) (by decide) (by decide) (by rw [hml]; rfl) (lenOf pd_9 rfl) rfl (Nat.le_of_eq rfl) (hb hby at_309)
  have X141 : Stand p l e room_1 s m #[(.int p0), (.int p1), (.int p2), (.int p3), (.int p4), (.int p5)] below meth c T141 L141 4 40 := X141
  obtain ⟨rfl, NN141, K141⟩ := hQ141
  have N141 : Fr n0 L141 := n141 n0 N93 NN141
  have m142 : h93.size ≤ h141.size := K141.1
  have K143 : ∀ t, Steps p.tables e below (T141.setTop (mkF m 312 #[.val (.int p0), .val (.int p1), .val (.int p2), .val (.int p3), .val (.int p4), .val (.int p5), .val (.ref b2), .val (.ref b89), .val (.int (Int32.ofNat i)), .val (.int (Int32.ofNat j)), .val (.int x139), .unset, .unset, .unset, .unset] [(.long (own_tm 0 i j cs))])) t → Steps p.tables e below B0 t := fun t k => K140 t (st141 t k)
  have f144 := (VA.keep K141 nin0)
  have K145 : ∀ t, Steps p.tables e below (T141.setTop (mkF m 319 #[.val (.int p0), .val (.int p1), .val (.int p2), .val (.int p3), .val (.int p4), .val (.int p5), .val (.ref b2), .val (.ref b89), .val (.int (Int32.ofNat i)), .val (.int (Int32.ofNat j)), .val (.int x139), .unset, .unset, .unset, .unset] [(.int (Int32.ofNat j)), (.int (Int32.ofNat i)), (.int (1 : Int32)), (.ref b2), (.long (own_tm 0 i j cs))])) t → Steps p.tables e below B0 t := fun t k => K143 t (by
    refine Own.aload X141 hx (hb hby at_312) rfl rfl ?_
    refine Own.iconst X141 hx (1 : Int32) (hb hby at_314) rfl ?_
    refine Own.iload X141 hx (hb hby at_315) rfl ?_
    refine Own.iload X141 hx (hb hby at_317) rfl ?_
    exact k)
  obtain ⟨T146, h146, v146, J146, L146, X146, e146, n146, hQ146, st146⟩ := Own.callH (Ls := #[.val (.int p0), .val (.int p1), .val (.int p2), .val (.int p3), .val (.int p4), .val (.int p5), .val (.ref b2), .val (.ref b89), .val (.int (Int32.ofNat i)), .val (.int (Int32.ofNat j)), .val (.int x139), .unset, .unset, .unset, .unset]) X141 hx hZ e141 [(.ref b2), (.int (1 : Int32)), (.int (Int32.ofNat i)), (.int (Int32.ofNat j))] [(.long (own_tm 0 i j cs))] (c9 l Z a0 hw b2 1 i j cs n0 h141 f144 (by omega) (by omega) (by omega) (by omega) (Nat.le_trans Z0 (Nat.le_trans (Nat.le_trans (Nat.le_trans (Nat.le_trans (Nat.le_trans (Nat.le_trans (Nat.le_trans (Nat.le_trans (Nat.le_trans (Nat.le_trans (Nat.le_trans (Nat.le_trans (Nat.le_trans (Nat.le_trans (Nat.le_trans m3 m10) m17) m24) m31) m38) m45) m52) m59) m66) m73) m80) m87) m90) m96) m142))) hown (hw _ (List.mem_of_getElem? (i := 38) rfl)) (hw _ (List.mem_of_getElem? (i := 39) rfl)) (hw _ (List.mem_of_getElem? (i := 3) rfl)) (hw _ (List.mem_of_getElem? (i := 40) rfl)) (by decide) 2 (by decide) (by decide) (by decide) (by decide) (by rw [hml]; rfl) (lenOf pd_9 rfl) rfl (Nat.le_of_eq rfl) (hb hby at_319)
  have X146 : Stand p l e room_1 s m #[(.int p0), (.int p1), (.int p2), (.int p3), (.int p4), (.int p5)] below meth c T146 L146 5 52 := X146
  obtain ⟨rfl, NN146, K146⟩ := hQ146
  have N146 : Fr n0 L146 := n146 n0 N141 NN146
  have m147 : h141.size ≤ h146.size := K146.1
  have K148 : ∀ t, Steps p.tables e below (T146.setTop (mkF m 322 #[.val (.int p0), .val (.int p1), .val (.int p2), .val (.int p3), .val (.int p4), .val (.int p5), .val (.ref b2), .val (.ref b89), .val (.int (Int32.ofNat i)), .val (.int (Int32.ofNat j)), .val (.int x139), .unset, .unset, .unset, .unset] [(.long (own_tm 1 i j cs)), (.long (own_tm 0 i j cs))])) t → Steps p.tables e below B0 t := fun t k => K145 t (st146 t k)
  have f149 := (f144.keep K146 nin0)
  have K150 : ∀ t, Steps p.tables e below (T146.setTop (mkF m 330 #[.val (.int p0), .val (.int p1), .val (.int p2), .val (.int p3), .val (.int p4), .val (.int p5), .val (.ref b2), .val (.ref b89), .val (.int (Int32.ofNat i)), .val (.int (Int32.ofNat j)), .val (.int x139), .unset, .unset, .unset, .unset] [(.int (Int32.ofNat j)), (.int (Int32.ofNat i)), (.int (2 : Int32)), (.ref b2), (.long ((own_tm 0 i j cs) + (own_tm 1 i j cs)))])) t → Steps p.tables e below B0 t := fun t k => K148 t (by
    refine Own.ladd X146 hx (hb hby at_322) ?_
    refine Own.aload X146 hx (hb hby at_323) rfl rfl ?_
    refine Own.iconst X146 hx (2 : Int32) (hb hby at_325) rfl ?_
    refine Own.iload X146 hx (hb hby at_326) rfl ?_
    refine Own.iload X146 hx (hb hby at_328) rfl ?_
    exact k)
  obtain ⟨T151, h151, v151, J151, L151, X151, e151, n151, hQ151, st151⟩ := Own.callH (Ls := #[.val (.int p0), .val (.int p1), .val (.int p2), .val (.int p3), .val (.int p4), .val (.int p5), .val (.ref b2), .val (.ref b89), .val (.int (Int32.ofNat i)), .val (.int (Int32.ofNat j)), .val (.int x139), .unset, .unset, .unset, .unset]) X146 hx hZ e146 [(.ref b2), (.int (2 : Int32)), (.int (Int32.ofNat i)), (.int (Int32.ofNat j))] [(.long ((own_tm 0 i j cs) + (own_tm 1 i j cs)))] (c9 l Z a0 hw b2 2 i j cs n0 h146 f149 (by omega) (by omega) (by omega) (by omega) (Nat.le_trans Z0 (Nat.le_trans (Nat.le_trans (Nat.le_trans (Nat.le_trans (Nat.le_trans (Nat.le_trans (Nat.le_trans (Nat.le_trans (Nat.le_trans (Nat.le_trans (Nat.le_trans (Nat.le_trans (Nat.le_trans (Nat.le_trans (Nat.le_trans (Nat.le_trans m3 m10) m17) m24) m31) m38) m45) m52) m59) m66) m73) m80) m87) m90) m96) m142) m147))) hown (hw _ (List.mem_of_getElem? (i := 38) rfl)) (hw _ (List.mem_of_getElem? (i := 39) rfl)) (hw _ (List.mem_of_getElem? (i := 3) rfl)) (hw _ (List.mem_of_getElem? (i := 40) rfl)) (by decide) 2 (by decide) (by decide) (by decide) (by decide) (by rw [hml]; rfl) (lenOf pd_9 rfl) rfl (Nat.le_of_eq rfl) (hb hby at_330)
  have X151 : Stand p l e room_1 s m #[(.int p0), (.int p1), (.int p2), (.int p3), (.int p4), (.int p5)] below meth c T151 L151 6 64 := X151
  obtain ⟨rfl, NN151, K151⟩ := hQ151
  have N151 : Fr n0 L151 := n151 n0 N146 NN151
  have m152 : h146.size ≤ h151.size := K151.1
  have K153 : ∀ t, Steps p.tables e below (T151.setTop (mkF m 333 #[.val (.int p0), .val (.int p1), .val (.int p2), .val (.int p3), .val (.int p4), .val (.int p5), .val (.ref b2), .val (.ref b89), .val (.int (Int32.ofNat i)), .val (.int (Int32.ofNat j)), .val (.int x139), .unset, .unset, .unset, .unset] [(.long (own_tm 2 i j cs)), (.long ((own_tm 0 i j cs) + (own_tm 1 i j cs)))])) t → Steps p.tables e below B0 t := fun t k => K150 t (st151 t k)
  have f154 := (f149.keep K151 nin0)
  have K155 : ∀ t, Steps p.tables e below (T151.setTop (mkF m 341 #[.val (.int p0), .val (.int p1), .val (.int p2), .val (.int p3), .val (.int p4), .val (.int p5), .val (.ref b2), .val (.ref b89), .val (.int (Int32.ofNat i)), .val (.int (Int32.ofNat j)), .val (.int x139), .unset, .unset, .unset, .unset] [(.int (Int32.ofNat j)), (.int (Int32.ofNat i)), (.int (3 : Int32)), (.ref b2), (.long (((own_tm 0 i j cs) + (own_tm 1 i j cs)) + (own_tm 2 i j cs)))])) t → Steps p.tables e below B0 t := fun t k => K153 t (by
    refine Own.ladd X151 hx (hb hby at_333) ?_
    refine Own.aload X151 hx (hb hby at_334) rfl rfl ?_
    refine Own.iconst X151 hx (3 : Int32) (hb hby at_336) rfl ?_
    refine Own.iload X151 hx (hb hby at_337) rfl ?_
    refine Own.iload X151 hx (hb hby at_339) rfl ?_
    exact k)
  obtain ⟨T156, h156, v156, J156, L156, X156, e156, n156, hQ156, st156⟩ := Own.callH (Ls := #[.val (.int p0), .val (.int p1), .val (.int p2), .val (.int p3), .val (.int p4), .val (.int p5), .val (.ref b2), .val (.ref b89), .val (.int (Int32.ofNat i)), .val (.int (Int32.ofNat j)), .val (.int x139), .unset, .unset, .unset, .unset]) X151 hx hZ e151 [(.ref b2), (.int (3 : Int32)), (.int (Int32.ofNat i)), (.int (Int32.ofNat j))] [(.long (((own_tm 0 i j cs) + (own_tm 1 i j cs)) + (own_tm 2 i j cs)))] (c9 l Z a0 hw b2 3 i j cs n0 h151 f154 (by omega) (by omega) (by omega) (by omega) (Nat.le_trans Z0 (Nat.le_trans (Nat.le_trans (Nat.le_trans (Nat.le_trans (Nat.le_trans (Nat.le_trans (Nat.le_trans (Nat.le_trans (Nat.le_trans (Nat.le_trans (Nat.le_trans (Nat.le_trans (Nat.le_trans (Nat.le_trans (Nat.le_trans (Nat.le_trans (Nat.le_trans m3 m10) m17) m24) m31) m38) m45) m52) m59) m66) m73) m80) m87) m90) m96) m142) m147) m152))) hown (hw _ (List.mem_of_getElem? (i := 38) rfl)) (hw _ (List.mem_of_getElem? (i := 39) rfl)) (hw _ (List.mem_of_getElem? (i := 3) rfl)) (hw _ (List.mem_of_getElem? (i := 40) rfl)) (by decide) 2 (by decide) (by decide) (by decide) (by decide) (by rw [hml]; rfl) (lenOf pd_9 rfl) rfl (Nat.le_of_eq rfl) (hb hby at_341)
  have X156 : Stand p l e room_1 s m #[(.int p0), (.int p1), (.int p2), (.int p3), (.int p4), (.int p5)] below meth c T156 L156 7 76 := X156
  obtain ⟨rfl, NN156, K156⟩ := hQ156
  have N156 : Fr n0 L156 := n156 n0 N151 NN156
  have m157 : h151.size ≤ h156.size := K156.1
  have K158 : ∀ t, Steps p.tables e below (T156.setTop (mkF m 344 #[.val (.int p0), .val (.int p1), .val (.int p2), .val (.int p3), .val (.int p4), .val (.int p5), .val (.ref b2), .val (.ref b89), .val (.int (Int32.ofNat i)), .val (.int (Int32.ofNat j)), .val (.int x139), .unset, .unset, .unset, .unset] [(.long (own_tm 3 i j cs)), (.long (((own_tm 0 i j cs) + (own_tm 1 i j cs)) + (own_tm 2 i j cs)))])) t → Steps p.tables e below B0 t := fun t k => K155 t (st156 t k)
  have f159 := (f154.keep K156 nin0)
  have K160 : ∀ t, Steps p.tables e below (T156.setTop (mkF m 352 #[.val (.int p0), .val (.int p1), .val (.int p2), .val (.int p3), .val (.int p4), .val (.int p5), .val (.ref b2), .val (.ref b89), .val (.int (Int32.ofNat i)), .val (.int (Int32.ofNat j)), .val (.int x139), .unset, .unset, .unset, .unset] [(.int (Int32.ofNat j)), (.int (Int32.ofNat i)), (.int (4 : Int32)), (.ref b2), (.long ((((own_tm 0 i j cs) + (own_tm 1 i j cs)) + (own_tm 2 i j cs)) + (own_tm 3 i j cs)))])) t → Steps p.tables e below B0 t := fun t k => K158 t (by
    refine Own.ladd X156 hx (hb hby at_344) ?_
    refine Own.aload X156 hx (hb hby at_345) rfl rfl ?_
    refine Own.iconst X156 hx (4 : Int32) (hb hby at_347) rfl ?_
    refine Own.iload X156 hx (hb hby at_348) rfl ?_
    refine Own.iload X156 hx (hb hby at_350) rfl ?_
    exact k)
  obtain ⟨T161, h161, v161, J161, L161, X161, e161, n161, hQ161, st161⟩ := Own.callH (Ls := #[.val (.int p0), .val (.int p1), .val (.int p2), .val (.int p3), .val (.int p4), .val (.int p5), .val (.ref b2), .val (.ref b89), .val (.int (Int32.ofNat i)), .val (.int (Int32.ofNat j)), .val (.int x139), .unset, .unset, .unset, .unset]) X156 hx hZ e156 [(.ref b2), (.int (4 : Int32)), (.int (Int32.ofNat i)), (.int (Int32.ofNat j))] [(.long ((((own_tm 0 i j cs) + (own_tm 1 i j cs)) + (own_tm 2 i j cs)) + (own_tm 3 i j cs)))] (c9 l Z a0 hw b2 4 i j cs n0 h156 f159 (by omega) (by omega) (by omega) (by omega) (Nat.le_trans Z0 (Nat.le_trans (Nat.le_trans (Nat.le_trans (Nat.le_trans (Nat.le_trans (Nat.le_trans (Nat.le_trans (Nat.le_trans (Nat.le_trans (Nat.le_trans (Nat.le_trans (Nat.le_trans (Nat.le_trans (Nat.le_trans (Nat.le_trans (Nat.le_trans (Nat.le_trans (Nat.le_trans m3 m10) m17) m24) m31) m38) m45) m52) m59) m66) m73) m80) m87) m90) m96) m142) m147) m152) m157))) hown (hw _ (List.mem_of_getElem? (i := 38) rfl)) (hw _ (List.mem_of_getElem? (i := 39) rfl)) (hw _ (List.mem_of_getElem? (i := 3) rfl)) (hw _ (List.mem_of_getElem? (i := 40) rfl)) (by decide) 2 (by decide) (by decide) (by decide) (by decide) (by rw [hml]; rfl) (lenOf pd_9 rfl) rfl (Nat.le_of_eq rfl) (hb hby at_352)
  have X161 : Stand p l e room_1 s m #[(.int p0), (.int p1), (.int p2), (.int p3), (.int p4), (.int p5)] below meth c T161 L161 8 88 := X161
  obtain ⟨rfl, NN161, K161⟩ := hQ161
  have N161 : Fr n0 L161 := n161 n0 N156 NN161
  have m162 : h156.size ≤ h161.size := K161.1
  have K163 : ∀ t, Steps p.tables e below (T161.setTop (mkF m 355 #[.val (.int p0), .val (.int p1), .val (.int p2), .val (.int p3), .val (.int p4), .val (.int p5), .val (.ref b2), .val (.ref b89), .val (.int (Int32.ofNat i)), .val (.int (Int32.ofNat j)), .val (.int x139), .unset, .unset, .unset, .unset] [(.long (own_tm 4 i j cs)), (.long ((((own_tm 0 i j cs) + (own_tm 1 i j cs)) + (own_tm 2 i j cs)) + (own_tm 3 i j cs)))])) t → Steps p.tables e below B0 t := fun t k => K160 t (st161 t k)
  have f164 := (f159.keep K161 nin0)
  have K165 : ∀ t, Steps p.tables e below (T161.setTop (mkF m 363 #[.val (.int p0), .val (.int p1), .val (.int p2), .val (.int p3), .val (.int p4), .val (.int p5), .val (.ref b2), .val (.ref b89), .val (.int (Int32.ofNat i)), .val (.int (Int32.ofNat j)), .val (.int x139), .unset, .unset, .unset, .unset] [(.int (Int32.ofNat j)), (.int (Int32.ofNat i)), (.int (5 : Int32)), (.ref b2), (.long (((((own_tm 0 i j cs) + (own_tm 1 i j cs)) + (own_tm 2 i j cs)) + (own_tm 3 i j cs)) + (own_tm 4 i j cs)))])) t → Steps p.tables e below B0 t := fun t k => K163 t (by
    refine Own.ladd X161 hx (hb hby at_355) ?_
    refine Own.aload X161 hx (hb hby at_356) rfl rfl ?_
    refine Own.iconst X161 hx (5 : Int32) (hb hby at_358) rfl ?_
    refine Own.iload X161 hx (hb hby at_359) rfl ?_
    refine Own.iload X161 hx (hb hby at_361) rfl ?_
    exact k)
  obtain ⟨T166, h166, v166, J166, L166, X166, e166, n166, hQ166, st166⟩ := Own.callH (Ls := #[.val (.int p0), .val (.int p1), .val (.int p2), .val (.int p3), .val (.int p4), .val (.int p5), .val (.ref b2), .val (.ref b89), .val (.int (Int32.ofNat i)), .val (.int (Int32.ofNat j)), .val (.int x139), .unset, .unset, .unset, .unset]) X161 hx hZ e161 [(.ref b2), (.int (5 : Int32)), (.int (Int32.ofNat i)), (.int (Int32.ofNat j))] [(.long (((((own_tm 0 i j cs) + (own_tm 1 i j cs)) + (own_tm 2 i j cs)) + (own_tm 3 i j cs)) + (own_tm 4 i j cs)))] (c9 l Z a0 hw b2 5 i j cs n0 h161 f164 (by omega) (by omega) (by omega) (by omega) (Nat.le_trans Z0 (Nat.le_trans (Nat.le_trans (Nat.le_trans (Nat.le_trans (Nat.le_trans (Nat.le_trans (Nat.le_trans (Nat.le_trans (Nat.le_trans (Nat.le_trans (Nat.le_trans (Nat.le_trans (Nat.le_trans (Nat.le_trans (Nat.le_trans (Nat.le_trans (Nat.le_trans (Nat.le_trans (Nat.le_trans m3 m10) m17) m24) m31) m38) m45) m52) m59) m66) m73) m80) m87) m90) m96) m142) m147) m152) m157) m162))) hown (hw _ (List.mem_of_getElem? (i := 38) rfl)) (hw _ (List.mem_of_getElem? (i := 39) rfl)) (hw _ (List.mem_of_getElem? (i := 3) rfl)) (hw _ (List.mem_of_getElem? (i := 40) rfl)) (by decide) 2 (by decide) (by decide) (by decide) (by decide) (by rw [hml]; rfl) (lenOf pd_9 rfl) rfl (Nat.le_of_eq rfl) (hb hby at_363)
  have X166 : Stand p l e room_1 s m #[(.int p0), (.int p1), (.int p2), (.int p3), (.int p4), (.int p5)] below meth c T166 L166 9 100 := X166
  obtain ⟨rfl, NN166, K166⟩ := hQ166
  have N166 : Fr n0 L166 := n166 n0 N161 NN166
  have m167 : h161.size ≤ h166.size := K166.1
  have K168 : ∀ t, Steps p.tables e below (T166.setTop (mkF m 366 #[.val (.int p0), .val (.int p1), .val (.int p2), .val (.int p3), .val (.int p4), .val (.int p5), .val (.ref b2), .val (.ref b89), .val (.int (Int32.ofNat i)), .val (.int (Int32.ofNat j)), .val (.int x139), .unset, .unset, .unset, .unset] [(.long (own_tm 5 i j cs)), (.long (((((own_tm 0 i j cs) + (own_tm 1 i j cs)) + (own_tm 2 i j cs)) + (own_tm 3 i j cs)) + (own_tm 4 i j cs)))])) t → Steps p.tables e below B0 t := fun t k => K165 t (st166 t k)
  have f169 := (f164.keep K166 nin0)
  have K170 : ∀ t, Steps p.tables e below (T166.setTop (mkF m 375 #[.val (.int p0), .val (.int p1), .val (.int p2), .val (.int p3), .val (.int p4), .val (.int p5), .val (.ref b2), .val (.ref b89), .val (.int (Int32.ofNat i)), .val (.int (Int32.ofNat j)), .val (.int x139), .unset, .unset, .unset, .unset] [(.int (Int32.ofNat j)), (.int (Int32.ofNat i)), (.int (6 : Int32)), (.ref b2), (.long ((((((own_tm 0 i j cs) + (own_tm 1 i j cs)) + (own_tm 2 i j cs)) + (own_tm 3 i j cs)) + (own_tm 4 i j cs)) + (own_tm 5 i j cs)))])) t → Steps p.tables e below B0 t := fun t k => K168 t (by
    refine Own.ladd X166 hx (hb hby at_366) ?_
    refine Own.aload X166 hx (hb hby at_367) rfl rfl ?_
    refine Own.bipush X166 hx (6 : Int32) (hb hby at_369) rfl ?_
    refine Own.iload X166 hx (hb hby at_371) rfl ?_
    refine Own.iload X166 hx (hb hby at_373) rfl ?_
    exact k)
  obtain ⟨T171, h171, v171, J171, L171, X171, e171, n171, hQ171, st171⟩ := Own.callH (Ls := #[.val (.int p0), .val (.int p1), .val (.int p2), .val (.int p3), .val (.int p4), .val (.int p5), .val (.ref b2), .val (.ref b89), .val (.int (Int32.ofNat i)), .val (.int (Int32.ofNat j)), .val (.int x139), .unset, .unset, .unset, .unset]) X166 hx hZ e166 [(.ref b2), (.int (6 : Int32)), (.int (Int32.ofNat i)), (.int (Int32.ofNat j))] [(.long ((((((own_tm 0 i j cs) + (own_tm 1 i j cs)) + (own_tm 2 i j cs)) + (own_tm 3 i j cs)) + (own_tm 4 i j cs)) + (own_tm 5 i j cs)))] (c9 l Z a0 hw b2 6 i j cs n0 h166 f169 (by omega) (by omega) (by omega) (by omega) (Nat.le_trans Z0 (Nat.le_trans (Nat.le_trans (Nat.le_trans (Nat.le_trans (Nat.le_trans (Nat.le_trans (Nat.le_trans (Nat.le_trans (Nat.le_trans (Nat.le_trans (Nat.le_trans (Nat.le_trans (Nat.le_trans (Nat.le_trans (Nat.le_trans (Nat.le_trans (Nat.le_trans (Nat.le_trans (Nat.le_trans (Nat.le_trans m3 m10) m17) m24) m31) m38) m45) m52) m59) m66) m73) m80) m87) m90) m96) m142) m147) m152) m157) m162) m167))) hown (hw _ (List.mem_of_getElem? (i := 38) rfl)) (hw _ (List.mem_of_getElem? (i := 39) rfl)) (hw _ (List.mem_of_getElem? (i := 3) rfl)) (hw _ (List.mem_of_getElem? (i := 40) rfl)) (by decide) 2 (by decide) (by decide) (by decide) (by decide) (by rw [hml]; rfl) (lenOf pd_9 rfl) rfl (Nat.le_of_eq rfl) (hb hby at_375)
  have X171 : Stand p l e room_1 s m #[(.int p0), (.int p1), (.int p2), (.int p3), (.int p4), (.int p5)] below meth c T171 L171 10 112 := X171
  obtain ⟨rfl, NN171, K171⟩ := hQ171
  have N171 : Fr n0 L171 := n171 n0 N166 NN171
  have m172 : h166.size ≤ h171.size := K171.1
  have K173 : ∀ t, Steps p.tables e below (T171.setTop (mkF m 378 #[.val (.int p0), .val (.int p1), .val (.int p2), .val (.int p3), .val (.int p4), .val (.int p5), .val (.ref b2), .val (.ref b89), .val (.int (Int32.ofNat i)), .val (.int (Int32.ofNat j)), .val (.int x139), .unset, .unset, .unset, .unset] [(.long (own_tm 6 i j cs)), (.long ((((((own_tm 0 i j cs) + (own_tm 1 i j cs)) + (own_tm 2 i j cs)) + (own_tm 3 i j cs)) + (own_tm 4 i j cs)) + (own_tm 5 i j cs)))])) t → Steps p.tables e below B0 t := fun t k => K170 t (st171 t k)
  have f174 := (f169.keep K171 nin0)
  have K175 : ∀ t, Steps p.tables e below (T171.setTop (mkF m 387 #[.val (.int p0), .val (.int p1), .val (.int p2), .val (.int p3), .val (.int p4), .val (.int p5), .val (.ref b2), .val (.ref b89), .val (.int (Int32.ofNat i)), .val (.int (Int32.ofNat j)), .val (.int x139), .unset, .unset, .unset, .unset] [(.int (Int32.ofNat j)), (.int (Int32.ofNat i)), (.int (7 : Int32)), (.ref b2), (.long (((((((own_tm 0 i j cs) + (own_tm 1 i j cs)) + (own_tm 2 i j cs)) + (own_tm 3 i j cs)) + (own_tm 4 i j cs)) + (own_tm 5 i j cs)) + (own_tm 6 i j cs)))])) t → Steps p.tables e below B0 t := fun t k => K173 t (by
    refine Own.ladd X171 hx (hb hby at_378) ?_
    refine Own.aload X171 hx (hb hby at_379) rfl rfl ?_
    refine Own.bipush X171 hx (7 : Int32) (hb hby at_381) rfl ?_
    refine Own.iload X171 hx (hb hby at_383) rfl ?_
    refine Own.iload X171 hx (hb hby at_385) rfl ?_
    exact k)
  obtain ⟨T176, h176, v176, J176, L176, X176, e176, n176, hQ176, st176⟩ := Own.callH (Ls := #[.val (.int p0), .val (.int p1), .val (.int p2), .val (.int p3), .val (.int p4), .val (.int p5), .val (.ref b2), .val (.ref b89), .val (.int (Int32.ofNat i)), .val (.int (Int32.ofNat j)), .val (.int x139), .unset, .unset, .unset, .unset]) X171 hx hZ e171 [(.ref b2), (.int (7 : Int32)), (.int (Int32.ofNat i)), (.int (Int32.ofNat j))] [(.long (((((((own_tm 0 i j cs) + (own_tm 1 i j cs)) + (own_tm 2 i j cs)) + (own_tm 3 i j cs)) + (own_tm 4 i j cs)) + (own_tm 5 i j cs)) + (own_tm 6 i j cs)))] (c9 l Z a0 hw b2 7 i j cs n0 h171 f174 (by omega) (by omega) (by omega) (by omega) (Nat.le_trans Z0 (Nat.le_trans (Nat.le_trans (Nat.le_trans (Nat.le_trans (Nat.le_trans (Nat.le_trans (Nat.le_trans (Nat.le_trans (Nat.le_trans (Nat.le_trans (Nat.le_trans (Nat.le_trans (Nat.le_trans (Nat.le_trans (Nat.le_trans (Nat.le_trans (Nat.le_trans (Nat.le_trans (Nat.le_trans (Nat.le_trans (Nat.le_trans m3 m10) m17) m24) m31) m38) m45) m52) m59) m66) m73) m80) m87) m90) m96) m142) m147) m152) m157) m162) m167) m172))) hown (hw _ (List.mem_of_getElem? (i := 38) rfl)) (hw _ (List.mem_of_getElem? (i := 39) rfl)) (hw _ (List.mem_of_getElem? (i := 3) rfl)) (hw _ (List.mem_of_getElem? (i := 40) rfl)) (by decide) 2 (by decide) (by decide) (by decide) (by decide) (by rw [hml]; rfl) (lenOf pd_9 rfl) rfl (Nat.le_of_eq rfl) (hb hby at_387)
  have X176 : Stand p l e room_1 s m #[(.int p0), (.int p1), (.int p2), (.int p3), (.int p4), (.int p5)] below meth c T176 L176 11 124 := X176
  obtain ⟨rfl, NN176, K176⟩ := hQ176
  have N176 : Fr n0 L176 := n176 n0 N171 NN176
  have m177 : h171.size ≤ h176.size := K176.1
  have K178 : ∀ t, Steps p.tables e below (T176.setTop (mkF m 390 #[.val (.int p0), .val (.int p1), .val (.int p2), .val (.int p3), .val (.int p4), .val (.int p5), .val (.ref b2), .val (.ref b89), .val (.int (Int32.ofNat i)), .val (.int (Int32.ofNat j)), .val (.int x139), .unset, .unset, .unset, .unset] [(.long (own_tm 7 i j cs)), (.long (((((((own_tm 0 i j cs) + (own_tm 1 i j cs)) + (own_tm 2 i j cs)) + (own_tm 3 i j cs)) + (own_tm 4 i j cs)) + (own_tm 5 i j cs)) + (own_tm 6 i j cs)))])) t → Steps p.tables e below B0 t := fun t k => K175 t (st176 t k)
  have f179 := (f174.keep K176 nin0)
  have K180 : ∀ t, Steps p.tables e below (T176.setTop (mkF m 399 #[.val (.int p0), .val (.int p1), .val (.int p2), .val (.int p3), .val (.int p4), .val (.int p5), .val (.ref b2), .val (.ref b89), .val (.int (Int32.ofNat i)), .val (.int (Int32.ofNat j)), .val (.int x139), .unset, .unset, .unset, .unset] [(.int (Int32.ofNat j)), (.int (Int32.ofNat i)), (.int (8 : Int32)), (.ref b2), (.long ((((((((own_tm 0 i j cs) + (own_tm 1 i j cs)) + (own_tm 2 i j cs)) + (own_tm 3 i j cs)) + (own_tm 4 i j cs)) + (own_tm 5 i j cs)) + (own_tm 6 i j cs)) + (own_tm 7 i j cs)))])) t → Steps p.tables e below B0 t := fun t k => K178 t (by
    refine Own.ladd X176 hx (hb hby at_390) ?_
    refine Own.aload X176 hx (hb hby at_391) rfl rfl ?_
    refine Own.bipush X176 hx (8 : Int32) (hb hby at_393) rfl ?_
    refine Own.iload X176 hx (hb hby at_395) rfl ?_
    refine Own.iload X176 hx (hb hby at_397) rfl ?_
    exact k)
  obtain ⟨T181, h181, v181, J181, L181, X181, e181, n181, hQ181, st181⟩ := Own.callH (Ls := #[.val (.int p0), .val (.int p1), .val (.int p2), .val (.int p3), .val (.int p4), .val (.int p5), .val (.ref b2), .val (.ref b89), .val (.int (Int32.ofNat i)), .val (.int (Int32.ofNat j)), .val (.int x139), .unset, .unset, .unset, .unset]) X176 hx hZ e176 [(.ref b2), (.int (8 : Int32)), (.int (Int32.ofNat i)), (.int (Int32.ofNat j))] [(.long ((((((((own_tm 0 i j cs) + (own_tm 1 i j cs)) + (own_tm 2 i j cs)) + (own_tm 3 i j cs)) + (own_tm 4 i j cs)) + (own_tm 5 i j cs)) + (own_tm 6 i j cs)) + (own_tm 7 i j cs)))] (c9 l Z a0 hw b2 8 i j cs n0 h176 f179 (by omega) (by omega) (by omega) (by omega) (Nat.le_trans Z0 (Nat.le_trans (Nat.le_trans (Nat.le_trans (Nat.le_trans (Nat.le_trans (Nat.le_trans (Nat.le_trans (Nat.le_trans (Nat.le_trans (Nat.le_trans (Nat.le_trans (Nat.le_trans (Nat.le_trans (Nat.le_trans (Nat.le_trans (Nat.le_trans (Nat.le_trans (Nat.le_trans (Nat.le_trans (Nat.le_trans (Nat.le_trans (Nat.le_trans m3 m10) m17) m24) m31) m38) m45) m52) m59) m66) m73) m80) m87) m90) m96) m142) m147) m152) m157) m162) m167) m172) m177))) hown (hw _ (List.mem_of_getElem? (i := 38) rfl)) (hw _ (List.mem_of_getElem? (i := 39) rfl)) (hw _ (List.mem_of_getElem? (i := 3) rfl)) (hw _ (List.mem_of_getElem? (i := 40) rfl)) (by decide) 2 (by decide) (by decide) (by decide) (by decide) (by rw [hml]; rfl) (lenOf pd_9 rfl) rfl (Nat.le_of_eq rfl) (hb hby at_399)
  have X181 : Stand p l e room_1 s m #[(.int p0), (.int p1), (.int p2), (.int p3), (.int p4), (.int p5)] below meth c T181 L181 12 136 := X181
  obtain ⟨rfl, NN181, K181⟩ := hQ181
  have N181 : Fr n0 L181 := n181 n0 N176 NN181
  have m182 : h176.size ≤ h181.size := K181.1
  have K183 : ∀ t, Steps p.tables e below (T181.setTop (mkF m 402 #[.val (.int p0), .val (.int p1), .val (.int p2), .val (.int p3), .val (.int p4), .val (.int p5), .val (.ref b2), .val (.ref b89), .val (.int (Int32.ofNat i)), .val (.int (Int32.ofNat j)), .val (.int x139), .unset, .unset, .unset, .unset] [(.long (own_tm 8 i j cs)), (.long ((((((((own_tm 0 i j cs) + (own_tm 1 i j cs)) + (own_tm 2 i j cs)) + (own_tm 3 i j cs)) + (own_tm 4 i j cs)) + (own_tm 5 i j cs)) + (own_tm 6 i j cs)) + (own_tm 7 i j cs)))])) t → Steps p.tables e below B0 t := fun t k => K180 t (st181 t k)
  have f184 := (f179.keep K181 nin0)
  have K185 : ∀ t, Steps p.tables e below (T181.setTop (mkF m 411 #[.val (.int p0), .val (.int p1), .val (.int p2), .val (.int p3), .val (.int p4), .val (.int p5), .val (.ref b2), .val (.ref b89), .val (.int (Int32.ofNat i)), .val (.int (Int32.ofNat j)), .val (.int x139), .unset, .unset, .unset, .unset] [(.int (Int32.ofNat j)), (.int (Int32.ofNat i)), (.int (9 : Int32)), (.ref b2), (.long (((((((((own_tm 0 i j cs) + (own_tm 1 i j cs)) + (own_tm 2 i j cs)) + (own_tm 3 i j cs)) + (own_tm 4 i j cs)) + (own_tm 5 i j cs)) + (own_tm 6 i j cs)) + (own_tm 7 i j cs)) + (own_tm 8 i j cs)))])) t → Steps p.tables e below B0 t := fun t k => K183 t (by
    refine Own.ladd X181 hx (hb hby at_402) ?_
    refine Own.aload X181 hx (hb hby at_403) rfl rfl ?_
    refine Own.bipush X181 hx (9 : Int32) (hb hby at_405) rfl ?_
    refine Own.iload X181 hx (hb hby at_407) rfl ?_
    refine Own.iload X181 hx (hb hby at_409) rfl ?_
    exact k)
  obtain ⟨T186, h186, v186, J186, L186, X186, e186, n186, hQ186, st186⟩ := Own.callH (Ls := #[.val (.int p0), .val (.int p1), .val (.int p2), .val (.int p3), .val (.int p4), .val (.int p5), .val (.ref b2), .val (.ref b89), .val (.int (Int32.ofNat i)), .val (.int (Int32.ofNat j)), .val (.int x139), .unset, .unset, .unset, .unset]) X181 hx hZ e181 [(.ref b2), (.int (9 : Int32)), (.int (Int32.ofNat i)), (.int (Int32.ofNat j))] [(.long (((((((((own_tm 0 i j cs) + (own_tm 1 i j cs)) + (own_tm 2 i j cs)) + (own_tm 3 i j cs)) + (own_tm 4 i j cs)) + (own_tm 5 i j cs)) + (own_tm 6 i j cs)) + (own_tm 7 i j cs)) + (own_tm 8 i j cs)))] (c9 l Z a0 hw b2 9 i j cs n0 h181 f184 (by omega) (by omega) (by omega) (by omega) (Nat.le_trans Z0 (Nat.le_trans (Nat.le_trans (Nat.le_trans (Nat.le_trans (Nat.le_trans (Nat.le_trans (Nat.le_trans (Nat.le_trans (Nat.le_trans (Nat.le_trans (Nat.le_trans (Nat.le_trans (Nat.le_trans (Nat.le_trans (Nat.le_trans (Nat.le_trans (Nat.le_trans (Nat.le_trans (Nat.le_trans (Nat.le_trans (Nat.le_trans (Nat.le_trans (Nat.le_trans m3 m10) m17) m24) m31) m38) m45) m52) m59) m66) m73) m80) m87) m90) m96) m142) m147) m152) m157) m162) m167) m172) m177) m182))) hown (hw _ (List.mem_of_getElem? (i := 38) rfl)) (hw _ (List.mem_of_getElem? (i := 39) rfl)) (hw _ (List.mem_of_getElem? (i := 3) rfl)) (hw _ (List.mem_of_getElem? (i := 40) rfl)) (by decide) 2 (by decide) (by decide) (by decide) (by decide) (by rw [hml]; rfl) (lenOf pd_9 rfl) rfl (Nat.le_of_eq rfl) (hb hby at_411)
  have X186 : Stand p l e room_1 s m #[(.int p0), (.int p1), (.int p2), (.int p3), (.int p4), (.int p5)] below meth c T186 L186 13 148 := X186
  obtain ⟨rfl, NN186, K186⟩ := hQ186
  have N186 : Fr n0 L186 := n186 n0 N181 NN186
  have m187 : h181.size ≤ h186.size := K186.1
  have K188 : ∀ t, Steps p.tables e below (T186.setTop (mkF m 414 #[.val (.int p0), .val (.int p1), .val (.int p2), .val (.int p3), .val (.int p4), .val (.int p5), .val (.ref b2), .val (.ref b89), .val (.int (Int32.ofNat i)), .val (.int (Int32.ofNat j)), .val (.int x139), .unset, .unset, .unset, .unset] [(.long (own_tm 9 i j cs)), (.long (((((((((own_tm 0 i j cs) + (own_tm 1 i j cs)) + (own_tm 2 i j cs)) + (own_tm 3 i j cs)) + (own_tm 4 i j cs)) + (own_tm 5 i j cs)) + (own_tm 6 i j cs)) + (own_tm 7 i j cs)) + (own_tm 8 i j cs)))])) t → Steps p.tables e below B0 t := fun t k => K185 t (st186 t k)
  have f189 := (f184.keep K186 nin0)
  have K190 : ∀ t, Steps p.tables e below (T186.setTop (mkF m 423 #[.val (.int p0), .val (.int p1), .val (.int p2), .val (.int p3), .val (.int p4), .val (.int p5), .val (.ref b2), .val (.ref b89), .val (.int (Int32.ofNat i)), .val (.int (Int32.ofNat j)), .val (.int x139), .unset, .unset, .unset, .unset] [(.int (Int32.ofNat j)), (.int (Int32.ofNat i)), (.int (10 : Int32)), (.ref b2), (.long ((((((((((own_tm 0 i j cs) + (own_tm 1 i j cs)) + (own_tm 2 i j cs)) + (own_tm 3 i j cs)) + (own_tm 4 i j cs)) + (own_tm 5 i j cs)) + (own_tm 6 i j cs)) + (own_tm 7 i j cs)) + (own_tm 8 i j cs)) + (own_tm 9 i j cs)))])) t → Steps p.tables e below B0 t := fun t k => K188 t (by
    refine Own.ladd X186 hx (hb hby at_414) ?_
    refine Own.aload X186 hx (hb hby at_415) rfl rfl ?_
    refine Own.bipush X186 hx (10 : Int32) (hb hby at_417) rfl ?_
    refine Own.iload X186 hx (hb hby at_419) rfl ?_
    refine Own.iload X186 hx (hb hby at_421) rfl ?_
    exact k)
  obtain ⟨T191, h191, v191, J191, L191, X191, e191, n191, hQ191, st191⟩ := Own.callH (Ls := #[.val (.int p0), .val (.int p1), .val (.int p2), .val (.int p3), .val (.int p4), .val (.int p5), .val (.ref b2), .val (.ref b89), .val (.int (Int32.ofNat i)), .val (.int (Int32.ofNat j)), .val (.int x139), .unset, .unset, .unset, .unset]) X186 hx hZ e186 [(.ref b2), (.int (10 : Int32)), (.int (Int32.ofNat i)), (.int (Int32.ofNat j))] [(.long ((((((((((own_tm 0 i j cs) + (own_tm 1 i j cs)) + (own_tm 2 i j cs)) + (own_tm 3 i j cs)) + (own_tm 4 i j cs)) + (own_tm 5 i j cs)) + (own_tm 6 i j cs)) + (own_tm 7 i j cs)) + (own_tm 8 i j cs)) + (own_tm 9 i j cs)))] (c9 l Z a0 hw b2 10 i j cs n0 h186 f189 (by omega) (by omega) (by omega) (by omega) (Nat.le_trans Z0 (Nat.le_trans (Nat.le_trans (Nat.le_trans (Nat.le_trans (Nat.le_trans (Nat.le_trans (Nat.le_trans (Nat.le_trans (Nat.le_trans (Nat.le_trans (Nat.le_trans (Nat.le_trans (Nat.le_trans (Nat.le_trans (Nat.le_trans (Nat.le_trans (Nat.le_trans (Nat.le_trans (Nat.le_trans (Nat.le_trans (Nat.le_trans (Nat.le_trans (Nat.le_trans (Nat.le_trans m3 m10) m17) m24) m31) m38) m45) m52) m59) m66) m73) m80) m87) m90) m96) m142) m147) m152) m157) m162) m167) m172) m177) m182) m187))) hown (hw _ (List.mem_of_getElem? (i := 38) rfl)) (hw _ (List.mem_of_getElem? (i := 39) rfl)) (hw _ (List.mem_of_getElem? (i := 3) rfl)) (hw _ (List.mem_of_getElem? (i := 40) rfl)) (by decide) 2 (by decide) (by decide) (by decide) (by decide) (by rw [hml]; rfl) (lenOf pd_9 rfl) rfl (Nat.le_of_eq rfl) (hb hby at_423)
  have X191 : Stand p l e room_1 s m #[(.int p0), (.int p1), (.int p2), (.int p3), (.int p4), (.int p5)] below meth c T191 L191 14 160 := X191
  obtain ⟨rfl, NN191, K191⟩ := hQ191
  have N191 : Fr n0 L191 := n191 n0 N186 NN191
  have m192 : h186.size ≤ h191.size := K191.1
  have K193 : ∀ t, Steps p.tables e below (T191.setTop (mkF m 426 #[.val (.int p0), .val (.int p1), .val (.int p2), .val (.int p3), .val (.int p4), .val (.int p5), .val (.ref b2), .val (.ref b89), .val (.int (Int32.ofNat i)), .val (.int (Int32.ofNat j)), .val (.int x139), .unset, .unset, .unset, .unset] [(.long (own_tm 10 i j cs)), (.long ((((((((((own_tm 0 i j cs) + (own_tm 1 i j cs)) + (own_tm 2 i j cs)) + (own_tm 3 i j cs)) + (own_tm 4 i j cs)) + (own_tm 5 i j cs)) + (own_tm 6 i j cs)) + (own_tm 7 i j cs)) + (own_tm 8 i j cs)) + (own_tm 9 i j cs)))])) t → Steps p.tables e below B0 t := fun t k => K190 t (st191 t k)
  have f194 := (f189.keep K191 nin0)
  have K195 : ∀ t, Steps p.tables e below (T191.setTop (mkF m 435 #[.val (.int p0), .val (.int p1), .val (.int p2), .val (.int p3), .val (.int p4), .val (.int p5), .val (.ref b2), .val (.ref b89), .val (.int (Int32.ofNat i)), .val (.int (Int32.ofNat j)), .val (.int x139), .unset, .unset, .unset, .unset] [(.int (Int32.ofNat j)), (.int (Int32.ofNat i)), (.int (11 : Int32)), (.ref b2), (.long (((((((((((own_tm 0 i j cs) + (own_tm 1 i j cs)) + (own_tm 2 i j cs)) + (own_tm 3 i j cs)) + (own_tm 4 i j cs)) + (own_tm 5 i j cs)) + (own_tm 6 i j cs)) + (own_tm 7 i j cs)) + (own_tm 8 i j cs)) + (own_tm 9 i j cs)) + (own_tm 10 i j cs)))])) t → Steps p.tables e below B0 t := fun t k => K193 t (by
    refine Own.ladd X191 hx (hb hby at_426) ?_
    refine Own.aload X191 hx (hb hby at_427) rfl rfl ?_
    refine Own.bipush X191 hx (11 : Int32) (hb hby at_429) rfl ?_
    refine Own.iload X191 hx (hb hby at_431) rfl ?_
    refine Own.iload X191 hx (hb hby at_433) rfl ?_
    exact k)
  obtain ⟨T196, h196, v196, J196, L196, X196, e196, n196, hQ196, st196⟩ := Own.callH (Ls := #[.val (.int p0), .val (.int p1), .val (.int p2), .val (.int p3), .val (.int p4), .val (.int p5), .val (.ref b2), .val (.ref b89), .val (.int (Int32.ofNat i)), .val (.int (Int32.ofNat j)), .val (.int x139), .unset, .unset, .unset, .unset]) X191 hx hZ e191 [(.ref b2), (.int (11 : Int32)), (.int (Int32.ofNat i)), (.int (Int32.ofNat j))] [(.long (((((((((((own_tm 0 i j cs) + (own_tm 1 i j cs)) + (own_tm 2 i j cs)) + (own_tm 3 i j cs)) + (own_tm 4 i j cs)) + (own_tm 5 i j cs)) + (own_tm 6 i j cs)) + (own_tm 7 i j cs)) + (own_tm 8 i j cs)) + (own_tm 9 i j cs)) + (own_tm 10 i j cs)))] (c9 l Z a0 hw b2 11 i j cs n0 h191 f194 (by omega) (by omega) (by omega) (by omega) (Nat.le_trans Z0 (Nat.le_trans (Nat.le_trans (Nat.le_trans (Nat.le_trans (Nat.le_trans (Nat.le_trans (Nat.le_trans (Nat.le_trans (Nat.le_trans (Nat.le_trans (Nat.le_trans (Nat.le_trans (Nat.le_trans (Nat.le_trans (Nat.le_trans (Nat.le_trans (Nat.le_trans (Nat.le_trans (Nat.le_trans (Nat.le_trans (Nat.le_trans (Nat.le_trans (Nat.le_trans (Nat.le_trans (Nat.le_trans m3 m10) m17) m24) m31) m38) m45) m52) m59) m66) m73) m80) m87) m90) m96) m142) m147) m152) m157) m162) m167) m172) m177) m182) m187) m192))) hown (hw _ (List.mem_of_getElem? (i := 38) rfl)) (hw _ (List.mem_of_getElem? (i := 39) rfl)) (hw _ (List.mem_of_getElem? (i := 3) rfl)) (hw _ (List.mem_of_getElem? (i := 40) rfl)) (by decide) 2 (by decide) (by decide) (by decide) (by decide) (by rw [hml]; rfl) (lenOf pd_9 rfl) rfl (Nat.le_of_eq rfl) (hb hby at_435)
  have X196 : Stand p l e room_1 s m #[(.int p0), (.int p1), (.int p2), (.int p3), (.int p4), (.int p5)] below meth c T196 L196 15 172 := X196
  obtain ⟨rfl, NN196, K196⟩ := hQ196
  have N196 : Fr n0 L196 := n196 n0 N191 NN196
  have m197 : h191.size ≤ h196.size := K196.1
  have K198 : ∀ t, Steps p.tables e below (T196.setTop (mkF m 438 #[.val (.int p0), .val (.int p1), .val (.int p2), .val (.int p3), .val (.int p4), .val (.int p5), .val (.ref b2), .val (.ref b89), .val (.int (Int32.ofNat i)), .val (.int (Int32.ofNat j)), .val (.int x139), .unset, .unset, .unset, .unset] [(.long (own_tm 11 i j cs)), (.long (((((((((((own_tm 0 i j cs) + (own_tm 1 i j cs)) + (own_tm 2 i j cs)) + (own_tm 3 i j cs)) + (own_tm 4 i j cs)) + (own_tm 5 i j cs)) + (own_tm 6 i j cs)) + (own_tm 7 i j cs)) + (own_tm 8 i j cs)) + (own_tm 9 i j cs)) + (own_tm 10 i j cs)))])) t → Steps p.tables e below B0 t := fun t k => K195 t (st196 t k)
  obtain ⟨x199, hx199⟩ : ∃ z : Int64, z = ((((((((((((own_tm 0 i j cs) + (own_tm 1 i j cs)) + (own_tm 2 i j cs)) + (own_tm 3 i j cs)) + (own_tm 4 i j cs)) + (own_tm 5 i j cs)) + (own_tm 6 i j cs)) + (own_tm 7 i j cs)) + (own_tm 8 i j cs)) + (own_tm 9 i j cs)) + (own_tm 10 i j cs)) + (own_tm 11 i j cs)) := ⟨_, rfl⟩
  have K200 : ∀ t, Steps p.tables e below (T196.setTop (mkF m 447 #[.val (.int p0), .val (.int p1), .val (.int p2), .val (.int p3), .val (.int p4), .val (.int p5), .val (.ref b2), .val (.ref b89), .val (.int (Int32.ofNat i)), .val (.int (Int32.ofNat j)), .val (.int x139), .val (.long x199), .second, .unset, .unset] [(.int (Int32.ofNat j)), (.int (Int32.ofNat i)), (.ref b89)])) t → Steps p.tables e below B0 t := fun t k => K198 t (by
    subst hx199
    refine Own.ladd X196 hx (hb hby at_438) ?_
    refine Own.lstore X196 hx #[.val (.int p0), .val (.int p1), .val (.int p2), .val (.int p3), .val (.int p4), .val (.int p5), .val (.ref b2), .val (.ref b89), .val (.int (Int32.ofNat i)), .val (.int (Int32.ofNat j)), .val (.int x139), .val (.long ((((((((((((own_tm 0 i j cs) + (own_tm 1 i j cs)) + (own_tm 2 i j cs)) + (own_tm 3 i j cs)) + (own_tm 4 i j cs)) + (own_tm 5 i j cs)) + (own_tm 6 i j cs)) + (own_tm 7 i j cs)) + (own_tm 8 i j cs)) + (own_tm 9 i j cs)) + (own_tm 10 i j cs)) + (own_tm 11 i j cs))), .second, .unset, .unset] (hb hby at_439) rfl ?_
    refine Own.aload X196 hx (hb hby at_441) rfl rfl ?_
    refine Own.iload X196 hx (hb hby at_443) rfl ?_
    refine Own.iload X196 hx (hb hby at_445) rfl ?_
    exact k)
  have f201 := (TX.ext (Own.Ext.keep (Own.Ext.keep (Own.Ext.keep (Own.Ext.keep (Own.Ext.keep (Own.Ext.keep (Own.Ext.keep (Own.Ext.keep (Own.Ext.keep (Own.Ext.keep (Own.Ext.keep (Own.Ext.keep (Own.Ext.refl _) K141 all0) K146 all0) K151 all0) K156 all0) K161 all0) K166 all0) K171 all0) K176 all0) K181 all0) K186 all0) K191 all0) K196 all0))
  have f202 := (((((((((((((Own.sta_keep f95 K93 A89).ext (Own.Ext.keep (Own.Ext.refl _) K141 all0)).ext (Own.Ext.keep (Own.Ext.refl _) K146 all0)).ext (Own.Ext.keep (Own.Ext.refl _) K151 all0)).ext (Own.Ext.keep (Own.Ext.refl _) K156 all0)).ext (Own.Ext.keep (Own.Ext.refl _) K161 all0)).ext (Own.Ext.keep (Own.Ext.refl _) K166 all0)).ext (Own.Ext.keep (Own.Ext.refl _) K171 all0)).ext (Own.Ext.keep (Own.Ext.refl _) K176 all0)).ext (Own.Ext.keep (Own.Ext.refl _) K181 all0)).ext (Own.Ext.keep (Own.Ext.refl _) K186 all0)).ext (Own.Ext.keep (Own.Ext.refl _) K191 all0)).ext (Own.Ext.keep (Own.Ext.refl _) K196 all0))
  have f203 := (((((((((((((Own.sta_keep ((((((((((((((SF.ext E2).wr W8).wr W15).wr W22).wr W29).wr W36).wr W43).wr W50).wr W57).wr W64).wr W71).wr W78).wr W85).ext E89) K93 A89).ext (Own.Ext.keep (Own.Ext.refl _) K141 all0)).ext (Own.Ext.keep (Own.Ext.refl _) K146 all0)).ext (Own.Ext.keep (Own.Ext.refl _) K151 all0)).ext (Own.Ext.keep (Own.Ext.refl _) K156 all0)).ext (Own.Ext.keep (Own.Ext.refl _) K161 all0)).ext (Own.Ext.keep (Own.Ext.refl _) K166 all0)).ext (Own.Ext.keep (Own.Ext.refl _) K171 all0)).ext (Own.Ext.keep (Own.Ext.refl _) K176 all0)).ext (Own.Ext.keep (Own.Ext.refl _) K181 all0)).ext (Own.Ext.keep (Own.Ext.refl _) K186 all0)).ext (Own.Ext.keep (Own.Ext.refl _) K191 all0)).ext (Own.Ext.keep (Own.Ext.refl _) K196 all0))
  have f204 := (((((((((((((Own.sta_keep ((((((((((((((SH.ext E2).wr W8).wr W15).wr W22).wr W29).wr W36).wr W43).wr W50).wr W57).wr W64).wr W71).wr W78).wr W85).ext E89) K93 A89).ext (Own.Ext.keep (Own.Ext.refl _) K141 all0)).ext (Own.Ext.keep (Own.Ext.refl _) K146 all0)).ext (Own.Ext.keep (Own.Ext.refl _) K151 all0)).ext (Own.Ext.keep (Own.Ext.refl _) K156 all0)).ext (Own.Ext.keep (Own.Ext.refl _) K161 all0)).ext (Own.Ext.keep (Own.Ext.refl _) K166 all0)).ext (Own.Ext.keep (Own.Ext.refl _) K171 all0)).ext (Own.Ext.keep (Own.Ext.refl _) K176 all0)).ext (Own.Ext.keep (Own.Ext.refl _) K181 all0)).ext (Own.Ext.keep (Own.Ext.refl _) K186 all0)).ext (Own.Ext.keep (Own.Ext.refl _) K191 all0)).ext (Own.Ext.keep (Own.Ext.refl _) K196 all0))
  have f205 := (((((((((((((Own.sta_keep ((((((((((((((SA.ext E2).wr W8).wr W15).wr W22).wr W29).wr W36).wr W43).wr W50).wr W57).wr W64).wr W71).wr W78).wr W85).ext E89) K93 A89).ext (Own.Ext.keep (Own.Ext.refl _) K141 all0)).ext (Own.Ext.keep (Own.Ext.refl _) K146 all0)).ext (Own.Ext.keep (Own.Ext.refl _) K151 all0)).ext (Own.Ext.keep (Own.Ext.refl _) K156 all0)).ext (Own.Ext.keep (Own.Ext.refl _) K161 all0)).ext (Own.Ext.keep (Own.Ext.refl _) K166 all0)).ext (Own.Ext.keep (Own.Ext.refl _) K171 all0)).ext (Own.Ext.keep (Own.Ext.refl _) K176 all0)).ext (Own.Ext.keep (Own.Ext.refl _) K181 all0)).ext (Own.Ext.keep (Own.Ext.refl _) K186 all0)).ext (Own.Ext.keep (Own.Ext.refl _) K191 all0)).ext (Own.Ext.keep (Own.Ext.refl _) K196 all0))
  have f206 := (KC.ext (Own.Ext.keep (Own.Ext.keep (Own.Ext.keep (Own.Ext.keep (Own.Ext.keep (Own.Ext.keep (Own.Ext.keep (Own.Ext.keep (Own.Ext.keep (Own.Ext.keep (Own.Ext.keep (Own.Ext.keep (Own.Ext.keep (Own.Ext.trans (Own.Ext.wr (Own.Ext.wr (Own.Ext.wr (Own.Ext.wr (Own.Ext.wr (Own.Ext.wr (Own.Ext.wr (Own.Ext.wr (Own.Ext.wr (Own.Ext.wr (Own.Ext.wr (Own.Ext.wr E2 W8 le_b2) W15 le_b2) W22 le_b2) W29 le_b2) W36 le_b2) W43 le_b2) W50 le_b2) W57 le_b2) W64 le_b2) W71 le_b2) W78 le_b2) W85 le_b2) E89) K93 (allS (Nat.le_trans (Nat.le_trans (Nat.le_trans (Nat.le_trans (Nat.le_trans (Nat.le_trans (Nat.le_trans (Nat.le_trans (Nat.le_trans (Nat.le_trans (Nat.le_trans (Nat.le_trans (Nat.le_trans m3 m10) m17) m24) m31) m38) m45) m52) m59) m66) m73) m80) m87) le_b89) all0)) K141 all0) K146 all0) K151 all0) K156 all0) K161 all0) K166 all0) K171 all0) K176 all0) K181 all0) K186 all0) K191 all0) K196 all0))
  obtain ⟨T207, h207, v207, J207, L207, X207, e207, n207, ⟨NN207, K207, hy⟩, st207⟩ := Own.callH (Ls := #[.val (.int p0), .val (.int p1), .val (.int p2), .val (.int p3), .val (.int p4), .val (.int p5), .val (.ref b2), .val (.ref b89), .val (.int (Int32.ofNat i)), .val (.int (Int32.ofNat j)), .val (.int x139), .val (.long x199), .second, .unset, .unset]) X196 hx hZ e196 [(.ref b89), (.int (Int32.ofNat i)), (.int (Int32.ofNat j))] [] (c10 l Z a0 hw b89 i j cs G1 G3 n0 wc h196 f201 f202 hG1 f203 rG3 (by omega) (by omega) (Nat.le_trans Z0 (Nat.le_trans (Nat.le_trans (Nat.le_trans (Nat.le_trans (Nat.le_trans (Nat.le_trans (Nat.le_trans (Nat.le_trans (Nat.le_trans (Nat.le_trans (Nat.le_trans (Nat.le_trans (Nat.le_trans (Nat.le_trans (Nat.le_trans (Nat.le_trans (Nat.le_trans (Nat.le_trans (Nat.le_trans (Nat.le_trans (Nat.le_trans (Nat.le_trans (Nat.le_trans (Nat.le_trans (Nat.le_trans (Nat.le_trans m3 m10) m17) m24) m31) m38) m45) m52) m59) m66) m73) m80) m87) m90) m96) m142) m147) m152) m157) m162) m167) m172) m177) m182) m187) m192) m197)) f204 f205 f206) hown (hw _ (List.mem_of_getElem? (i := 53) rfl)) (hw _ (List.mem_of_getElem? (i := 54) rfl)) (hw _ (List.mem_of_getElem? (i := 55) rfl)) (hw _ (List.mem_of_getElem? (i := 56) rfl)) (by decide) 0 (by decide) (by decide) (by decide) (by decide) (by rw [hml]; rfl) (lenOf pd_10 rfl) rfl (Nat.le_of_eq rfl) (hb hby at_447)
  have X207 : Stand p l e room_1 s m #[(.int p0), (.int p1), (.int p2), (.int p3), (.int p4), (.int p5)] below meth c T207 L207 16 173 := X207
  have N207 : Fr n0 L207 := n207 n0 N196 NN207
  have m208 : h196.size ≤ h207.size := K207.1
  rcases hy with ⟨rfl, hno⟩ | ⟨bi, rfl, hyes, Ei, Fi⟩
  · have K209 : ∀ t, Steps p.tables e below (T207.setTop (mkF m 450 #[.val (.int p0), .val (.int p1), .val (.int p2), .val (.int p3), .val (.int p4), .val (.int p5), .val (.ref b2), .val (.ref b89), .val (.int (Int32.ofNat i)), .val (.int (Int32.ofNat j)), .val (.int x139), .val (.long x199), .second, .unset, .unset] [.null])) t → Steps p.tables e below B0 t := fun t k => K200 t (st207 t k)
    have K210 : ∀ t, Steps p.tables e below (T207.setTop (mkF m 456 #[.val (.int p0), .val (.int p1), .val (.int p2), .val (.int p3), .val (.int p4), .val (.int p5), .val (.ref b2), .val (.ref b89), .val (.int (Int32.ofNat i)), .val (.int (Int32.ofNat j)), .val (.int x139), .val (.long x199), .second, .val .null, .unset] [(.int (Int32.ofNat i)), (.int (Int32.ofNat j))])) t → Steps p.tables e below B0 t := fun t k => K209 t (by
      refine Own.astore X207 hx #[.val (.int p0), .val (.int p1), .val (.int p2), .val (.int p3), .val (.int p4), .val (.int p5), .val (.ref b2), .val (.ref b89), .val (.int (Int32.ofNat i)), .val (.int (Int32.ofNat j)), .val (.int x139), .val (.long x199), .second, .val .null, .unset] (hb hby at_450) rfl rfl ?_
      refine Own.iload X207 hx (hb hby at_452) rfl ?_
      refine Own.iload X207 hx (hb hby at_454) rfl ?_
      exact k)
    obtain ⟨x224, hx224⟩ : ∃ z : Int32, z = (if (Int32.ofNat i) < (Int32.ofNat j) then (if (9 : Int32) < ((Int32.ofNat j) - (Int32.ofNat i)) then (1 : Int32) else (if x139 = (0 : Int32) then (0 : Int32) else (1 : Int32))) else (1 : Int32)) := ⟨_, rfl⟩
    obtain ⟨T225, X225, e225, K225⟩ : ∃ T' : State, Stand p l e room_1 s m #[(.int p0), (.int p1), (.int p2), (.int p3), (.int p4), (.int p5)] below meth c T' L207 16 173 ∧ T'.heap = h207 ∧ ∀ t, Steps p.tables e below (T'.setTop (mkF m 479 #[.val (.int p0), .val (.int p1), .val (.int p2), .val (.int p3), .val (.int p4), .val (.int p5), .val (.ref b2), .val (.ref b89), .val (.int (Int32.ofNat i)), .val (.int (Int32.ofNat j)), .val (.int x139), .val (.long x199), .second, .val .null, .unset] [(.int x224)])) t → Steps p.tables e below B0 t := by
      by_cases hc211 : (Int32.ofNat i) < (Int32.ofNat j)
      · have K212 : ∀ t, Steps p.tables e below (T207.setTop (mkF m 466 #[.val (.int p0), .val (.int p1), .val (.int p2), .val (.int p3), .val (.int p4), .val (.int p5), .val (.ref b2), .val (.ref b89), .val (.int (Int32.ofNat i)), .val (.int (Int32.ofNat j)), .val (.int x139), .val (.long x199), .second, .val .null, .unset] [(.int (9 : Int32)), (.int ((Int32.ofNat j) - (Int32.ofNat i)))])) t → Steps p.tables e below B0 t := fun t k => K210 t (by
          refine Own.icmpNo X207 hx (hb hby at_456) (tlt hc211).2.2.2 ?_
          refine Own.iload X207 hx (hb hby at_459) rfl ?_
          refine Own.iload X207 hx (hb hby at_461) rfl ?_
          refine Own.isub X207 hx (hb hby at_463) ?_
          refine Own.bipush X207 hx (9 : Int32) (hb hby at_464) rfl ?_
          exact k)
        obtain ⟨x221, hx221⟩ : ∃ z : Int32, z = (if (9 : Int32) < ((Int32.ofNat j) - (Int32.ofNat i)) then (1 : Int32) else (if x139 = (0 : Int32) then (0 : Int32) else (1 : Int32))) := ⟨_, rfl⟩
        obtain ⟨T222, X222, e222, K222⟩ : ∃ T' : State, Stand p l e room_1 s m #[(.int p0), (.int p1), (.int p2), (.int p3), (.int p4), (.int p5)] below meth c T' L207 16 173 ∧ T'.heap = h207 ∧ ∀ t, Steps p.tables e below (T'.setTop (mkF m 479 #[.val (.int p0), .val (.int p1), .val (.int p2), .val (.int p3), .val (.int p4), .val (.int p5), .val (.ref b2), .val (.ref b89), .val (.int (Int32.ofNat i)), .val (.int (Int32.ofNat j)), .val (.int x139), .val (.long x199), .second, .val .null, .unset] [(.int x221)])) t → Steps p.tables e below B0 t := by
          by_cases hc213 : (9 : Int32) < ((Int32.ofNat j) - (Int32.ofNat i))
          · have K214 : ∀ t, Steps p.tables e below (T207.setTop (mkF m 479 #[.val (.int p0), .val (.int p1), .val (.int p2), .val (.int p3), .val (.int p4), .val (.int p5), .val (.ref b2), .val (.ref b89), .val (.int (Int32.ofNat i)), .val (.int (Int32.ofNat j)), .val (.int x139), .val (.long x199), .second, .val .null, .unset] [(.int (1 : Int32))])) t → Steps p.tables e below B0 t := fun t k => K212 t (by
              refine Own.icmpYes X207 hx 474 (hb hby at_466) (tlt hc213).2.2.1 (by decide) (by decide) ?_
              refine Own.iconst X207 hx (1 : Int32) (hb hby at_474) rfl ?_
              refine Own.goto X207 hx 479 (hb hby at_475) (by decide) (by decide) ?_
              exact k)
            exact ⟨T207, X207, e207, fun t k => K214 t (by rw [hx221, if_pos hc213] at k; exact k)⟩
          · have K215 : ∀ t, Steps p.tables e below (T207.setTop (mkF m 471 #[.val (.int p0), .val (.int p1), .val (.int p2), .val (.int p3), .val (.int p4), .val (.int p5), .val (.ref b2), .val (.ref b89), .val (.int (Int32.ofNat i)), .val (.int (Int32.ofNat j)), .val (.int x139), .val (.long x199), .second, .val .null, .unset] [(.int x139)])) t → Steps p.tables e below B0 t := fun t k => K212 t (by
              refine Own.icmpNo X207 hx (hb hby at_466) (flt hc213).2.2.1 ?_
              refine Own.iload X207 hx (hb hby at_469) rfl ?_
              exact k)
            obtain ⟨x219, hx219⟩ : ∃ z : Int32, z = (if x139 = (0 : Int32) then (0 : Int32) else (1 : Int32)) := ⟨_, rfl⟩
            obtain ⟨T220, X220, e220, K220⟩ : ∃ T' : State, Stand p l e room_1 s m #[(.int p0), (.int p1), (.int p2), (.int p3), (.int p4), (.int p5)] below meth c T' L207 16 173 ∧ T'.heap = h207 ∧ ∀ t, Steps p.tables e below (T'.setTop (mkF m 479 #[.val (.int p0), .val (.int p1), .val (.int p2), .val (.int p3), .val (.int p4), .val (.int p5), .val (.ref b2), .val (.ref b89), .val (.int (Int32.ofNat i)), .val (.int (Int32.ofNat j)), .val (.int x139), .val (.long x199), .second, .val .null, .unset] [(.int x219)])) t → Steps p.tables e below B0 t := by
              by_cases hc216 : x139 = (0 : Int32)
              · have K217 : ∀ t, Steps p.tables e below (T207.setTop (mkF m 479 #[.val (.int p0), .val (.int p1), .val (.int p2), .val (.int p3), .val (.int p4), .val (.int p5), .val (.ref b2), .val (.ref b89), .val (.int (Int32.ofNat i)), .val (.int (Int32.ofNat j)), .val (.int x139), .val (.long x199), .second, .val .null, .unset] [(.int (0 : Int32))])) t → Steps p.tables e below B0 t := fun t k => K215 t (by
                  refine Own.ifYes X207 hx 478 (hb hby at_471) ((if0 _ _).trans (teq hc216).1) (by decide) (by decide) ?_
                  refine Own.iconst X207 hx (0 : Int32) (hb hby at_478) rfl ?_
                  exact k)
                exact ⟨T207, X207, e207, fun t k => K217 t (by rw [hx219, if_pos hc216] at k; exact k)⟩
              · have K218 : ∀ t, Steps p.tables e below (T207.setTop (mkF m 479 #[.val (.int p0), .val (.int p1), .val (.int p2), .val (.int p3), .val (.int p4), .val (.int p5), .val (.ref b2), .val (.ref b89), .val (.int (Int32.ofNat i)), .val (.int (Int32.ofNat j)), .val (.int x139), .val (.long x199), .second, .val .null, .unset] [(.int (1 : Int32))])) t → Steps p.tables e below B0 t := fun t k => K215 t (by
                  refine Own.ifNo X207 hx (hb hby at_471) ((if0 _ _).trans (feq hc216).1) ?_
                  refine Own.iconst X207 hx (1 : Int32) (hb hby at_474) rfl ?_
                  refine Own.goto X207 hx 479 (hb hby at_475) (by decide) (by decide) ?_
                  exact k)
                exact ⟨T207, X207, e207, fun t k => K218 t (by rw [hx219, if_neg hc216] at k; exact k)⟩
            exact ⟨T220, X220, e220, fun t k => K220 t (by subst hx219; rw [hx221, if_neg hc213] at k; exact k)⟩
        exact ⟨T222, X222, e222, fun t k => K222 t (by subst hx221; rw [hx224, if_pos hc211] at k; exact k)⟩
      · have K223 : ∀ t, Steps p.tables e below (T207.setTop (mkF m 479 #[.val (.int p0), .val (.int p1), .val (.int p2), .val (.int p3), .val (.int p4), .val (.int p5), .val (.ref b2), .val (.ref b89), .val (.int (Int32.ofNat i)), .val (.int (Int32.ofNat j)), .val (.int x139), .val (.long x199), .second, .val .null, .unset] [(.int (1 : Int32))])) t → Steps p.tables e below B0 t := fun t k => K210 t (by
          refine Own.icmpYes X207 hx 474 (hb hby at_456) (flt hc211).2.2.2 (by decide) (by decide) ?_
          refine Own.iconst X207 hx (1 : Int32) (hb hby at_474) rfl ?_
          refine Own.goto X207 hx 479 (hb hby at_475) (by decide) (by decide) ?_
          exact k)
        exact ⟨T207, X207, e207, fun t k => K223 t (by rw [hx224, if_neg hc211] at k; exact k)⟩
    have K226 : ∀ t, Steps p.tables e below (T225.setTop (mkF m 483 #[.val (.int p0), .val (.int p1), .val (.int p2), .val (.int p3), .val (.int p4), .val (.int p5), .val (.ref b2), .val (.ref b89), .val (.int (Int32.ofNat i)), .val (.int (Int32.ofNat j)), .val (.int x139), .val (.long x199), .second, .val .null, .val (.int x224)] [(.int x224)])) t → Steps p.tables e below B0 t := fun t k => K225 t (by
      refine Own.istore X225 hx #[.val (.int p0), .val (.int p1), .val (.int p2), .val (.int p3), .val (.int p4), .val (.int p5), .val (.ref b2), .val (.ref b89), .val (.int (Int32.ofNat i)), .val (.int (Int32.ofNat j)), .val (.int x139), .val (.long x199), .second, .val .null, .val (.int x224)] (hb hby at_479) rfl ?_
      refine Own.iload X225 hx (hb hby at_481) rfl ?_
      exact k)
    by_cases hc227 : x224 = (0 : Int32)
    · have K228 : ∀ t, Steps p.tables e below (T225.setTop (mkF m 518 #[.val (.int p0), .val (.int p1), .val (.int p2), .val (.int p3), .val (.int p4), .val (.int p5), .val (.ref b2), .val (.ref b89), .val (.int (Int32.ofNat i)), .val (.int (Int32.ofNat j)), .val (.int x139), .val (.long x199), .second, .val .null, .val (.int x224)] [(.int (0 : Int32))])) t → Steps p.tables e below B0 t := fun t k => K226 t (by
        refine Own.ifYes X225 hx 497 (hb hby at_483) ((if0 _ _).trans (teq hc227).1) (by decide) (by decide) ?_
        refine Own.aload X225 hx (hb hby at_497) rfl rfl ?_
        refine Own.ifnullYes X225 hx 517 (hb hby at_499) (by decide) (by decide) ?_
        refine Own.iconst X225 hx (0 : Int32) (hb hby at_517) rfl ?_
        exact k)
      exact Own.finN X225 hx (BodyLoose.notSynchronized Bd) Bd.returns (by simp) (hb hby at_518) K228 (by decide) (by decide) ⟨(absurd hc227 (by rw [(show x224 = own_ref i j x139 from hx224), (show x139 = own_bad i j cs from hx139)]; exact own_ref_no hno (by omega) (by omega))), hn0 ▸ N207⟩
    · have K229 : ∀ t, Steps p.tables e below (T225.setTop (mkF m 496 #[.val (.int p0), .val (.int p1), .val (.int p2), .val (.int p3), .val (.int p4), .val (.int p5), .val (.ref b2), .val (.ref b89), .val (.int (Int32.ofNat i)), .val (.int (Int32.ofNat j)), .val (.int x139), .val (.long x199), .second, .val .null, .val (.int x224)] [(.int (1 : Int32))])) t → Steps p.tables e below B0 t := fun t k => K226 t (by
        refine Own.ifNo X225 hx (hb hby at_483) ((if0 _ _).trans (feq hc227).1) ?_
        refine Own.aload X225 hx (hb hby at_486) rfl rfl ?_
        refine Own.ifnonnullNo X225 hx (hb hby at_488) ?_
        refine Own.iconst X225 hx (1 : Int32) (hb hby at_491) rfl ?_
        refine Own.goto X225 hx 496 (hb hby at_492) (by decide) (by decide) ?_
        exact k)
      exact Own.finN X225 hx (BodyLoose.notSynchronized Bd) Bd.returns (by simp) (hb hby at_496) K229 (by decide) (by decide) ⟨rfl, hn0 ▸ N207⟩
  · have K230 : ∀ t, Steps p.tables e below (T207.setTop (mkF m 450 #[.val (.int p0), .val (.int p1), .val (.int p2), .val (.int p3), .val (.int p4), .val (.int p5), .val (.ref b2), .val (.ref b89), .val (.int (Int32.ofNat i)), .val (.int (Int32.ofNat j)), .val (.int x139), .val (.long x199), .second, .unset, .unset] [(.ref bi)])) t → Steps p.tables e below B0 t := fun t k => K200 t (st207 t k)
    have K231 : ∀ t, Steps p.tables e below (T207.setTop (mkF m 456 #[.val (.int p0), .val (.int p1), .val (.int p2), .val (.int p3), .val (.int p4), .val (.int p5), .val (.ref b2), .val (.ref b89), .val (.int (Int32.ofNat i)), .val (.int (Int32.ofNat j)), .val (.int x139), .val (.long x199), .second, .val (.ref bi), .unset] [(.int (Int32.ofNat i)), (.int (Int32.ofNat j))])) t → Steps p.tables e below B0 t := fun t k => K230 t (by
      refine Own.astore X207 hx #[.val (.int p0), .val (.int p1), .val (.int p2), .val (.int p3), .val (.int p4), .val (.int p5), .val (.ref b2), .val (.ref b89), .val (.int (Int32.ofNat i)), .val (.int (Int32.ofNat j)), .val (.int x139), .val (.long x199), .second, .val (.ref bi), .unset] (hb hby at_450) rfl rfl ?_
      refine Own.iload X207 hx (hb hby at_452) rfl ?_
      refine Own.iload X207 hx (hb hby at_454) rfl ?_
      exact k)
    obtain ⟨x245, hx245⟩ : ∃ z : Int32, z = (if (Int32.ofNat i) < (Int32.ofNat j) then (if (9 : Int32) < ((Int32.ofNat j) - (Int32.ofNat i)) then (1 : Int32) else (if x139 = (0 : Int32) then (0 : Int32) else (1 : Int32))) else (1 : Int32)) := ⟨_, rfl⟩
    obtain ⟨T246, X246, e246, K246⟩ : ∃ T' : State, Stand p l e room_1 s m #[(.int p0), (.int p1), (.int p2), (.int p3), (.int p4), (.int p5)] below meth c T' L207 16 173 ∧ T'.heap = h207 ∧ ∀ t, Steps p.tables e below (T'.setTop (mkF m 479 #[.val (.int p0), .val (.int p1), .val (.int p2), .val (.int p3), .val (.int p4), .val (.int p5), .val (.ref b2), .val (.ref b89), .val (.int (Int32.ofNat i)), .val (.int (Int32.ofNat j)), .val (.int x139), .val (.long x199), .second, .val (.ref bi), .unset] [(.int x245)])) t → Steps p.tables e below B0 t := by
      by_cases hc232 : (Int32.ofNat i) < (Int32.ofNat j)
      · have K233 : ∀ t, Steps p.tables e below (T207.setTop (mkF m 466 #[.val (.int p0), .val (.int p1), .val (.int p2), .val (.int p3), .val (.int p4), .val (.int p5), .val (.ref b2), .val (.ref b89), .val (.int (Int32.ofNat i)), .val (.int (Int32.ofNat j)), .val (.int x139), .val (.long x199), .second, .val (.ref bi), .unset] [(.int (9 : Int32)), (.int ((Int32.ofNat j) - (Int32.ofNat i)))])) t → Steps p.tables e below B0 t := fun t k => K231 t (by
          refine Own.icmpNo X207 hx (hb hby at_456) (tlt hc232).2.2.2 ?_
          refine Own.iload X207 hx (hb hby at_459) rfl ?_
          refine Own.iload X207 hx (hb hby at_461) rfl ?_
          refine Own.isub X207 hx (hb hby at_463) ?_
          refine Own.bipush X207 hx (9 : Int32) (hb hby at_464) rfl ?_
          exact k)
        obtain ⟨x242, hx242⟩ : ∃ z : Int32, z = (if (9 : Int32) < ((Int32.ofNat j) - (Int32.ofNat i)) then (1 : Int32) else (if x139 = (0 : Int32) then (0 : Int32) else (1 : Int32))) := ⟨_, rfl⟩
        obtain ⟨T243, X243, e243, K243⟩ : ∃ T' : State, Stand p l e room_1 s m #[(.int p0), (.int p1), (.int p2), (.int p3), (.int p4), (.int p5)] below meth c T' L207 16 173 ∧ T'.heap = h207 ∧ ∀ t, Steps p.tables e below (T'.setTop (mkF m 479 #[.val (.int p0), .val (.int p1), .val (.int p2), .val (.int p3), .val (.int p4), .val (.int p5), .val (.ref b2), .val (.ref b89), .val (.int (Int32.ofNat i)), .val (.int (Int32.ofNat j)), .val (.int x139), .val (.long x199), .second, .val (.ref bi), .unset] [(.int x242)])) t → Steps p.tables e below B0 t := by
          by_cases hc234 : (9 : Int32) < ((Int32.ofNat j) - (Int32.ofNat i))
          · have K235 : ∀ t, Steps p.tables e below (T207.setTop (mkF m 479 #[.val (.int p0), .val (.int p1), .val (.int p2), .val (.int p3), .val (.int p4), .val (.int p5), .val (.ref b2), .val (.ref b89), .val (.int (Int32.ofNat i)), .val (.int (Int32.ofNat j)), .val (.int x139), .val (.long x199), .second, .val (.ref bi), .unset] [(.int (1 : Int32))])) t → Steps p.tables e below B0 t := fun t k => K233 t (by
              refine Own.icmpYes X207 hx 474 (hb hby at_466) (tlt hc234).2.2.1 (by decide) (by decide) ?_
              refine Own.iconst X207 hx (1 : Int32) (hb hby at_474) rfl ?_
              refine Own.goto X207 hx 479 (hb hby at_475) (by decide) (by decide) ?_
              exact k)
            exact ⟨T207, X207, e207, fun t k => K235 t (by rw [hx242, if_pos hc234] at k; exact k)⟩
          · have K236 : ∀ t, Steps p.tables e below (T207.setTop (mkF m 471 #[.val (.int p0), .val (.int p1), .val (.int p2), .val (.int p3), .val (.int p4), .val (.int p5), .val (.ref b2), .val (.ref b89), .val (.int (Int32.ofNat i)), .val (.int (Int32.ofNat j)), .val (.int x139), .val (.long x199), .second, .val (.ref bi), .unset] [(.int x139)])) t → Steps p.tables e below B0 t := fun t k => K233 t (by
              refine Own.icmpNo X207 hx (hb hby at_466) (flt hc234).2.2.1 ?_
              refine Own.iload X207 hx (hb hby at_469) rfl ?_
              exact k)
            obtain ⟨x240, hx240⟩ : ∃ z : Int32, z = (if x139 = (0 : Int32) then (0 : Int32) else (1 : Int32)) := ⟨_, rfl⟩
            obtain ⟨T241, X241, e241, K241⟩ : ∃ T' : State, Stand p l e room_1 s m #[(.int p0), (.int p1), (.int p2), (.int p3), (.int p4), (.int p5)] below meth c T' L207 16 173 ∧ T'.heap = h207 ∧ ∀ t, Steps p.tables e below (T'.setTop (mkF m 479 #[.val (.int p0), .val (.int p1), .val (.int p2), .val (.int p3), .val (.int p4), .val (.int p5), .val (.ref b2), .val (.ref b89), .val (.int (Int32.ofNat i)), .val (.int (Int32.ofNat j)), .val (.int x139), .val (.long x199), .second, .val (.ref bi), .unset] [(.int x240)])) t → Steps p.tables e below B0 t := by
              by_cases hc237 : x139 = (0 : Int32)
              · have K238 : ∀ t, Steps p.tables e below (T207.setTop (mkF m 479 #[.val (.int p0), .val (.int p1), .val (.int p2), .val (.int p3), .val (.int p4), .val (.int p5), .val (.ref b2), .val (.ref b89), .val (.int (Int32.ofNat i)), .val (.int (Int32.ofNat j)), .val (.int x139), .val (.long x199), .second, .val (.ref bi), .unset] [(.int (0 : Int32))])) t → Steps p.tables e below B0 t := fun t k => K236 t (by
                  refine Own.ifYes X207 hx 478 (hb hby at_471) ((if0 _ _).trans (teq hc237).1) (by decide) (by decide) ?_
                  refine Own.iconst X207 hx (0 : Int32) (hb hby at_478) rfl ?_
                  exact k)
                exact ⟨T207, X207, e207, fun t k => K238 t (by rw [hx240, if_pos hc237] at k; exact k)⟩
              · have K239 : ∀ t, Steps p.tables e below (T207.setTop (mkF m 479 #[.val (.int p0), .val (.int p1), .val (.int p2), .val (.int p3), .val (.int p4), .val (.int p5), .val (.ref b2), .val (.ref b89), .val (.int (Int32.ofNat i)), .val (.int (Int32.ofNat j)), .val (.int x139), .val (.long x199), .second, .val (.ref bi), .unset] [(.int (1 : Int32))])) t → Steps p.tables e below B0 t := fun t k => K236 t (by
                  refine Own.ifNo X207 hx (hb hby at_471) ((if0 _ _).trans (feq hc237).1) ?_
                  refine Own.iconst X207 hx (1 : Int32) (hb hby at_474) rfl ?_
                  refine Own.goto X207 hx 479 (hb hby at_475) (by decide) (by decide) ?_
                  exact k)
                exact ⟨T207, X207, e207, fun t k => K239 t (by rw [hx240, if_neg hc237] at k; exact k)⟩
            exact ⟨T241, X241, e241, fun t k => K241 t (by subst hx240; rw [hx242, if_neg hc234] at k; exact k)⟩
        exact ⟨T243, X243, e243, fun t k => K243 t (by subst hx242; rw [hx245, if_pos hc232] at k; exact k)⟩
      · have K244 : ∀ t, Steps p.tables e below (T207.setTop (mkF m 479 #[.val (.int p0), .val (.int p1), .val (.int p2), .val (.int p3), .val (.int p4), .val (.int p5), .val (.ref b2), .val (.ref b89), .val (.int (Int32.ofNat i)), .val (.int (Int32.ofNat j)), .val (.int x139), .val (.long x199), .second, .val (.ref bi), .unset] [(.int (1 : Int32))])) t → Steps p.tables e below B0 t := fun t k => K231 t (by
          refine Own.icmpYes X207 hx 474 (hb hby at_456) (flt hc232).2.2.2 (by decide) (by decide) ?_
          refine Own.iconst X207 hx (1 : Int32) (hb hby at_474) rfl ?_
          refine Own.goto X207 hx 479 (hb hby at_475) (by decide) (by decide) ?_
          exact k)
        exact ⟨T207, X207, e207, fun t k => K244 t (by rw [hx245, if_neg hc232] at k; exact k)⟩
    have K247 : ∀ t, Steps p.tables e below (T246.setTop (mkF m 483 #[.val (.int p0), .val (.int p1), .val (.int p2), .val (.int p3), .val (.int p4), .val (.int p5), .val (.ref b2), .val (.ref b89), .val (.int (Int32.ofNat i)), .val (.int (Int32.ofNat j)), .val (.int x139), .val (.long x199), .second, .val (.ref bi), .val (.int x245)] [(.int x245)])) t → Steps p.tables e below B0 t := fun t k => K246 t (by
      refine Own.istore X246 hx #[.val (.int p0), .val (.int p1), .val (.int p2), .val (.int p3), .val (.int p4), .val (.int p5), .val (.ref b2), .val (.ref b89), .val (.int (Int32.ofNat i)), .val (.int (Int32.ofNat j)), .val (.int x139), .val (.long x199), .second, .val (.ref bi), .val (.int x245)] (hb hby at_479) rfl ?_
      refine Own.iload X246 hx (hb hby at_481) rfl ?_
      exact k)
    by_cases hc248 : x245 = (0 : Int32)
    · have K249 : ∀ t, Steps p.tables e below (T246.setTop (mkF m 504 #[.val (.int p0), .val (.int p1), .val (.int p2), .val (.int p3), .val (.int p4), .val (.int p5), .val (.ref b2), .val (.ref b89), .val (.int (Int32.ofNat i)), .val (.int (Int32.ofNat j)), .val (.int x139), .val (.long x199), .second, .val (.ref bi), .val (.int x245)] [(.ref bi)])) t → Steps p.tables e below B0 t := fun t k => K247 t (by
        refine Own.ifYes X246 hx 497 (hb hby at_483) ((if0 _ _).trans (teq hc248).1) (by decide) (by decide) ?_
        refine Own.aload X246 hx (hb hby at_497) rfl rfl ?_
        refine Own.ifnullNo X246 hx (hb hby at_499) ?_
        refine Own.aload X246 hx (hb hby at_502) rfl rfl ?_
        exact k)
      obtain ⟨T250, X250, e250, st250⟩ := Own.callVP (Ls := #[.val (.int p0), .val (.int p1), .val (.int p2), .val (.int p3), .val (.int p4), .val (.int p5), .val (.ref b2), .val (.ref b89), .val (.int (Int32.ofNat i)), .val (.int (Int32.ofNat j)), .val (.int x139), .val (.long x199), .second, .val (.ref bi), .val (.int x245)]) X246 hx hZ e246 bi [] [] (c20 l Z a0 hw bi ((own_dv cs 0 i (j - i)).toInt32) h207 Fi) hown Ei (hw _ (List.mem_of_getElem? (i := 97) rfl)) (hw _ (List.mem_of_getElem? (i := 98) rfl)) (hw _ (List.mem_of_getElem? (i := 100) rfl)) (hw _ (List.mem_of_getElem? (i := 99) rfl)) (hw _ (List.mem_of_getElem? (i := 92) rfl)) (hw _ (List.mem_of_getElem? (i := 101) rfl)) (by decide) 0 rfl rfl (by decide) (by decide) (by decide) (by decide) (by rw [hml]; rfl) (lenOf pd_11 rfl) rfl (Nat.le_of_eq rfl) (hb hby at_504)
      have K251 : ∀ t, Steps p.tables e below (T250.setTop (mkF m 507 #[.val (.int p0), .val (.int p1), .val (.int p2), .val (.int p3), .val (.int p4), .val (.int p5), .val (.ref b2), .val (.ref b89), .val (.int (Int32.ofNat i)), .val (.int (Int32.ofNat j)), .val (.int x139), .val (.long x199), .second, .val (.ref bi), .val (.int x245)] [(.long (((own_dv cs 0 i (j - i)).toInt32).toInt64))])) t → Steps p.tables e below B0 t := fun t k => K249 t (st250 t k)
      have K252 : ∀ t, Steps p.tables e below (T250.setTop (mkF m 510 #[.val (.int p0), .val (.int p1), .val (.int p2), .val (.int p3), .val (.int p4), .val (.int p5), .val (.ref b2), .val (.ref b89), .val (.int (Int32.ofNat i)), .val (.int (Int32.ofNat j)), .val (.int x139), .val (.long x199), .second, .val (.ref bi), .val (.int x245)] [(.int (lcmpW (((own_dv cs 0 i (j - i)).toInt32).toInt64) x199))])) t → Steps p.tables e below B0 t := fun t k => K251 t (by
        refine Own.lload X250 hx (hb hby at_507) rfl ?_
        refine Own.lcmp X250 hx (hb hby at_509) ?_
        exact k)
      obtain ⟨x256, hx256⟩ : ∃ z : Int32, z = (if (((own_dv cs 0 i (j - i)).toInt32).toInt64) = x199 then (1 : Int32) else (0 : Int32)) := ⟨_, rfl⟩
      obtain ⟨T257, X257, e257, K257⟩ : ∃ T' : State, Stand p l e room_1 s m #[(.int p0), (.int p1), (.int p2), (.int p3), (.int p4), (.int p5)] below meth c T' L207 16 173 ∧ T'.heap = h207 ∧ ∀ t, Steps p.tables e below (T'.setTop (mkF m 518 #[.val (.int p0), .val (.int p1), .val (.int p2), .val (.int p3), .val (.int p4), .val (.int p5), .val (.ref b2), .val (.ref b89), .val (.int (Int32.ofNat i)), .val (.int (Int32.ofNat j)), .val (.int x139), .val (.long x199), .second, .val (.ref bi), .val (.int x245)] [(.int x256)])) t → Steps p.tables e below B0 t := by
        by_cases hc253 : (((own_dv cs 0 i (j - i)).toInt32).toInt64) = x199
        · have K254 : ∀ t, Steps p.tables e below (T250.setTop (mkF m 518 #[.val (.int p0), .val (.int p1), .val (.int p2), .val (.int p3), .val (.int p4), .val (.int p5), .val (.ref b2), .val (.ref b89), .val (.int (Int32.ofNat i)), .val (.int (Int32.ofNat j)), .val (.int x139), .val (.long x199), .second, .val (.ref bi), .val (.int x245)] [(.int (1 : Int32))])) t → Steps p.tables e below B0 t := fun t k => K252 t (by
            refine Own.ifNo X250 hx (hb hby at_510) (Jvm.Free.XT.ll_ne_f hc253) ?_
            refine Own.iconst X250 hx (1 : Int32) (hb hby at_513) rfl ?_
            refine Own.goto X250 hx 518 (hb hby at_514) (by decide) (by decide) ?_
            exact k)
          exact ⟨T250, X250, e250, fun t k => K254 t (by rw [hx256, if_pos hc253] at k; exact k)⟩
        · have K255 : ∀ t, Steps p.tables e below (T250.setTop (mkF m 518 #[.val (.int p0), .val (.int p1), .val (.int p2), .val (.int p3), .val (.int p4), .val (.int p5), .val (.ref b2), .val (.ref b89), .val (.int (Int32.ofNat i)), .val (.int (Int32.ofNat j)), .val (.int x139), .val (.long x199), .second, .val (.ref bi), .val (.int x245)] [(.int (0 : Int32))])) t → Steps p.tables e below B0 t := fun t k => K252 t (by
            refine Own.ifYes X250 hx 517 (hb hby at_510) (Jvm.Free.XT.ll_ne_t hc253) (by decide) (by decide) ?_
            refine Own.iconst X250 hx (0 : Int32) (hb hby at_517) rfl ?_
            exact k)
          exact ⟨T250, X250, e250, fun t k => K255 t (by rw [hx256, if_neg hc253] at k; exact k)⟩
      exact Own.finN X257 hx (BodyLoose.notSynchronized Bd) Bd.returns (by simp) (hb hby at_518) K257 (by decide) (by decide) ⟨(by subst hx256; rw [if_pos (show (((own_dv cs 0 i (j - i)).toInt32).toInt64) = x199 from by rw [show x199 = own_sum i j cs from hx199]; exact own_sum_eq hyes (by omega))]; rfl), hn0 ▸ N207⟩
    · have K258 : ∀ t, Steps p.tables e below (T246.setTop (mkF m 496 #[.val (.int p0), .val (.int p1), .val (.int p2), .val (.int p3), .val (.int p4), .val (.int p5), .val (.ref b2), .val (.ref b89), .val (.int (Int32.ofNat i)), .val (.int (Int32.ofNat j)), .val (.int x139), .val (.long x199), .second, .val (.ref bi), .val (.int x245)] [(.int (0 : Int32))])) t → Steps p.tables e below B0 t := fun t k => K247 t (by
        refine Own.ifNo X246 hx (hb hby at_483) ((if0 _ _).trans (feq hc248).1) ?_
        refine Own.aload X246 hx (hb hby at_486) rfl rfl ?_
        refine Own.ifnonnullYes X246 hx 495 (hb hby at_488) (by decide) (by decide) ?_
        refine Own.iconst X246 hx (0 : Int32) (hb hby at_495) rfl ?_
        exact k)
      exact Own.finN X246 hx (BodyLoose.notSynchronized Bd) Bd.returns (by simp) (hb hby at_496) K258 (by decide) (by decide) ⟨(absurd (by rw [(show x245 = own_ref i j x139 from hx245), (show x139 = own_bad i j cs from hx139)]; exact own_ref_yes hyes (by omega)) hc248), hn0 ▸ N207⟩

theorem own_eqv {args : Array Value} {s : State} {a b : Term} {n : Int32} {idx : List Nat} (hb : b.eval args s none idx s = some (.int n)) (h : (Jvm.Cond.eq a b).value args s none s idx = some true) : a.eval args s none idx s = some (.int n) := by
  simp only [Cond.value, hb] at h
  cases ha : a.eval args s none idx s with
  | none => simp [ha] at h
  | some x => cases x <;> simp [ha] at h
              rw [h]
theorem own_eqi {args : Array Value} {s : State} {a : Term} {n : Int32} {idx : List Nat} (h : (Jvm.Cond.eq a (Jvm.Term.int n)).value args s none s idx = some true) : a.eval args s none idx s = some (.int n) := own_eqv (Term.int_eval n) h
theorem own_lenT {args : Array Value} {s : State} {t : Term} {w : Addr} {cl : Cell} {n : Int32} (ht : t.eval args s none [] s = some (.ref w)) (ha : s.arrayAt? w = some cl) (h : (Jvm.Term.length t).eval args s none [] s = some (.int n)) : cl.slots.size < 2 ^ 31 ∧ cl.slots.size.toInt32 = n := by
  simpa [Term.eval, ht, ha] using h
theorem own_cache_start {args : Array Value} {s : State} {w : Addr} (ev : (Jvm.Term.static "java/lang/Integer$IntegerCache" "cache" "[Ljava/lang/Integer;").eval args s none [] s = some (.ref w))
    (h1 : (Jvm.Cond.arrayOf (Jvm.Term.static "java/lang/Integer$IntegerCache" "cache" "[Ljava/lang/Integer;") (.object "java/lang/Integer")).value args s none s [] = some true) (h2 : (Jvm.Cond.eq (Jvm.Term.length (Jvm.Term.static "java/lang/Integer$IntegerCache" "cache" "[Ljava/lang/Integer;")) (Jvm.Term.int (256 : Int32))).value args s none s [] = some true)
    (h3 : (Jvm.Cond.all (Jvm.Term.static "java/lang/Integer$IntegerCache" "cache" "[Ljava/lang/Integer;") (Jvm.Cond.and (Jvm.Cond.exactly (Jvm.Term.elem (Jvm.Term.static "java/lang/Integer$IntegerCache" "cache" "[Ljava/lang/Integer;") (Jvm.Term.index 0)) "java/lang/Integer") (Jvm.Cond.eq (Jvm.Term.field (Jvm.Term.elem (Jvm.Term.static "java/lang/Integer$IntegerCache" "cache" "[Ljava/lang/Integer;") (Jvm.Term.index 0)) "java/lang/Integer" "value" "I") (Jvm.Term.sub (Jvm.Term.index 0) (Jvm.Term.int (128 : Int32)))))).value args s none s [] = some true) : own_Cache s s.heap w := by
  obtain ⟨cl, A⟩ := Arr.start ev h1
  have hat : s.arrayAt? w = some cl := Arr.fin (Vm.Alike.refl _) A
  have q := own_lenT ev hat (own_eqi h2)
  have hsz : cl.slots.size = 256 := by
    have q2 := congrArg Int32.toInt q.2
    rw [show cl.slots.size.toInt32 = Int32.ofNat cl.slots.size from rfl, Int32.toInt_ofNat_small q.1, show (256 : Int32).toInt = 256 by decide] at q2
    omega
  refine ⟨cl, A, hsz, fun k hk => ?_⟩
  have hc := Cond.all_elim ev hat h3 k (by omega)
  obtain ⟨c1, c2⟩ := and_e hc
  have evk : (Jvm.Term.static "java/lang/Integer$IntegerCache" "cache" "[Ljava/lang/Integer;").eval args s none [k] s = some (.ref w) := ev
  obtain ⟨b, eb⟩ := exa_v c1
  have ej : (Term.index 0).eval args s none [k] s = some (.int k.toInt32) := Term.index_eval k
  have ein := (elem_in eb evk ej A.1).2
  rw [show k.toInt32.toNatClampNeg = k from Own.ofNat_clamp (by omega)] at ein
  have es : (Jvm.Term.sub (Jvm.Term.index 0) (Jvm.Term.int (128 : Int32))).eval args s none [k] s = some (.int (k.toInt32 - 128)) := rfl
  have hv := own_eqv es c2
  rw [fld_at eb] at hv
  exact ⟨b, ein, exa_at eb c1, Fld.start hv⟩

set_option maxRecDepth 65536 in
set_option maxHeartbeats 40000000 in
theorem comes_1 {Post : Tables → Env → Array Value → State → Outcome → State → Prop} (hpost : ∀ tb e args s v u, (limb_1_1.after args s (.returned v) u = true ∧ limb_1_2.after args s (.returned v) u = true ∧ True) → FrameEnd s (.returned v) u (Jvm.fieldLocs frame_1_writes args s ++ Jvm.arrayLocs frame_1_arrays args s ++ Jvm.staticLocs frame_1_statics s) 40 448 → Post tb e args s (.returned v) u) :
    ArmFor flags0 classFile x code maxLocals ret World_1 tables_1 room_1 Calls_1 rest_1 Pre_1 Post := by
  intro l hfl _ _ p e ha hc hk s m args below hf hA hF happ hP
  obtain ⟨hcalls, hrest, hpre⟩ := hP
  obtain ⟨-, -, -, hnamed, -, -, -, hat⟩ := (Spec.applies_iff hf).mp happ
  obtain ⟨hg, hn⟩ := and_e (Cond.before_iff.mp (show (Jvm.Cond.and given_1 narrow_1).before args s = true from hpre))
  obtain ⟨gA0, gB0⟩ := and_e hg
  obtain ⟨gA1, gB1⟩ := and_e gB0
  obtain ⟨gA2, gB2⟩ := and_e gB1
  obtain ⟨gA3, gB3⟩ := and_e gB2
  obtain ⟨gA4, gB4⟩ := and_e gB3
  obtain ⟨gA5, gB5⟩ := and_e gB4
  obtain ⟨w0, w1, w2, w3, w4, w5, rfl⟩ : ∃ w0 w1 w2 w3 w4 w5 : Value, args = #[w0, w1, w2, w3, w4, w5] := by
    have hs : args.size = 6 := by simpa [Cond.value, given_1] using gA0
    obtain ⟨L⟩ := args
    match L, hs with
    | [w0, w1, w2, w3, w4, w5], _ => exact ⟨w0, w1, w2, w3, w4, w5, rfl⟩
  have hw := fun d (hd : d ∈ tables_1) => atoms_spec (ws := Jvm.Cond.code x code maxLocals ret :: tables_1) hat d (List.mem_cons_of_mem _ hd)
  have hfit : Fit s := fun {y c} hc i hi => by
    obtain ⟨ha, rfl⟩ := Array.getElem?_eq_some_iff.mp hc
    have q := List.all_eq_true.mp ((Array.all_eq_true_iff_forall_mem.mp hF) _ (Array.getElem_mem ha)) i (List.mem_range.mpr hi)
    simpa [Array.getElem?_eq_getElem hi] using q
  obtain ⟨hsets, hown0⟩ := atoms_of _ (rest_1_c_eq ▸ (show rest_1_c.before _ s = true from hrest))
  obtain ⟨i0, ei0⟩ := is_v gA1
  obtain rfl : w0 = (.int i0) := Option.some.inj ei0
  obtain ⟨i1, ei1⟩ := is_v gA2
  obtain rfl : w1 = (.int i1) := Option.some.inj ei1
  obtain ⟨i2, ei2⟩ := is_v gA3
  obtain rfl : w2 = (.int i2) := Option.some.inj ei2
  obtain ⟨i3, ei3⟩ := is_v gA4
  obtain rfl : w3 = (.int i3) := Option.some.inj ei3
  obtain ⟨i4, ei4⟩ := is_v gA5
  obtain rfl : w4 = (.int i4) := Option.some.inj ei4
  obtain ⟨i5, ei5⟩ := is_v gB5
  obtain rfl : w5 = (.int i5) := Option.some.inj ei5
  obtain ⟨G1, eG1⟩ := is_v (Cond.before_iff.mp (hsets _ (List.mem_of_getElem? (i := 1) rfl)))
  have SC := Sta.start eG1 (Or.inl (hsets _ (List.mem_of_getElem? (i := 0) rfl)))
  have hG1 : ¬ G1 = 0 := gotF (Cond.eq_ints eG1 (Term.int_eval 0)) (not_v (Cond.before_iff.mp (hsets _ (List.mem_of_getElem? (i := 2) rfl))))
  obtain ⟨G3, eG3, rG3⟩ := isR_v (Cond.before_iff.mp (hsets _ (List.mem_of_getElem? (i := 8) rfl)))
  have SF := Sta.start eG3 (Or.inl (hsets _ (List.mem_of_getElem? (i := 7) rfl)))
  have SH := Sta.start (own_eqi (Cond.before_iff.mp (hsets _ (List.mem_of_getElem? (i := 12) rfl)))) (Or.inl (hsets _ (List.mem_of_getElem? (i := 10) rfl)))
  obtain ⟨wc, ewc⟩ := arr_v (Cond.before_iff.mp (hsets _ (List.mem_of_getElem? (i := 13) rfl)))
  have SA := Sta.start ewc (Or.inr ⟨(hw _ (List.mem_of_getElem? (i := 95) rfl)), (hsets _ (List.mem_of_getElem? (i := 11) rfl))⟩)
  have KC := own_cache_start ewc (Cond.before_iff.mp (hsets _ (List.mem_of_getElem? (i := 13) rfl))) (Cond.before_iff.mp (hsets _ (List.mem_of_getElem? (i := 15) rfl))) (Cond.before_iff.mp (hsets _ (List.mem_of_getElem? (i := 16) rfl)))
  obtain ⟨n, o, h1, h2, h3, _, L, rfl, ⟨rfl, N⟩, hq⟩ := c0 l s _ hw i0 i1 i2 i3 i4 i5 G1 G3 wc s.heap SC hG1 SF rG3 SH SA KC tables_1 p e ha hc hk s m _ below hf ((Spec.applies_iff_loose hf).mp happ).1 ⟨rfl, State.Warmed39.refl s, rfl⟩ trivial
  refine ⟨n, _, h1, h2, h3, hpost _ _ _ _ _ _ ⟨Cond.after_iff.mpr rfl, Cond.after_iff.mpr (eq_i res_at (Term.int_eval (1)) rfl), trivial⟩ ⟨hq.1, hq.2.1, (hq.2.2.sift fun y hy => Or.inr (N y hy)).mono (by decide) (by decide)⟩⟩
theorem main_1_1 : Claimed_1_1 := comes_1 fun _ _ _ _ _ _ h hF => ⟨h.1, hF⟩
theorem main_1_2 : Claimed_1_2 := comes_1 fun _ _ _ _ _ _ h hF => ⟨h.2.1, hF⟩

end Jvm.Pilot.@@N@@
namespace Jvm.Pilot.@@N@@
open Jvm Jvm.ClassFile Sem Op Lib Jvm.Free Jvm.Stand Jvm.Pilot.@@N@@.Jvm.D
/-! MADE BY PROGRAM (witnessworld.py) out of the Statement's table words and the real class files: 27 classes; the members and pool entries that the words name. The judged class is class 1, her method 4. -/
namespace start1
open Jvm.ClassFile
def u (s : String) : CpInfo := .utf8 (stringToUtf16 s)
/-- a pool by its gaps: so many unusable entries, then the entry; so many at the end -/
def gap : Nat → List CpInfo → List CpInfo
  | 0, r => r
  | n + 1, r => .unusable :: gap n r
def poolList (es : List (Nat × CpInfo)) (last : Nat) : List CpInfo := es.foldr (fun e r => gap e.1 (e.2 :: r)) (gap last [])
def pool (es : List (Nat × CpInfo)) (last : Nat) : Array CpInfo := ⟨poolList es last⟩
def fileOf (pool : Array CpInfo) (this : Nat) (attrs : Array Attribute := #[]) (ms : Array MethodInfo := #[]) (fl : Nat := 33) (sup : Nat := 0) (ifs : Array Nat := #[]) (fds : Array FieldInfo := #[]) : ClassFile where
  minorVersion := 0
  majorVersion := 65
  constantPool := pool
  accessFlags := fl
  thisClass := this
  superClass := sup
  interfaces := ifs
  fields := fds
  methods := ms
  attributes := attrs
def plain (name : String) (sup : Option ClassId) : Class where
  name := name
  kind := .ordinary
  loader := none
  accessFlags := 33
  super := sup
  interfaces := #[]
  cf := none
  fields := #[]
  methods := #[]
  instanceTypes := #[]
  staticTypes := #[]
  resolved := #[]
  callSites := []
  init := .initialized
  statics := none
  mirror := none

def pool0 : Array CpInfo := pool [(5, u "<init>"), (0, u "()V"), (1, .class_ 10), (1, u "java/lang/Object")] 113

def k0c0 : Code := { maxStack := 0, maxLocals := 1, code := object_method_1_code, exceptionTable := #[], attributes := #[] }
def k0m0 : Method := { name := "<init>", desc := "()V", sig := { parameters := [], returnType := none }, accessFlags := 1, code := some k0c0 }
/-- java/lang/Object -/
def k0 : Class := { plain "java/lang/Object" none with
  accessFlags := 33
  interfaces := #[]
  cf := some (fileOf pool0 8 #[] #[{ accessFlags := 1, nameIndex := 5, descriptorIndex := 6, attributes := #[] }] 33 0 #[] #[])
  fields := #[]
  methods := #[k0m0]
  instanceTypes := #[]
  staticTypes := #[]
  resolved := Array.replicate 124 none
  statics := none }

def pool1 : Array CpInfo := pool [(2, .class_ 4), (1, u "java/lang/Object"), (0, u "<init>"), (0, u "()V"), (0, .long 10), (1, .long 100), (1, .long 1000), (1, .long 10000), (1, .long 100000), (1, .long 1000000), (1, .long 10000000), (1, .long 100000000), (1, .long 1000000000), (1, .long 10000000000), (1, .long 100000000000), (1, .methodref 30 31), (0, .class_ 32), (0, .nameAndType 33 34), (0, u "com/example/makewhole/makewhole/input/NotationWholeNumberPinLaw"), (0, u "pick"), (0, u "(I)C"), (0, .class_ 36), (0, u "java/lang/String"), (0, .methodref 35 38), (0, .nameAndType 5 39), (0, u "([C)V"), (0, .integer 2147483647), (0, .methodref 30 42), (0, .nameAndType 43 44), (0, u "bad"), (0, u "([CIII)Z"), (0, .methodref 30 46), (0, .nameAndType 47 48), (0, u "term"), (0, u "([CIII)J"), (0, .methodref 50 51), (0, .class_ 52), (0, .nameAndType 53 54), (0, u "com/example/makewhole/makewhole/input/Notation"), (0, u "wholeNumber"), (0, u "(Ljava/lang/String;II)Ljava/lang/Integer;"), (0, .methodref 56 57), (0, .class_ 58), (0, .nameAndType 59 60), (0, u "java/lang/Integer"), (0, u "longValue"), (0, u "()J"), (3, u "law"), (0, u "(IIIIII)Z")] 4

def k1m0 : Method := { name := "<init>", desc := "()V", sig := { parameters := [], returnType := none }, accessFlags := 2, code := none }
def k1c1 : Code := { maxStack := 3, maxLocals := 2, code := method_2_code, exceptionTable := #[], attributes := #[] }
def k1m1 : Method := { name := "pick", desc := "(I)C", sig := { parameters := [.int], returnType := some .char }, accessFlags := 10, code := some k1c1 }
def k1c2 : Code := { maxStack := 2, maxLocals := 5, code := method_3_code, exceptionTable := #[], attributes := #[] }
def k1m2 : Method := { name := "bad", desc := "([CIII)Z", sig := { parameters := [(.array .char), .int, .int, .int], returnType := some .boolean }, accessFlags := 10, code := some k1c2 }
def k1c3 : Code := { maxStack := 5, maxLocals := 6, code := method_4_code, exceptionTable := #[], attributes := #[] }
def k1m3 : Method := { name := "term", desc := "([CIII)J", sig := { parameters := [(.array .char), .int, .int, .int], returnType := some .long }, accessFlags := 10, code := some k1c3 }
def k1c4 : Code := { maxStack := 6, maxLocals := 15, code := code, exceptionTable := #[], attributes := #[] }
def k1m4 : Method := { name := "law", desc := "(IIIIII)Z", sig := { parameters := [.int, .int, .int, .int, .int, .int], returnType := some .boolean }, accessFlags := 9, code := some k1c4 }
/-- com/example/makewhole/makewhole/input/NotationWholeNumberPinLaw -/
def k1 : Class := { plain "com/example/makewhole/makewhole/input/NotationWholeNumberPinLaw" (some 0) with
  accessFlags := 49
  interfaces := #[]
  cf := some (fileOf pool1 30 #[] #[{ accessFlags := 2, nameIndex := 5, descriptorIndex := 6, attributes := #[] }, { accessFlags := 10, nameIndex := 33, descriptorIndex := 34, attributes := #[] }, { accessFlags := 10, nameIndex := 43, descriptorIndex := 44, attributes := #[] }, { accessFlags := 10, nameIndex := 47, descriptorIndex := 48, attributes := #[] }, { accessFlags := 9, nameIndex := 64, descriptorIndex := 65, attributes := #[] }] 49 2 #[] #[])
  fields := #[]
  methods := #[k1m0, k1m1, k1m2, k1m3, k1m4]
  instanceTypes := #[]
  staticTypes := #[]
  resolved := Array.replicate 70 none
  statics := none }

def pool2 : Array CpInfo := pool [(1, .class_ 2), (0, u "java/io/Serializable"), (0, .class_ 4), (0, u "java/lang/Object")] 2

/-- java/io/Serializable -/
def k2 : Class := { plain "java/io/Serializable" (some 0) with
  accessFlags := 1537
  interfaces := #[]
  cf := some (fileOf pool2 1 #[] #[] 1537 3 #[] #[])
  fields := #[]
  methods := #[]
  instanceTypes := #[]
  staticTypes := #[]
  resolved := Array.replicate 7 none
  statics := none }

def pool3 : Array CpInfo := pool [(1, .class_ 2), (0, u "java/lang/Comparable"), (0, .class_ 4), (0, u "java/lang/Object")] 7

/-- java/lang/Comparable -/
def k3 : Class := { plain "java/lang/Comparable" (some 0) with
  accessFlags := 1537
  interfaces := #[]
  cf := some (fileOf pool3 1 #[] #[] 1537 3 #[] #[])
  fields := #[]
  methods := #[]
  instanceTypes := #[]
  staticTypes := #[]
  resolved := Array.replicate 12 none
  statics := none }

def pool4 : Array CpInfo := pool [(2, .class_ 4), (1, u "java/lang/CharSequence"), (42, .class_ 48), (0, u "java/lang/CharSequence$1CodePointIterator"), (10, .class_ 60), (0, u "java/lang/CharSequence$1CharIterator"), (5, .class_ 67), (0, u "java/lang/Object")] 63

/-- java/lang/CharSequence -/
def k4 : Class := { plain "java/lang/CharSequence" (some 0) with
  accessFlags := 1537
  interfaces := #[]
  cf := some (fileOf pool4 2 #[.nestMembers #[47, 59]] #[] 1537 66 #[] #[])
  fields := #[]
  methods := #[]
  instanceTypes := #[]
  staticTypes := #[]
  resolved := Array.replicate 131 none
  statics := none }

def pool5 : Array CpInfo := pool [(1, .class_ 2), (0, u "java/lang/constant/Constable"), (0, .class_ 4), (0, u "java/lang/Object")] 6

/-- java/lang/constant/Constable -/
def k5 : Class := { plain "java/lang/constant/Constable" (some 0) with
  accessFlags := 1537
  interfaces := #[]
  cf := some (fileOf pool5 1 #[] #[] 1537 3 #[] #[])
  fields := #[]
  methods := #[]
  instanceTypes := #[]
  staticTypes := #[]
  resolved := Array.replicate 11 none
  statics := none }

def pool6 : Array CpInfo := pool [(1, .class_ 2), (0, u "java/lang/constant/ConstantDesc"), (0, .class_ 4), (0, u "java/lang/Object")] 32

/-- java/lang/constant/ConstantDesc -/
def k6 : Class := { plain "java/lang/constant/ConstantDesc" (some 0) with
  accessFlags := 1537
  interfaces := #[]
  cf := some (fileOf pool6 1 #[] #[] 1537 3 #[] #[])
  fields := #[]
  methods := #[]
  instanceTypes := #[]
  staticTypes := #[]
  resolved := Array.replicate 37 none
  statics := none }

def pool7 : Array CpInfo := pool [(1, .methodref 2 3), (0, .class_ 4), (0, .nameAndType 5 6), (0, u "java/lang/Object"), (0, u "<init>"), (0, u "()V"), (2, .fieldref 10 11), (0, .class_ 12), (0, .nameAndType 13 14), (0, u "java/lang/String"), (0, u "value"), (0, u "[B"), (0, .fieldref 10 16), (0, .nameAndType 17 18), (0, u "coder"), (0, u "B"), (2, u "hash"), (0, u "I"), (2, u "hashIsZero"), (0, u "Z"), (0, .methodref 10 28), (0, .nameAndType 5 29), (0, u "([CIILjava/lang/Void;)V"), (8, .fieldref 10 39), (0, .nameAndType 40 26), (0, u "COMPACT_STRINGS"), (1, .class_ 44), (1, u "java/lang/StringUTF16"), (0, u "compress"), (1, .methodref 42 48), (0, .nameAndType 49 50), (0, u "coderFromArrayLen"), (0, u "([BI)B"), (56, .class_ 109), (1, u "java/lang/StringLatin1"), (32, u "()Z"), (34, .methodref 42 178), (0, .nameAndType 45 179), (0, u "([CII)[B"), (183, u "([BI)C"), (27, u "(II)V"), (35, u "(I)C"), (64, .methodref 10 493), (0, .nameAndType 494 142), (0, u "isLatin1"), (0, .methodref 107 496), (0, .nameAndType 497 363), (0, u "charAt"), (3, u "checkIndex"), (73, .class_ 576), (0, u "java/lang/CharSequence"), (22, u "CASE_INSENSITIVE_ORDER"), (0, u "Ljava/util/Comparator;"), (409, u "([C)V"), (42, .fieldref 1054 1055), (0, .class_ 1056), (0, .nameAndType 1057 1058), (0, u "jdk/internal/util/Preconditions"), (0, u "SIOOBE_FORMATTER"), (0, u "Ljava/util/function/BiFunction;"), (0, .methodref 1054 1060), (0, .nameAndType 501 1061), (0, u "(IILjava/util/function/BiFunction;)I"), (39, u "serialPersistentFields"), (0, u "[Ljava/io/ObjectStreamField;"), (0, .class_ 1104), (0, u "java/lang/String$CaseInsensitiveComparator"), (1, .class_ 1107), (0, u "java/io/Serializable"), (0, .class_ 1109), (0, u "java/lang/Comparable"), (0, .class_ 1111), (0, u "java/lang/constant/Constable"), (0, .class_ 1113), (0, u "java/lang/constant/ConstantDesc"), (2, u "serialVersionUID"), (0, u "J"), (3, u "REPL"), (0, u "C"), (2, u "LATIN1"), (1, u "UTF16")] 323

def k7m0 : Method := { name := "<init>", desc := "()V", sig := { parameters := [], returnType := none }, accessFlags := 1, code := none }
def k7c1 : Code := { maxStack := 5, maxLocals := 2, code := jdk_42_method_3_code, exceptionTable := #[], attributes := #[] }
def k7m1 : Method := { name := "<init>", desc := "([C)V", sig := { parameters := [(.array .char)], returnType := none }, accessFlags := 1, code := some k7c1 }
def k7c2 : Code := { maxStack := 2, maxLocals := 2, code := jdk_42_method_56_code, exceptionTable := #[], attributes := #[] }
def k7m2 : Method := { name := "charAt", desc := "(I)C", sig := { parameters := [.int], returnType := some .char }, accessFlags := 1, code := some k7c2 }
def k7c3 : Code := { maxStack := 4, maxLocals := 6, code := jdk_42_method_149_code, exceptionTable := #[], attributes := #[] }
def k7m3 : Method := { name := "<init>", desc := "([CIILjava/lang/Void;)V", sig := { parameters := [(.array .char), .int, .int, (.object "java/lang/Void")], returnType := none }, accessFlags := 2, code := some k7c3 }
def k7c4 : Code := { maxStack := 1, maxLocals := 1, code := jdk_42_method_154_code, exceptionTable := #[], attributes := #[] }
def k7m4 : Method := { name := "isLatin1", desc := "()Z", sig := { parameters := [], returnType := some .boolean }, accessFlags := 0, code := some k7c4 }
def k7c5 : Code := { maxStack := 3, maxLocals := 2, code := jdk_42_method_155_code, exceptionTable := #[], attributes := #[] }
def k7m5 : Method := { name := "checkIndex", desc := "(II)V", sig := { parameters := [.int, .int], returnType := none }, accessFlags := 8, code := some k7c5 }
/-- java/lang/String -/
def k7 : Class := { plain "java/lang/String" (some 0) with
  accessFlags := 49
  interfaces := #[2, 3, 4, 5, 6]
  cf := some (fileOf pool7 10 #[.nestMembers #[1103]] #[{ accessFlags := 1, nameIndex := 5, descriptorIndex := 6, attributes := #[] }, { accessFlags := 1, nameIndex := 5, descriptorIndex := 1010, attributes := #[] }, { accessFlags := 1, nameIndex := 497, descriptorIndex := 427, attributes := #[] }, { accessFlags := 2, nameIndex := 5, descriptorIndex := 29, attributes := #[] }, { accessFlags := 0, nameIndex := 494, descriptorIndex := 142, attributes := #[] }, { accessFlags := 8, nameIndex := 501, descriptorIndex := 391, attributes := #[] }] 49 2 #[1106, 1108, 575, 1110, 1112] #[{ accessFlags := 18, nameIndex := 13, descriptorIndex := 14, attributes := #[] }, { accessFlags := 18, nameIndex := 17, descriptorIndex := 18, attributes := #[] }, { accessFlags := 2, nameIndex := 21, descriptorIndex := 22, attributes := #[] }, { accessFlags := 2, nameIndex := 25, descriptorIndex := 26, attributes := #[] }, { accessFlags := 26, nameIndex := 1116, descriptorIndex := 1117, attributes := #[] }, { accessFlags := 24, nameIndex := 40, descriptorIndex := 26, attributes := #[] }, { accessFlags := 26, nameIndex := 1101, descriptorIndex := 1102, attributes := #[] }, { accessFlags := 26, nameIndex := 1121, descriptorIndex := 1122, attributes := #[] }, { accessFlags := 25, nameIndex := 599, descriptorIndex := 600, attributes := #[] }, { accessFlags := 24, nameIndex := 1125, descriptorIndex := 18, attributes := #[] }, { accessFlags := 24, nameIndex := 1127, descriptorIndex := 18, attributes := #[] }])
  fields := #[{ name := "value", type := (.array .byte), accessFlags := 18, slot := 0, constantValue := 0 }, { name := "coder", type := .byte, accessFlags := 18, slot := 1, constantValue := 0 }, { name := "hash", type := .int, accessFlags := 2, slot := 2, constantValue := 0 }, { name := "hashIsZero", type := .boolean, accessFlags := 2, slot := 3, constantValue := 0 }, { name := "serialVersionUID", type := .long, accessFlags := 26, slot := 0, constantValue := 0 }, { name := "COMPACT_STRINGS", type := .boolean, accessFlags := 24, slot := 1, constantValue := 0 }, { name := "serialPersistentFields", type := (.array (.object "java/io/ObjectStreamField")), accessFlags := 26, slot := 2, constantValue := 0 }, { name := "REPL", type := .char, accessFlags := 26, slot := 3, constantValue := 0 }, { name := "CASE_INSENSITIVE_ORDER", type := (.object "java/util/Comparator"), accessFlags := 25, slot := 4, constantValue := 0 }, { name := "LATIN1", type := .byte, accessFlags := 24, slot := 5, constantValue := 0 }, { name := "UTF16", type := .byte, accessFlags := 24, slot := 6, constantValue := 0 }]
  methods := #[k7m0, k7m1, k7m2, k7m3, k7m4, k7m5]
  instanceTypes := #[(.array .byte), .byte, .int, .boolean]
  staticTypes := #[.long, .boolean, (.array (.object "java/io/ObjectStreamField")), .char, (.object "java/util/Comparator"), .byte, .byte]
  resolved := Array.replicate 1451 none
  statics := some 0 }

def pool8 : Array CpInfo := pool [(6, .class_ 8), (1, u "java/lang/Object"), (0, u "<init>"), (0, u "()V"), (1, .class_ 14), (1, u "java/lang/StringUTF16"), (31, u "$assertionsDisabled"), (0, u "Z"), (13, u "HI_BYTE_SHIFT"), (0, u "I"), (2, u "LO_BYTE_SHIFT"), (49, .methodref 12 116), (0, .nameAndType 117 118), (0, u "compress"), (0, u "([CI[BII)I"), (3, u "([CII)[B"), (138, u "coderFromArrayLen"), (0, u "([BI)B"), (106, .class_ 371), (1, u "java/lang/StringUTF16$LinesSpliterator"), (58, u "MAX_LENGTH"), (196, .class_ 628), (0, u "java/lang/StringUTF16$CodePointsSpliterator"), (0, .class_ 630), (0, u "java/lang/StringUTF16$CharsSpliterator")] 4

def k8m0 : Method := { name := "<init>", desc := "()V", sig := { parameters := [], returnType := none }, accessFlags := 0, code := none }
def k8c1 : Code := { maxStack := 2, maxLocals := 2, code := jdk_52_method_15_code, exceptionTable := #[], attributes := #[] }
def k8m1 : Method := { name := "coderFromArrayLen", desc := "([BI)B", sig := { parameters := [(.array .byte), .int], returnType := some .byte }, accessFlags := 8, code := some k8c1 }
def k8c2 : Code := { maxStack := 5, maxLocals := 6, code := jdk_52_method_16_code, exceptionTable := #[], attributes := #[] }
def k8m2 : Method := { name := "compress", desc := "([CII)[B", sig := { parameters := [(.array .char), .int, .int], returnType := some (.array .byte) }, accessFlags := 9, code := some k8c2 }
def k8c3 : Code := { maxStack := 3, maxLocals := 7, code := jdk_52_method_21_code, exceptionTable := #[], attributes := #[] }
def k8m3 : Method := { name := "compress", desc := "([CI[BII)I", sig := { parameters := [(.array .char), .int, (.array .byte), .int, .int], returnType := some .int }, accessFlags := 9, code := some k8c3 }
/-- java/lang/StringUTF16 -/
def k8 : Class := { plain "java/lang/StringUTF16" (some 0) with
  accessFlags := 48
  interfaces := #[]
  cf := some (fileOf pool8 12 #[.nestMembers #[627, 629, 369]] #[{ accessFlags := 0, nameIndex := 9, descriptorIndex := 10, attributes := #[] }, { accessFlags := 8, nameIndex := 261, descriptorIndex := 262, attributes := #[] }, { accessFlags := 9, nameIndex := 117, descriptorIndex := 122, attributes := #[] }, { accessFlags := 9, nameIndex := 117, descriptorIndex := 118, attributes := #[] }] 48 6 #[] #[{ accessFlags := 26, nameIndex := 61, descriptorIndex := 62, attributes := #[] }, { accessFlags := 26, nameIndex := 65, descriptorIndex := 62, attributes := #[] }, { accessFlags := 24, nameIndex := 430, descriptorIndex := 62, attributes := #[] }, { accessFlags := 4120, nameIndex := 46, descriptorIndex := 47, attributes := #[] }])
  fields := #[{ name := "HI_BYTE_SHIFT", type := .int, accessFlags := 26, slot := 0, constantValue := 0 }, { name := "LO_BYTE_SHIFT", type := .int, accessFlags := 26, slot := 1, constantValue := 0 }, { name := "MAX_LENGTH", type := .int, accessFlags := 24, slot := 2, constantValue := 0 }, { name := "$assertionsDisabled", type := .boolean, accessFlags := 4120, slot := 3, constantValue := 0 }]
  methods := #[k8m0, k8m1, k8m2, k8m3]
  instanceTypes := #[]
  staticTypes := #[.int, .int, .int, .boolean]
  resolved := Array.replicate 635 none
  statics := none }

def pool9 : Array CpInfo := pool [(2, .class_ 4), (1, u "java/lang/Object"), (0, u "<init>"), (0, u "()V"), (1, .class_ 10), (1, u "java/lang/String"), (3, .class_ 16), (1, u "com/example/makewhole/makewhole/input/Notation"), (14, .methodref 14 32), (0, .nameAndType 33 34), (0, u "digitsValue"), (0, u "(Ljava/lang/String;II)J"), (4, u "valueOf"), (10, u "wholeNumber"), (0, u "(Ljava/lang/String;II)Ljava/lang/Integer;"), (0, .methodref 14 53), (0, .nameAndType 54 55), (0, u "isDigits"), (0, u "(Ljava/lang/String;II)Z"), (0, .methodref 57 58), (0, .class_ 59), (0, .nameAndType 60 61), (0, u "java/lang/Math"), (0, u "toIntExact"), (0, u "(J)I"), (0, .methodref 63 64), (0, .class_ 65), (0, .nameAndType 39 66), (0, u "java/lang/Integer"), (0, u "(I)Ljava/lang/Integer;"), (4, .methodref 8 72), (0, .nameAndType 73 74), (0, u "charAt"), (0, u "(I)C"), (43, u "CONSTANT_BY_LABEL"), (0, u "Ljava/lang/ClassValue;"), (64, .long 10), (1, .class_ 187), (0, u "com/example/makewhole/makewhole/input/Notation$1"), (1, u "DECIMAL_FORM"), (0, u "Ljava/lang/String;"), (3, u "MOST_WHOLE_DIGITS"), (0, u "I"), (1, u "MOST_DECIMAL_PLACES"), (1, u "WHOLE_NUMBER_FORM"), (2, u "DATE_FORM"), (2, u "YEAR_FORM"), (2, u "NAME_FORM"), (2, u "MOST_WHOLE_NUMBER_DIGITS"), (1, u "MOST_LONG_DIGITS"), (1, u "NOT_IN_CSV")] 41

def k9m0 : Method := { name := "<init>", desc := "()V", sig := { parameters := [], returnType := none }, accessFlags := 2, code := none }
def k9c1 : Code := { maxStack := 3, maxLocals := 3, code := prog_9_method_6_code, exceptionTable := #[], attributes := #[] }
def k9m1 : Method := { name := "wholeNumber", desc := "(Ljava/lang/String;II)Ljava/lang/Integer;", sig := { parameters := [(.object "java/lang/String"), .int, .int], returnType := some (.object "java/lang/Integer") }, accessFlags := 8, code := some k9c1 }
def k9c2 : Code := { maxStack := 2, maxLocals := 5, code := prog_9_method_18_code, exceptionTable := #[], attributes := #[] }
def k9m2 : Method := { name := "isDigits", desc := "(Ljava/lang/String;II)Z", sig := { parameters := [(.object "java/lang/String"), .int, .int], returnType := some .boolean }, accessFlags := 10, code := some k9c2 }
def k9c3 : Code := { maxStack := 4, maxLocals := 7, code := prog_9_method_19_code, exceptionTable := #[], attributes := #[] }
def k9m3 : Method := { name := "digitsValue", desc := "(Ljava/lang/String;II)J", sig := { parameters := [(.object "java/lang/String"), .int, .int], returnType := some .long }, accessFlags := 10, code := some k9c3 }
/-- com/example/makewhole/makewhole/input/Notation -/
def k9 : Class := { plain "com/example/makewhole/makewhole/input/Notation" (some 0) with
  accessFlags := 49
  interfaces := #[]
  cf := some (fileOf pool9 14 #[.nestMembers #[186]] #[{ accessFlags := 2, nameIndex := 5, descriptorIndex := 6, attributes := #[] }, { accessFlags := 8, nameIndex := 50, descriptorIndex := 51, attributes := #[] }, { accessFlags := 10, nameIndex := 54, descriptorIndex := 55, attributes := #[] }, { accessFlags := 10, nameIndex := 33, descriptorIndex := 34, attributes := #[] }] 49 2 #[] #[{ accessFlags := 25, nameIndex := 189, descriptorIndex := 190, attributes := #[] }, { accessFlags := 25, nameIndex := 194, descriptorIndex := 195, attributes := #[] }, { accessFlags := 25, nameIndex := 197, descriptorIndex := 195, attributes := #[] }, { accessFlags := 25, nameIndex := 199, descriptorIndex := 190, attributes := #[] }, { accessFlags := 25, nameIndex := 202, descriptorIndex := 190, attributes := #[] }, { accessFlags := 25, nameIndex := 205, descriptorIndex := 190, attributes := #[] }, { accessFlags := 25, nameIndex := 208, descriptorIndex := 190, attributes := #[] }, { accessFlags := 26, nameIndex := 211, descriptorIndex := 195, attributes := #[] }, { accessFlags := 26, nameIndex := 213, descriptorIndex := 195, attributes := #[] }, { accessFlags := 26, nameIndex := 215, descriptorIndex := 190, attributes := #[] }, { accessFlags := 26, nameIndex := 118, descriptorIndex := 119, attributes := #[] }])
  fields := #[{ name := "DECIMAL_FORM", type := (.object "java/lang/String"), accessFlags := 25, slot := 0, constantValue := 0 }, { name := "MOST_WHOLE_DIGITS", type := .int, accessFlags := 25, slot := 1, constantValue := 0 }, { name := "MOST_DECIMAL_PLACES", type := .int, accessFlags := 25, slot := 2, constantValue := 0 }, { name := "WHOLE_NUMBER_FORM", type := (.object "java/lang/String"), accessFlags := 25, slot := 3, constantValue := 0 }, { name := "DATE_FORM", type := (.object "java/lang/String"), accessFlags := 25, slot := 4, constantValue := 0 }, { name := "YEAR_FORM", type := (.object "java/lang/String"), accessFlags := 25, slot := 5, constantValue := 0 }, { name := "NAME_FORM", type := (.object "java/lang/String"), accessFlags := 25, slot := 6, constantValue := 0 }, { name := "MOST_WHOLE_NUMBER_DIGITS", type := .int, accessFlags := 26, slot := 7, constantValue := 0 }, { name := "MOST_LONG_DIGITS", type := .int, accessFlags := 26, slot := 8, constantValue := 0 }, { name := "NOT_IN_CSV", type := (.object "java/lang/String"), accessFlags := 26, slot := 9, constantValue := 0 }, { name := "CONSTANT_BY_LABEL", type := (.object "java/lang/ClassValue"), accessFlags := 26, slot := 10, constantValue := 0 }]
  methods := #[k9m0, k9m1, k9m2, k9m3]
  instanceTypes := #[]
  staticTypes := #[(.object "java/lang/String"), .int, .int, (.object "java/lang/String"), (.object "java/lang/String"), (.object "java/lang/String"), (.object "java/lang/String"), .int, .int, (.object "java/lang/String"), (.object "java/lang/ClassValue")]
  resolved := Array.replicate 257 none
  statics := none }

def pool10 : Array CpInfo := pool [(1, .class_ 2), (0, u "java/lang/String"), (1, .class_ 6), (1, u "java/lang/Object"), (0, u "<init>"), (0, u "()V"), (0, .methodref 1 10), (0, .nameAndType 11 12), (0, u "checkIndex"), (0, u "(II)V"), (1, .class_ 16), (1, u "java/lang/StringLatin1"), (36, u "([BI)C"), (67, u "$assertionsDisabled"), (0, u "Z"), (98, .class_ 223), (1, u "java/lang/StringLatin1$LinesSpliterator"), (28, u "charAt"), (137, .class_ 391), (0, u "java/lang/StringLatin1$CharsSpliterator")] 3

def k10m0 : Method := { name := "<init>", desc := "()V", sig := { parameters := [], returnType := none }, accessFlags := 0, code := none }
def k10c1 : Code := { maxStack := 2, maxLocals := 2, code := jdk_43_method_2_code, exceptionTable := #[], attributes := #[] }
def k10m1 : Method := { name := "charAt", desc := "([BI)C", sig := { parameters := [(.array .byte), .int], returnType := some .char }, accessFlags := 9, code := some k10c1 }
/-- java/lang/StringLatin1 -/
def k10 : Class := { plain "java/lang/StringLatin1" (some 0) with
  accessFlags := 48
  interfaces := #[]
  cf := some (fileOf pool10 14 #[.nestMembers #[390, 221]] #[{ accessFlags := 0, nameIndex := 7, descriptorIndex := 8, attributes := #[] }, { accessFlags := 9, nameIndex := 252, descriptorIndex := 53, attributes := #[] }] 48 4 #[] #[{ accessFlags := 4120, nameIndex := 121, descriptorIndex := 122, attributes := #[] }])
  fields := #[{ name := "$assertionsDisabled", type := .boolean, accessFlags := 4120, slot := 0, constantValue := 0 }]
  methods := #[k10m0, k10m1]
  instanceTypes := #[]
  staticTypes := #[.boolean]
  resolved := Array.replicate 395 none
  statics := none }

def pool11 : Array CpInfo := pool [(2, .class_ 4), (1, u "java/lang/Object"), (0, u "<init>"), (0, u "()V"), (17, .class_ 26), (1, u "jdk/internal/util/Preconditions"), (6, u "checkIndex"), (21, .class_ 56), (0, u "jdk/internal/util/Preconditions$4"), (57, .class_ 115), (0, u "jdk/internal/util/Preconditions$1"), (7, u "SIOOBE_FORMATTER"), (0, u "Ljava/util/function/BiFunction;"), (0, .class_ 126), (0, u "jdk/internal/util/Preconditions$2"), (3, u "AIOOBE_FORMATTER"), (0, .class_ 132), (0, u "jdk/internal/util/Preconditions$3"), (3, u "IOOBE_FORMATTER"), (41, u "(IILjava/util/function/BiFunction;)I")] 15

def k11m0 : Method := { name := "<init>", desc := "()V", sig := { parameters := [], returnType := none }, accessFlags := 1, code := none }
def k11c1 : Code := { maxStack := 3, maxLocals := 3, code := jdk_41_method_11_code, exceptionTable := #[], attributes := #[] }
def k11m1 : Method := { name := "checkIndex", desc := "(IILjava/util/function/BiFunction;)I", sig := { parameters := [.int, .int, (.object "java/util/function/BiFunction")], returnType := some .int }, accessFlags := 9, code := some k11c1 }
/-- jdk/internal/util/Preconditions -/
def k11 : Class := { plain "jdk/internal/util/Preconditions" (some 0) with
  accessFlags := 33
  interfaces := #[]
  cf := some (fileOf pool11 24 #[.nestMembers #[55, 131, 125, 114]] #[{ accessFlags := 1, nameIndex := 5, descriptorIndex := 6, attributes := #[] }, { accessFlags := 9, nameIndex := 33, descriptorIndex := 178, attributes := #[] }] 33 2 #[] #[{ accessFlags := 25, nameIndex := 123, descriptorIndex := 124, attributes := #[] }, { accessFlags := 25, nameIndex := 130, descriptorIndex := 124, attributes := #[] }, { accessFlags := 25, nameIndex := 136, descriptorIndex := 124, attributes := #[] }])
  fields := #[{ name := "SIOOBE_FORMATTER", type := (.object "java/util/function/BiFunction"), accessFlags := 25, slot := 0, constantValue := 0 }, { name := "AIOOBE_FORMATTER", type := (.object "java/util/function/BiFunction"), accessFlags := 25, slot := 1, constantValue := 0 }, { name := "IOOBE_FORMATTER", type := (.object "java/util/function/BiFunction"), accessFlags := 25, slot := 2, constantValue := 0 }]
  methods := #[k11m0, k11m1]
  instanceTypes := #[]
  staticTypes := #[(.object "java/util/function/BiFunction"), (.object "java/util/function/BiFunction"), (.object "java/util/function/BiFunction")]
  resolved := Array.replicate 194 none
  statics := some 1 }

def pool12 : Array CpInfo := pool [(1, .class_ 2), (0, u "java/lang/Math"), (1, .class_ 6), (1, u "java/lang/Object"), (0, u "<init>"), (0, u "()V"), (89, .class_ 100), (1, u "java/lang/Math$RandomNumberGeneratorHolder"), (71, u "negativeZeroFloatBits"), (0, u "J"), (2, u "negativeZeroDoubleBits"), (68, u "$assertionsDisabled"), (0, u "Z"), (91, u "twoToTheDoubleScaleDown"), (0, u "D"), (4, u "twoToTheDoubleScaleUp"), (9, u "E"), (3, u "PI"), (2, u "TAU"), (2, u "DEGREES_TO_RADIANS"), (0, u "RADIANS_TO_DEGREES"), (39, u "toIntExact"), (0, u "(J)I")] 53

def k12m0 : Method := { name := "<init>", desc := "()V", sig := { parameters := [], returnType := none }, accessFlags := 2, code := none }
def k12c1 : Code := { maxStack := 4, maxLocals := 2, code := jdk_29_method_43_code, exceptionTable := #[], attributes := #[] }
def k12m1 : Method := { name := "toIntExact", desc := "(J)I", sig := { parameters := [.long], returnType := some .int }, accessFlags := 9, code := some k12c1 }
/-- java/lang/Math -/
def k12 : Class := { plain "java/lang/Math" (some 0) with
  accessFlags := 49
  interfaces := #[]
  cf := some (fileOf pool12 1 #[.nestMembers #[98]] #[{ accessFlags := 2, nameIndex := 7, descriptorIndex := 8, attributes := #[] }, { accessFlags := 9, nameIndex := 405, descriptorIndex := 406, attributes := #[] }] 49 4 #[] #[{ accessFlags := 25, nameIndex := 354, descriptorIndex := 339, attributes := #[] }, { accessFlags := 25, nameIndex := 358, descriptorIndex := 339, attributes := #[] }, { accessFlags := 25, nameIndex := 361, descriptorIndex := 339, attributes := #[] }, { accessFlags := 26, nameIndex := 364, descriptorIndex := 339, attributes := #[] }, { accessFlags := 26, nameIndex := 365, descriptorIndex := 339, attributes := #[] }, { accessFlags := 26, nameIndex := 172, descriptorIndex := 173, attributes := #[] }, { accessFlags := 26, nameIndex := 176, descriptorIndex := 173, attributes := #[] }, { accessFlags := 8, nameIndex := 344, descriptorIndex := 339, attributes := #[] }, { accessFlags := 8, nameIndex := 338, descriptorIndex := 339, attributes := #[] }, { accessFlags := 4120, nameIndex := 245, descriptorIndex := 246, attributes := #[] }])
  fields := #[{ name := "E", type := .double, accessFlags := 25, slot := 0, constantValue := 0 }, { name := "PI", type := .double, accessFlags := 25, slot := 1, constantValue := 0 }, { name := "TAU", type := .double, accessFlags := 25, slot := 2, constantValue := 0 }, { name := "DEGREES_TO_RADIANS", type := .double, accessFlags := 26, slot := 3, constantValue := 0 }, { name := "RADIANS_TO_DEGREES", type := .double, accessFlags := 26, slot := 4, constantValue := 0 }, { name := "negativeZeroFloatBits", type := .long, accessFlags := 26, slot := 5, constantValue := 0 }, { name := "negativeZeroDoubleBits", type := .long, accessFlags := 26, slot := 6, constantValue := 0 }, { name := "twoToTheDoubleScaleUp", type := .double, accessFlags := 8, slot := 7, constantValue := 0 }, { name := "twoToTheDoubleScaleDown", type := .double, accessFlags := 8, slot := 8, constantValue := 0 }, { name := "$assertionsDisabled", type := .boolean, accessFlags := 4120, slot := 9, constantValue := 0 }]
  methods := #[k12m0, k12m1]
  instanceTypes := #[]
  staticTypes := #[.double, .double, .double, .double, .double, .long, .long, .double, .double, .boolean]
  resolved := Array.replicate 460 none
  statics := none }

def pool13 : Array CpInfo := pool [(1, .methodref 2 3), (0, .class_ 4), (0, .nameAndType 5 6), (0, u "java/lang/Object"), (0, u "<init>"), (0, u "()V"), (1, .class_ 10), (1, u "java/lang/Number"), (2, .class_ 14), (0, u "java/io/Serializable"), (0, u "serialVersionUID"), (0, u "J")] 20

def k13c0 : Code := { maxStack := 1, maxLocals := 1, code := jdk_18_method_1_code, exceptionTable := #[], attributes := #[] }
def k13m0 : Method := { name := "<init>", desc := "()V", sig := { parameters := [], returnType := none }, accessFlags := 1, code := some k13c0 }
/-- java/lang/Number -/
def k13 : Class := { plain "java/lang/Number" (some 0) with
  accessFlags := 1057
  interfaces := #[2]
  cf := some (fileOf pool13 8 #[] #[{ accessFlags := 1, nameIndex := 5, descriptorIndex := 6, attributes := #[] }] 1057 2 #[13] #[{ accessFlags := 26, nameIndex := 15, descriptorIndex := 16, attributes := #[] }])
  fields := #[{ name := "serialVersionUID", type := .long, accessFlags := 26, slot := 0, constantValue := 0 }]
  methods := #[k13m0]
  instanceTypes := #[]
  staticTypes := #[.long]
  resolved := Array.replicate 37 none
  statics := none }

def pool14 : Array CpInfo := pool [(1, .class_ 2), (0, u "java/lang/Integer"), (16, u "digits"), (0, u "[C"), (46, u "<init>"), (17, u "DigitOnes"), (0, u "[B"), (2, u "DigitTens"), (10, .nameAndType 67 101), (0, u "()V"), (85, u "valueOf"), (0, u "(I)Ljava/lang/Integer;"), (0, .class_ 190), (0, u "java/lang/Integer$IntegerCache"), (0, .fieldref 189 192), (0, .nameAndType 193 194), (0, u "high"), (0, u "I"), (0, .fieldref 189 196), (0, .nameAndType 197 198), (0, u "cache"), (0, u "[Ljava/lang/Integer;"), (0, .methodref 1 200), (0, .nameAndType 67 201), (0, u "(I)V"), (0, .methodref 203 100), (0, .class_ 204), (0, u "java/lang/Number"), (0, .fieldref 1 206), (0, .nameAndType 207 194), (0, u "value"), (94, u "TYPE"), (0, u "Ljava/lang/Class;"), (0, .class_ 305), (0, u "java/lang/Comparable"), (0, .class_ 307), (0, u "java/lang/constant/Constable"), (0, .class_ 309), (0, u "java/lang/constant/ConstantDesc"), (0, u "MIN_VALUE"), (1, u "MAX_VALUE"), (3, u "SIZE"), (1, u "BYTES"), (1, u "serialVersionUID"), (0, u "J"), (57, u "longValue"), (0, u "()J")] 72

def k14c0 : Code := { maxStack := 3, maxLocals := 1, code := jdk_33_method_22_code, exceptionTable := #[], attributes := #[] }
def k14m0 : Method := { name := "valueOf", desc := "(I)Ljava/lang/Integer;", sig := { parameters := [.int], returnType := some (.object "java/lang/Integer") }, accessFlags := 9, code := some k14c0 }
def k14c1 : Code := { maxStack := 2, maxLocals := 2, code := jdk_33_method_23_code, exceptionTable := #[], attributes := #[] }
def k14m1 : Method := { name := "<init>", desc := "(I)V", sig := { parameters := [.int], returnType := none }, accessFlags := 1, code := some k14c1 }
def k14c2 : Code := { maxStack := 2, maxLocals := 1, code := jdk_33_method_28_code, exceptionTable := #[], attributes := #[] }
def k14m2 : Method := { name := "longValue", desc := "()J", sig := { parameters := [], returnType := some .long }, accessFlags := 1, code := some k14c2 }
/-- java/lang/Integer -/
def k14 : Class := { plain "java/lang/Integer" (some 13) with
  accessFlags := 49
  interfaces := #[3, 5, 6]
  cf := some (fileOf pool14 1 #[.nestMembers #[189]] #[{ accessFlags := 9, nameIndex := 187, descriptorIndex := 188, attributes := #[] }, { accessFlags := 1, nameIndex := 67, descriptorIndex := 201, attributes := #[] }, { accessFlags := 1, nameIndex := 379, descriptorIndex := 380, attributes := #[] }] 49 203 #[304, 306, 308] #[{ accessFlags := 25, nameIndex := 310, descriptorIndex := 194, attributes := #[] }, { accessFlags := 25, nameIndex := 312, descriptorIndex := 194, attributes := #[] }, { accessFlags := 25, nameIndex := 302, descriptorIndex := 303, attributes := #[] }, { accessFlags := 24, nameIndex := 19, descriptorIndex := 20, attributes := #[] }, { accessFlags := 24, nameIndex := 89, descriptorIndex := 86, attributes := #[] }, { accessFlags := 24, nameIndex := 85, descriptorIndex := 86, attributes := #[] }, { accessFlags := 18, nameIndex := 207, descriptorIndex := 194, attributes := #[] }, { accessFlags := 25, nameIndex := 316, descriptorIndex := 194, attributes := #[] }, { accessFlags := 25, nameIndex := 318, descriptorIndex := 194, attributes := #[] }, { accessFlags := 26, nameIndex := 320, descriptorIndex := 321, attributes := #[] }])
  fields := #[{ name := "MIN_VALUE", type := .int, accessFlags := 25, slot := 0, constantValue := 0 }, { name := "MAX_VALUE", type := .int, accessFlags := 25, slot := 1, constantValue := 0 }, { name := "TYPE", type := (.object "java/lang/Class"), accessFlags := 25, slot := 2, constantValue := 0 }, { name := "digits", type := (.array .char), accessFlags := 24, slot := 3, constantValue := 0 }, { name := "DigitTens", type := (.array .byte), accessFlags := 24, slot := 4, constantValue := 0 }, { name := "DigitOnes", type := (.array .byte), accessFlags := 24, slot := 5, constantValue := 0 }, { name := "value", type := .int, accessFlags := 18, slot := 0, constantValue := 0 }, { name := "SIZE", type := .int, accessFlags := 25, slot := 6, constantValue := 0 }, { name := "BYTES", type := .int, accessFlags := 25, slot := 7, constantValue := 0 }, { name := "serialVersionUID", type := .long, accessFlags := 26, slot := 8, constantValue := 0 }]
  methods := #[k14m0, k14m1, k14m2]
  instanceTypes := #[.int]
  staticTypes := #[.int, .int, (.object "java/lang/Class"), (.array .char), (.array .byte), (.array .byte), .int, .int, .long]
  resolved := Array.replicate 453 none
  statics := none }

def pool15 : Array CpInfo := pool [(2, .class_ 4), (1, u "java/lang/Object"), (0, u "<init>"), (0, u "()V"), (0, .class_ 8), (0, u "java/lang/Integer"), (7, .class_ 18), (1, u "java/lang/Integer$IntegerCache"), (0, u "$assertionsDisabled"), (0, u "Z"), (26, u "high"), (0, u "I"), (8, u "archivedCache"), (0, u "[Ljava/lang/Integer;"), (12, u "cache"), (0, u "low")] 27

def k15m0 : Method := { name := "<init>", desc := "()V", sig := { parameters := [], returnType := none }, accessFlags := 2, code := none }
/-- java/lang/Integer$IntegerCache -/
def k15 : Class := { plain "java/lang/Integer$IntegerCache" (some 0) with
  accessFlags := 48
  interfaces := #[]
  cf := some (fileOf pool15 16 #[.nestHost 7] #[{ accessFlags := 2, nameIndex := 5, descriptorIndex := 6, attributes := #[] }] 48 2 #[] #[{ accessFlags := 24, nameIndex := 72, descriptorIndex := 48, attributes := #[] }, { accessFlags := 24, nameIndex := 47, descriptorIndex := 48, attributes := #[] }, { accessFlags := 24, nameIndex := 71, descriptorIndex := 58, attributes := #[] }, { accessFlags := 8, nameIndex := 57, descriptorIndex := 58, attributes := #[] }, { accessFlags := 4120, nameIndex := 19, descriptorIndex := 20, attributes := #[] }])
  fields := #[{ name := "low", type := .int, accessFlags := 24, slot := 0, constantValue := 0 }, { name := "high", type := .int, accessFlags := 24, slot := 1, constantValue := 0 }, { name := "cache", type := (.array (.object "java/lang/Integer")), accessFlags := 24, slot := 2, constantValue := 0 }, { name := "archivedCache", type := (.array (.object "java/lang/Integer")), accessFlags := 8, slot := 3, constantValue := 0 }, { name := "$assertionsDisabled", type := .boolean, accessFlags := 4120, slot := 4, constantValue := 0 }]
  methods := #[k15m0]
  instanceTypes := #[]
  staticTypes := #[.int, .int, (.array (.object "java/lang/Integer")), (.array (.object "java/lang/Integer")), .boolean]
  resolved := Array.replicate 100 none
  statics := some 2 }

def pool16 : Array CpInfo := pool [(9, u "<init>"), (6, .class_ 18), (1, u "java/lang/Object"), (0, u "()V"), (1, .class_ 23), (1, u "jdk/internal/util/ArraysSupport"), (0, u "LOG2_ARRAY_LONG_INDEX_SCALE"), (0, u "I"), (2, u "U"), (0, u "Ljdk/internal/misc/Unsafe;"), (8, u "BIG_ENDIAN"), (0, u "Z"), (8, u "LOG2_BYTE_BIT_SIZE"), (4, u "LOG2_ARRAY_INT_INDEX_SCALE"), (54, u "JLA"), (0, u "Ljdk/internal/access/JavaLangAccess;"), (11, u "LOG2_ARRAY_BOOLEAN_INDEX_SCALE"), (9, u "LOG2_ARRAY_BYTE_INDEX_SCALE"), (5, u "LOG2_ARRAY_CHAR_INDEX_SCALE"), (5, u "LOG2_ARRAY_SHORT_INDEX_SCALE"), (18, u "LOG2_ARRAY_FLOAT_INDEX_SCALE"), (24, u "LOG2_ARRAY_DOUBLE_INDEX_SCALE"), (89, u "T_BOOLEAN"), (2, u "T_CHAR"), (1, u "T_FLOAT"), (1, u "T_DOUBLE"), (1, u "T_BYTE"), (1, u "T_SHORT"), (1, u "T_INT"), (1, u "T_LONG"), (1, u "SOFT_MAX_ARRAY_LENGTH")] 83

def k16m0 : Method := { name := "<init>", desc := "()V", sig := { parameters := [], returnType := none }, accessFlags := 2, code := none }
/-- jdk/internal/util/ArraysSupport -/
def k16 : Class := { plain "jdk/internal/util/ArraysSupport" (some 0) with
  accessFlags := 33
  interfaces := #[]
  cf := some (fileOf pool16 21 #[] #[{ accessFlags := 2, nameIndex := 9, descriptorIndex := 19, attributes := #[] }] 33 16 #[] #[{ accessFlags := 24, nameIndex := 28, descriptorIndex := 29, attributes := #[] }, { accessFlags := 26, nameIndex := 38, descriptorIndex := 39, attributes := #[] }, { accessFlags := 25, nameIndex := 121, descriptorIndex := 25, attributes := #[] }, { accessFlags := 25, nameIndex := 131, descriptorIndex := 25, attributes := #[] }, { accessFlags := 25, nameIndex := 137, descriptorIndex := 25, attributes := #[] }, { accessFlags := 25, nameIndex := 143, descriptorIndex := 25, attributes := #[] }, { accessFlags := 25, nameIndex := 53, descriptorIndex := 25, attributes := #[] }, { accessFlags := 25, nameIndex := 24, descriptorIndex := 25, attributes := #[] }, { accessFlags := 25, nameIndex := 162, descriptorIndex := 25, attributes := #[] }, { accessFlags := 25, nameIndex := 187, descriptorIndex := 25, attributes := #[] }, { accessFlags := 26, nameIndex := 48, descriptorIndex := 25, attributes := #[] }, { accessFlags := 25, nameIndex := 277, descriptorIndex := 25, attributes := #[] }, { accessFlags := 25, nameIndex := 280, descriptorIndex := 25, attributes := #[] }, { accessFlags := 25, nameIndex := 282, descriptorIndex := 25, attributes := #[] }, { accessFlags := 25, nameIndex := 284, descriptorIndex := 25, attributes := #[] }, { accessFlags := 25, nameIndex := 286, descriptorIndex := 25, attributes := #[] }, { accessFlags := 25, nameIndex := 288, descriptorIndex := 25, attributes := #[] }, { accessFlags := 25, nameIndex := 290, descriptorIndex := 25, attributes := #[] }, { accessFlags := 25, nameIndex := 292, descriptorIndex := 25, attributes := #[] }, { accessFlags := 26, nameIndex := 108, descriptorIndex := 109, attributes := #[] }, { accessFlags := 25, nameIndex := 294, descriptorIndex := 25, attributes := #[] }])
  fields := #[{ name := "U", type := (.object "jdk/internal/misc/Unsafe"), accessFlags := 24, slot := 0, constantValue := 0 }, { name := "BIG_ENDIAN", type := .boolean, accessFlags := 26, slot := 1, constantValue := 0 }, { name := "LOG2_ARRAY_BOOLEAN_INDEX_SCALE", type := .int, accessFlags := 25, slot := 2, constantValue := 0 }, { name := "LOG2_ARRAY_BYTE_INDEX_SCALE", type := .int, accessFlags := 25, slot := 3, constantValue := 0 }, { name := "LOG2_ARRAY_CHAR_INDEX_SCALE", type := .int, accessFlags := 25, slot := 4, constantValue := 0 }, { name := "LOG2_ARRAY_SHORT_INDEX_SCALE", type := .int, accessFlags := 25, slot := 5, constantValue := 0 }, { name := "LOG2_ARRAY_INT_INDEX_SCALE", type := .int, accessFlags := 25, slot := 6, constantValue := 0 }, { name := "LOG2_ARRAY_LONG_INDEX_SCALE", type := .int, accessFlags := 25, slot := 7, constantValue := 0 }, { name := "LOG2_ARRAY_FLOAT_INDEX_SCALE", type := .int, accessFlags := 25, slot := 8, constantValue := 0 }, { name := "LOG2_ARRAY_DOUBLE_INDEX_SCALE", type := .int, accessFlags := 25, slot := 9, constantValue := 0 }, { name := "LOG2_BYTE_BIT_SIZE", type := .int, accessFlags := 26, slot := 10, constantValue := 0 }, { name := "T_BOOLEAN", type := .int, accessFlags := 25, slot := 11, constantValue := 0 }, { name := "T_CHAR", type := .int, accessFlags := 25, slot := 12, constantValue := 0 }, { name := "T_FLOAT", type := .int, accessFlags := 25, slot := 13, constantValue := 0 }, { name := "T_DOUBLE", type := .int, accessFlags := 25, slot := 14, constantValue := 0 }, { name := "T_BYTE", type := .int, accessFlags := 25, slot := 15, constantValue := 0 }, { name := "T_SHORT", type := .int, accessFlags := 25, slot := 16, constantValue := 0 }, { name := "T_INT", type := .int, accessFlags := 25, slot := 17, constantValue := 0 }, { name := "T_LONG", type := .int, accessFlags := 25, slot := 18, constantValue := 0 }, { name := "JLA", type := (.object "jdk/internal/access/JavaLangAccess"), accessFlags := 26, slot := 19, constantValue := 0 }, { name := "SOFT_MAX_ARRAY_LENGTH", type := .int, accessFlags := 25, slot := 20, constantValue := 0 }]
  methods := #[k16m0]
  instanceTypes := #[]
  staticTypes := #[(.object "jdk/internal/misc/Unsafe"), .boolean, .int, .int, .int, .int, .int, .int, .int, .int, .int, .int, .int, .int, .int, .int, .int, .int, .int, (.object "jdk/internal/access/JavaLangAccess"), .int]
  resolved := Array.replicate 378 none
  statics := none }

def pool17 : Array CpInfo := pool [(1, u "java/lang/Cloneable"), (0, .class_ 1), (0, u "java/lang/Object"), (0, .class_ 3)] 3

/-- java/lang/Cloneable -/
def k17 : Class := { plain "java/lang/Cloneable" (some 0) with
  accessFlags := 1537
  interfaces := #[]
  cf := some (fileOf pool17 2 #[] #[] 1537 4 #[] #[])
  fields := #[]
  methods := #[]
  instanceTypes := #[]
  staticTypes := #[]
  resolved := Array.replicate 8 none
  statics := none }

/-- the primitive byte -/
def k18 : Class := { plain "byte" none with kind := .primitive 'B', accessFlags := 0x411 }
/-- [B -/
def k19 : Class := { plain "[B" (some 0) with kind := .array 18 .byte, interfaces := #[17, 2], accessFlags := 1041 }

/-- the primitive char -/
def k20 : Class := { plain "char" none with kind := .primitive 'C', accessFlags := 0x411 }
/-- [C -/
def k21 : Class := { plain "[C" (some 0) with kind := .array 20 .char, interfaces := #[17, 2], accessFlags := 1041 }

/-- the primitive int -/
def k22 : Class := { plain "int" none with kind := .primitive 'I', accessFlags := 0x411 }
/-- [I -/
def k23 : Class := { plain "[I" (some 0) with kind := .array 22 .int, interfaces := #[17, 2], accessFlags := 1041 }

/-- the primitive long -/
def k24 : Class := { plain "long" none with kind := .primitive 'J', accessFlags := 0x411 }
/-- [J -/
def k25 : Class := { plain "[J" (some 0) with kind := .array 24 .long, interfaces := #[17, 2], accessFlags := 1041 }

/-- [Ljava/lang/Integer; -/
def k26 : Class := { plain "[Ljava/lang/Integer;" (some 0) with kind := .array 14 (.object "java/lang/Integer"), interfaces := #[17, 2], accessFlags := 1041 }

def heap : Heap := #[{ cls := 7, slots := #[.long 0, .int 1, .null, .int 0, .null, .int 0, .int 0], vm := .statics 7 },
  { cls := 11, slots := #[.null, .null, .null], vm := .statics 11 },
  { cls := 15, slots := #[.int 0, .int 127, .ref 3, .null, .int 0], vm := .statics 15 },
  { cls := 26, slots := #[.ref 4, .ref 5, .ref 6, .ref 7, .ref 8, .ref 9, .ref 10, .ref 11, .ref 12, .ref 13, .ref 14, .ref 15, .ref 16, .ref 17, .ref 18, .ref 19, .ref 20, .ref 21, .ref 22, .ref 23, .ref 24, .ref 25, .ref 26, .ref 27, .ref 28, .ref 29, .ref 30, .ref 31, .ref 32, .ref 33, .ref 34, .ref 35, .ref 36, .ref 37, .ref 38, .ref 39, .ref 40, .ref 41, .ref 42, .ref 43, .ref 44, .ref 45, .ref 46, .ref 47, .ref 48, .ref 49, .ref 50, .ref 51, .ref 52, .ref 53, .ref 54, .ref 55, .ref 56, .ref 57, .ref 58, .ref 59, .ref 60, .ref 61, .ref 62, .ref 63, .ref 64, .ref 65, .ref 66, .ref 67, .ref 68, .ref 69, .ref 70, .ref 71, .ref 72, .ref 73, .ref 74, .ref 75, .ref 76, .ref 77, .ref 78, .ref 79, .ref 80, .ref 81, .ref 82, .ref 83, .ref 84, .ref 85, .ref 86, .ref 87, .ref 88, .ref 89, .ref 90, .ref 91, .ref 92, .ref 93, .ref 94, .ref 95, .ref 96, .ref 97, .ref 98, .ref 99, .ref 100, .ref 101, .ref 102, .ref 103, .ref 104, .ref 105, .ref 106, .ref 107, .ref 108, .ref 109, .ref 110, .ref 111, .ref 112, .ref 113, .ref 114, .ref 115, .ref 116, .ref 117, .ref 118, .ref 119, .ref 120, .ref 121, .ref 122, .ref 123, .ref 124, .ref 125, .ref 126, .ref 127, .ref 128, .ref 129, .ref 130, .ref 131, .ref 132, .ref 133, .ref 134, .ref 135, .ref 136, .ref 137, .ref 138, .ref 139, .ref 140, .ref 141, .ref 142, .ref 143, .ref 144, .ref 145, .ref 146, .ref 147, .ref 148, .ref 149, .ref 150, .ref 151, .ref 152, .ref 153, .ref 154, .ref 155, .ref 156, .ref 157, .ref 158, .ref 159, .ref 160, .ref 161, .ref 162, .ref 163, .ref 164, .ref 165, .ref 166, .ref 167, .ref 168, .ref 169, .ref 170, .ref 171, .ref 172, .ref 173, .ref 174, .ref 175, .ref 176, .ref 177, .ref 178, .ref 179, .ref 180, .ref 181, .ref 182, .ref 183, .ref 184, .ref 185, .ref 186, .ref 187, .ref 188, .ref 189, .ref 190, .ref 191, .ref 192, .ref 193, .ref 194, .ref 195, .ref 196, .ref 197, .ref 198, .ref 199, .ref 200, .ref 201, .ref 202, .ref 203, .ref 204, .ref 205, .ref 206, .ref 207, .ref 208, .ref 209, .ref 210, .ref 211, .ref 212, .ref 213, .ref 214, .ref 215, .ref 216, .ref 217, .ref 218, .ref 219, .ref 220, .ref 221, .ref 222, .ref 223, .ref 224, .ref 225, .ref 226, .ref 227, .ref 228, .ref 229, .ref 230, .ref 231, .ref 232, .ref 233, .ref 234, .ref 235, .ref 236, .ref 237, .ref 238, .ref 239, .ref 240, .ref 241, .ref 242, .ref 243, .ref 244, .ref 245, .ref 246, .ref 247, .ref 248, .ref 249, .ref 250, .ref 251, .ref 252, .ref 253, .ref 254, .ref 255, .ref 256, .ref 257, .ref 258, .ref 259], vm := .none },
  { cls := 14, slots := #[.int (-128)], vm := .none },
  { cls := 14, slots := #[.int (-127)], vm := .none },
  { cls := 14, slots := #[.int (-126)], vm := .none },
  { cls := 14, slots := #[.int (-125)], vm := .none },
  { cls := 14, slots := #[.int (-124)], vm := .none },
  { cls := 14, slots := #[.int (-123)], vm := .none },
  { cls := 14, slots := #[.int (-122)], vm := .none },
  { cls := 14, slots := #[.int (-121)], vm := .none },
  { cls := 14, slots := #[.int (-120)], vm := .none },
  { cls := 14, slots := #[.int (-119)], vm := .none },
  { cls := 14, slots := #[.int (-118)], vm := .none },
  { cls := 14, slots := #[.int (-117)], vm := .none },
  { cls := 14, slots := #[.int (-116)], vm := .none },
  { cls := 14, slots := #[.int (-115)], vm := .none },
  { cls := 14, slots := #[.int (-114)], vm := .none },
  { cls := 14, slots := #[.int (-113)], vm := .none },
  { cls := 14, slots := #[.int (-112)], vm := .none },
  { cls := 14, slots := #[.int (-111)], vm := .none },
  { cls := 14, slots := #[.int (-110)], vm := .none },
  { cls := 14, slots := #[.int (-109)], vm := .none },
  { cls := 14, slots := #[.int (-108)], vm := .none },
  { cls := 14, slots := #[.int (-107)], vm := .none },
  { cls := 14, slots := #[.int (-106)], vm := .none },
  { cls := 14, slots := #[.int (-105)], vm := .none },
  { cls := 14, slots := #[.int (-104)], vm := .none },
  { cls := 14, slots := #[.int (-103)], vm := .none },
  { cls := 14, slots := #[.int (-102)], vm := .none },
  { cls := 14, slots := #[.int (-101)], vm := .none },
  { cls := 14, slots := #[.int (-100)], vm := .none },
  { cls := 14, slots := #[.int (-99)], vm := .none },
  { cls := 14, slots := #[.int (-98)], vm := .none },
  { cls := 14, slots := #[.int (-97)], vm := .none },
  { cls := 14, slots := #[.int (-96)], vm := .none },
  { cls := 14, slots := #[.int (-95)], vm := .none },
  { cls := 14, slots := #[.int (-94)], vm := .none },
  { cls := 14, slots := #[.int (-93)], vm := .none },
  { cls := 14, slots := #[.int (-92)], vm := .none },
  { cls := 14, slots := #[.int (-91)], vm := .none },
  { cls := 14, slots := #[.int (-90)], vm := .none },
  { cls := 14, slots := #[.int (-89)], vm := .none },
  { cls := 14, slots := #[.int (-88)], vm := .none },
  { cls := 14, slots := #[.int (-87)], vm := .none },
  { cls := 14, slots := #[.int (-86)], vm := .none },
  { cls := 14, slots := #[.int (-85)], vm := .none },
  { cls := 14, slots := #[.int (-84)], vm := .none },
  { cls := 14, slots := #[.int (-83)], vm := .none },
  { cls := 14, slots := #[.int (-82)], vm := .none },
  { cls := 14, slots := #[.int (-81)], vm := .none },
  { cls := 14, slots := #[.int (-80)], vm := .none },
  { cls := 14, slots := #[.int (-79)], vm := .none },
  { cls := 14, slots := #[.int (-78)], vm := .none },
  { cls := 14, slots := #[.int (-77)], vm := .none },
  { cls := 14, slots := #[.int (-76)], vm := .none },
  { cls := 14, slots := #[.int (-75)], vm := .none },
  { cls := 14, slots := #[.int (-74)], vm := .none },
  { cls := 14, slots := #[.int (-73)], vm := .none },
  { cls := 14, slots := #[.int (-72)], vm := .none },
  { cls := 14, slots := #[.int (-71)], vm := .none },
  { cls := 14, slots := #[.int (-70)], vm := .none },
  { cls := 14, slots := #[.int (-69)], vm := .none },
  { cls := 14, slots := #[.int (-68)], vm := .none },
  { cls := 14, slots := #[.int (-67)], vm := .none },
  { cls := 14, slots := #[.int (-66)], vm := .none },
  { cls := 14, slots := #[.int (-65)], vm := .none },
  { cls := 14, slots := #[.int (-64)], vm := .none },
  { cls := 14, slots := #[.int (-63)], vm := .none },
  { cls := 14, slots := #[.int (-62)], vm := .none },
  { cls := 14, slots := #[.int (-61)], vm := .none },
  { cls := 14, slots := #[.int (-60)], vm := .none },
  { cls := 14, slots := #[.int (-59)], vm := .none },
  { cls := 14, slots := #[.int (-58)], vm := .none },
  { cls := 14, slots := #[.int (-57)], vm := .none },
  { cls := 14, slots := #[.int (-56)], vm := .none },
  { cls := 14, slots := #[.int (-55)], vm := .none },
  { cls := 14, slots := #[.int (-54)], vm := .none },
  { cls := 14, slots := #[.int (-53)], vm := .none },
  { cls := 14, slots := #[.int (-52)], vm := .none },
  { cls := 14, slots := #[.int (-51)], vm := .none },
  { cls := 14, slots := #[.int (-50)], vm := .none },
  { cls := 14, slots := #[.int (-49)], vm := .none },
  { cls := 14, slots := #[.int (-48)], vm := .none },
  { cls := 14, slots := #[.int (-47)], vm := .none },
  { cls := 14, slots := #[.int (-46)], vm := .none },
  { cls := 14, slots := #[.int (-45)], vm := .none },
  { cls := 14, slots := #[.int (-44)], vm := .none },
  { cls := 14, slots := #[.int (-43)], vm := .none },
  { cls := 14, slots := #[.int (-42)], vm := .none },
  { cls := 14, slots := #[.int (-41)], vm := .none },
  { cls := 14, slots := #[.int (-40)], vm := .none },
  { cls := 14, slots := #[.int (-39)], vm := .none },
  { cls := 14, slots := #[.int (-38)], vm := .none },
  { cls := 14, slots := #[.int (-37)], vm := .none },
  { cls := 14, slots := #[.int (-36)], vm := .none },
  { cls := 14, slots := #[.int (-35)], vm := .none },
  { cls := 14, slots := #[.int (-34)], vm := .none },
  { cls := 14, slots := #[.int (-33)], vm := .none },
  { cls := 14, slots := #[.int (-32)], vm := .none },
  { cls := 14, slots := #[.int (-31)], vm := .none },
  { cls := 14, slots := #[.int (-30)], vm := .none },
  { cls := 14, slots := #[.int (-29)], vm := .none },
  { cls := 14, slots := #[.int (-28)], vm := .none },
  { cls := 14, slots := #[.int (-27)], vm := .none },
  { cls := 14, slots := #[.int (-26)], vm := .none },
  { cls := 14, slots := #[.int (-25)], vm := .none },
  { cls := 14, slots := #[.int (-24)], vm := .none },
  { cls := 14, slots := #[.int (-23)], vm := .none },
  { cls := 14, slots := #[.int (-22)], vm := .none },
  { cls := 14, slots := #[.int (-21)], vm := .none },
  { cls := 14, slots := #[.int (-20)], vm := .none },
  { cls := 14, slots := #[.int (-19)], vm := .none },
  { cls := 14, slots := #[.int (-18)], vm := .none },
  { cls := 14, slots := #[.int (-17)], vm := .none },
  { cls := 14, slots := #[.int (-16)], vm := .none },
  { cls := 14, slots := #[.int (-15)], vm := .none },
  { cls := 14, slots := #[.int (-14)], vm := .none },
  { cls := 14, slots := #[.int (-13)], vm := .none },
  { cls := 14, slots := #[.int (-12)], vm := .none },
  { cls := 14, slots := #[.int (-11)], vm := .none },
  { cls := 14, slots := #[.int (-10)], vm := .none },
  { cls := 14, slots := #[.int (-9)], vm := .none },
  { cls := 14, slots := #[.int (-8)], vm := .none },
  { cls := 14, slots := #[.int (-7)], vm := .none },
  { cls := 14, slots := #[.int (-6)], vm := .none },
  { cls := 14, slots := #[.int (-5)], vm := .none },
  { cls := 14, slots := #[.int (-4)], vm := .none },
  { cls := 14, slots := #[.int (-3)], vm := .none },
  { cls := 14, slots := #[.int (-2)], vm := .none },
  { cls := 14, slots := #[.int (-1)], vm := .none },
  { cls := 14, slots := #[.int 0], vm := .none },
  { cls := 14, slots := #[.int 1], vm := .none },
  { cls := 14, slots := #[.int 2], vm := .none },
  { cls := 14, slots := #[.int 3], vm := .none },
  { cls := 14, slots := #[.int 4], vm := .none },
  { cls := 14, slots := #[.int 5], vm := .none },
  { cls := 14, slots := #[.int 6], vm := .none },
  { cls := 14, slots := #[.int 7], vm := .none },
  { cls := 14, slots := #[.int 8], vm := .none },
  { cls := 14, slots := #[.int 9], vm := .none },
  { cls := 14, slots := #[.int 10], vm := .none },
  { cls := 14, slots := #[.int 11], vm := .none },
  { cls := 14, slots := #[.int 12], vm := .none },
  { cls := 14, slots := #[.int 13], vm := .none },
  { cls := 14, slots := #[.int 14], vm := .none },
  { cls := 14, slots := #[.int 15], vm := .none },
  { cls := 14, slots := #[.int 16], vm := .none },
  { cls := 14, slots := #[.int 17], vm := .none },
  { cls := 14, slots := #[.int 18], vm := .none },
  { cls := 14, slots := #[.int 19], vm := .none },
  { cls := 14, slots := #[.int 20], vm := .none },
  { cls := 14, slots := #[.int 21], vm := .none },
  { cls := 14, slots := #[.int 22], vm := .none },
  { cls := 14, slots := #[.int 23], vm := .none },
  { cls := 14, slots := #[.int 24], vm := .none },
  { cls := 14, slots := #[.int 25], vm := .none },
  { cls := 14, slots := #[.int 26], vm := .none },
  { cls := 14, slots := #[.int 27], vm := .none },
  { cls := 14, slots := #[.int 28], vm := .none },
  { cls := 14, slots := #[.int 29], vm := .none },
  { cls := 14, slots := #[.int 30], vm := .none },
  { cls := 14, slots := #[.int 31], vm := .none },
  { cls := 14, slots := #[.int 32], vm := .none },
  { cls := 14, slots := #[.int 33], vm := .none },
  { cls := 14, slots := #[.int 34], vm := .none },
  { cls := 14, slots := #[.int 35], vm := .none },
  { cls := 14, slots := #[.int 36], vm := .none },
  { cls := 14, slots := #[.int 37], vm := .none },
  { cls := 14, slots := #[.int 38], vm := .none },
  { cls := 14, slots := #[.int 39], vm := .none },
  { cls := 14, slots := #[.int 40], vm := .none },
  { cls := 14, slots := #[.int 41], vm := .none },
  { cls := 14, slots := #[.int 42], vm := .none },
  { cls := 14, slots := #[.int 43], vm := .none },
  { cls := 14, slots := #[.int 44], vm := .none },
  { cls := 14, slots := #[.int 45], vm := .none },
  { cls := 14, slots := #[.int 46], vm := .none },
  { cls := 14, slots := #[.int 47], vm := .none },
  { cls := 14, slots := #[.int 48], vm := .none },
  { cls := 14, slots := #[.int 49], vm := .none },
  { cls := 14, slots := #[.int 50], vm := .none },
  { cls := 14, slots := #[.int 51], vm := .none },
  { cls := 14, slots := #[.int 52], vm := .none },
  { cls := 14, slots := #[.int 53], vm := .none },
  { cls := 14, slots := #[.int 54], vm := .none },
  { cls := 14, slots := #[.int 55], vm := .none },
  { cls := 14, slots := #[.int 56], vm := .none },
  { cls := 14, slots := #[.int 57], vm := .none },
  { cls := 14, slots := #[.int 58], vm := .none },
  { cls := 14, slots := #[.int 59], vm := .none },
  { cls := 14, slots := #[.int 60], vm := .none },
  { cls := 14, slots := #[.int 61], vm := .none },
  { cls := 14, slots := #[.int 62], vm := .none },
  { cls := 14, slots := #[.int 63], vm := .none },
  { cls := 14, slots := #[.int 64], vm := .none },
  { cls := 14, slots := #[.int 65], vm := .none },
  { cls := 14, slots := #[.int 66], vm := .none },
  { cls := 14, slots := #[.int 67], vm := .none },
  { cls := 14, slots := #[.int 68], vm := .none },
  { cls := 14, slots := #[.int 69], vm := .none },
  { cls := 14, slots := #[.int 70], vm := .none },
  { cls := 14, slots := #[.int 71], vm := .none },
  { cls := 14, slots := #[.int 72], vm := .none },
  { cls := 14, slots := #[.int 73], vm := .none },
  { cls := 14, slots := #[.int 74], vm := .none },
  { cls := 14, slots := #[.int 75], vm := .none },
  { cls := 14, slots := #[.int 76], vm := .none },
  { cls := 14, slots := #[.int 77], vm := .none },
  { cls := 14, slots := #[.int 78], vm := .none },
  { cls := 14, slots := #[.int 79], vm := .none },
  { cls := 14, slots := #[.int 80], vm := .none },
  { cls := 14, slots := #[.int 81], vm := .none },
  { cls := 14, slots := #[.int 82], vm := .none },
  { cls := 14, slots := #[.int 83], vm := .none },
  { cls := 14, slots := #[.int 84], vm := .none },
  { cls := 14, slots := #[.int 85], vm := .none },
  { cls := 14, slots := #[.int 86], vm := .none },
  { cls := 14, slots := #[.int 87], vm := .none },
  { cls := 14, slots := #[.int 88], vm := .none },
  { cls := 14, slots := #[.int 89], vm := .none },
  { cls := 14, slots := #[.int 90], vm := .none },
  { cls := 14, slots := #[.int 91], vm := .none },
  { cls := 14, slots := #[.int 92], vm := .none },
  { cls := 14, slots := #[.int 93], vm := .none },
  { cls := 14, slots := #[.int 94], vm := .none },
  { cls := 14, slots := #[.int 95], vm := .none },
  { cls := 14, slots := #[.int 96], vm := .none },
  { cls := 14, slots := #[.int 97], vm := .none },
  { cls := 14, slots := #[.int 98], vm := .none },
  { cls := 14, slots := #[.int 99], vm := .none },
  { cls := 14, slots := #[.int 100], vm := .none },
  { cls := 14, slots := #[.int 101], vm := .none },
  { cls := 14, slots := #[.int 102], vm := .none },
  { cls := 14, slots := #[.int 103], vm := .none },
  { cls := 14, slots := #[.int 104], vm := .none },
  { cls := 14, slots := #[.int 105], vm := .none },
  { cls := 14, slots := #[.int 106], vm := .none },
  { cls := 14, slots := #[.int 107], vm := .none },
  { cls := 14, slots := #[.int 108], vm := .none },
  { cls := 14, slots := #[.int 109], vm := .none },
  { cls := 14, slots := #[.int 110], vm := .none },
  { cls := 14, slots := #[.int 111], vm := .none },
  { cls := 14, slots := #[.int 112], vm := .none },
  { cls := 14, slots := #[.int 113], vm := .none },
  { cls := 14, slots := #[.int 114], vm := .none },
  { cls := 14, slots := #[.int 115], vm := .none },
  { cls := 14, slots := #[.int 116], vm := .none },
  { cls := 14, slots := #[.int 117], vm := .none },
  { cls := 14, slots := #[.int 118], vm := .none },
  { cls := 14, slots := #[.int 119], vm := .none },
  { cls := 14, slots := #[.int 120], vm := .none },
  { cls := 14, slots := #[.int 121], vm := .none },
  { cls := 14, slots := #[.int 122], vm := .none },
  { cls := 14, slots := #[.int 123], vm := .none },
  { cls := 14, slots := #[.int 124], vm := .none },
  { cls := 14, slots := #[.int 125], vm := .none },
  { cls := 14, slots := #[.int 126], vm := .none },
  { cls := 14, slots := #[.int 127], vm := .none }]
def classes : Array Class := #[k0, k1, k2, k3, k4, k5, k6, k7, k8, k9, k10, k11, k12, k13, k14, k15, k16, k17, k18, k19, k20, k21, k22, k23, k24, k25, k26]
def interned : List (Array UInt16 × Addr) := []
def slotsUsed : Nat := 527
def theMethod : MethodId := ⟨1, 4⟩
def args0 : Array Value := #[.int 5, .int 9, .int 3, .int 4, .int 7, .int 11]
def aboutOver (below : List Frame) : State where
  vm := { classes := classes, interned := interned.toArray }
  heap := heap
  slotsUsed := slotsUsed
  threads := #[{ frames := .invoking theMethod args0 :: below }]
def below0 : List Frame := [.native { method := ⟨0, 0⟩, args := #[] }]
def about1 : State := aboutOver below0
def p0 : Program := .bare "" "" ""
def e0 : Env := launch0.env 0 0 0
theorem w_frames : about1.frames = Frame.invoking theMethod args0 :: below0 := rfl
set_option maxRecDepth 65536 in
theorem w_args : argsFit about1.vm theMethod args0 = true := by decide +kernel
set_option maxRecDepth 65536 in
theorem w_heap : heapFits about1 = true := by decide +kernel
set_option maxRecDepth 65536 in
theorem w_runnable : about1.curStatus? = some .runnable := by decide +kernel
set_option maxRecDepth 65536 in
theorem w_alone : about1.alone = true := by decide +kernel
set_option maxRecDepth 65536 in
theorem w_named : about1.methodNamed? x = some theMethod := by decide +kernel
set_option maxRecDepth 65536 in
theorem w_hears : about1.hears theMethod below0 = true := by decide +kernel
set_option maxRecDepth 65536 in
theorem w_ripe : about1.ripe theMethod args0 below0 = true := by decide +kernel
theorem w_running : about1.status = .running := rfl
set_option maxRecDepth 65536 in
theorem w_room : about1.hasRoom e0.platform room_1 = true :=
  launch0.hasRoom_least _ room_1 (by decide +kernel) (by decide +kernel) (by decide +kernel) (by decide +kernel) (by decide +kernel) (by decide +kernel)
theorem allAtoms_all (ts : List Jvm.Cond) (a : Array Jvm.Value) (st : Jvm.State) : (allAtoms ts).before a st = ts.all (fun c => c.before a st) := by
  induction ts with
  | nil => rfl
  | cons c t ih =>
    show (Jvm.Cond.and c (allAtoms t)).before a st = _
    rw [Jvm.Cond.before_and, ih, List.all_cons]
def words1 : List Jvm.Cond := Jvm.Cond.code x code maxLocals ret :: tables_1
/-- a 'code' word, met by the world's own term for the bytes: nothing is compared byte by byte -/
theorem code_word {y : MethodName} {bytes : ByteArray} {mx : Nat} {rt : Option FieldType} {a : Array Value} {s : State} {m : MethodId} {meth : Method} {c : Code} (h1 : s.methodNamed? y = some m) (h2 : s.vm.method? m = some meth) (h3 : meth.code = some c) (h4 : c.code = bytes)
    (h5 : (c.maxLocals == mx && c.exceptionTable.isEmpty && decide (c.maxStack ≤ mostOperands) && decide (meth.sig.returnType = rt) && !meth.locks && decide (parseMethodDescriptor y.desc = some meth.sig)) = true) : (Jvm.Cond.code y bytes mx rt).before a s = true := by
  simp only [Bool.and_eq_true, beq_iff_eq, Bool.not_eq_true', decide_eq_true_eq] at h5
  obtain ⟨⟨⟨⟨⟨g1, g2⟩, g3⟩, g4⟩, g5⟩, g6⟩ := h5
  simp [Cond.before, Cond.holds, Cond.value, h1, h2, h3, h4, g1, g2, g3, g4, g5, g6]
def isCode : Jvm.Cond → Bool
  | .code _ _ _ _ => true
  | _ => false
theorem all_split {L : List Jvm.Cond} {P : Jvm.Cond → Bool} (h1 : L.all (fun c => isCode c || P c) = true) (h2 : ∀ c ∈ L.filter isCode, P c = true) : L.all P = true := by
  refine List.all_eq_true.mpr fun c hc => ?_
  have h := List.all_eq_true.mp h1 c hc
  rcases Bool.eq_false_or_eq_true (isCode c) with hi | hi
  · exact h2 c (List.mem_filter.mpr ⟨hc, hi⟩)
  · simpa [hi] using h
set_option maxRecDepth 65536 in
theorem w_c0 : (Jvm.Cond.code x code maxLocals ret).before args0 about1 = true := code_word (m := ⟨1, 4⟩) (meth := k1m4) (c := k1c4) (by decide +kernel) rfl rfl rfl (by decide +kernel)
set_option maxRecDepth 65536 in
theorem w_c1 : (Jvm.Cond.code ({ cls := "com/example/makewhole/makewhole/input/NotationWholeNumberPinLaw", name := "pick", desc := "(I)C" } : Jvm.MethodName) method_2_code (2 : Nat) (Option.some Jvm.ClassFile.FieldType.char)).before args0 about1 = true := code_word (m := ⟨1, 1⟩) (meth := k1m1) (c := k1c1) (by decide +kernel) rfl rfl rfl (by decide +kernel)
set_option maxRecDepth 65536 in
theorem w_c2 : (Jvm.Cond.code ({ cls := "java/lang/String", name := "<init>", desc := "([C)V" } : Jvm.MethodName) jdk_42_method_3_code (2 : Nat) (Option.none : Option Jvm.ClassFile.FieldType)).before args0 about1 = true := code_word (m := ⟨7, 1⟩) (meth := k7m1) (c := k7c1) (by decide +kernel) rfl rfl rfl (by decide +kernel)
set_option maxRecDepth 65536 in
theorem w_c3 : (Jvm.Cond.code ({ cls := "java/lang/String", name := "<init>", desc := "([CIILjava/lang/Void;)V" } : Jvm.MethodName) jdk_42_method_149_code (6 : Nat) (Option.none : Option Jvm.ClassFile.FieldType)).before args0 about1 = true := code_word (m := ⟨7, 3⟩) (meth := k7m3) (c := k7c3) (by decide +kernel) rfl rfl rfl (by decide +kernel)
set_option maxRecDepth 65536 in
theorem w_c4 : (Jvm.Cond.code ({ cls := "java/lang/Object", name := "<init>", desc := "()V" } : Jvm.MethodName) object_method_1_code (1 : Nat) (Option.none : Option Jvm.ClassFile.FieldType)).before args0 about1 = true := code_word (m := ⟨0, 0⟩) (meth := k0m0) (c := k0c0) (by decide +kernel) rfl rfl rfl (by decide +kernel)
set_option maxRecDepth 65536 in
theorem w_c5 : (Jvm.Cond.code ({ cls := "java/lang/StringUTF16", name := "compress", desc := "([CII)[B" } : Jvm.MethodName) jdk_52_method_16_code (6 : Nat) (Option.some (Jvm.ClassFile.FieldType.array Jvm.ClassFile.FieldType.byte))).before args0 about1 = true := code_word (m := ⟨8, 2⟩) (meth := k8m2) (c := k8c2) (by decide +kernel) rfl rfl rfl (by decide +kernel)
set_option maxRecDepth 65536 in
theorem w_c6 : (Jvm.Cond.code ({ cls := "java/lang/StringUTF16", name := "compress", desc := "([CI[BII)I" } : Jvm.MethodName) jdk_52_method_21_code (7 : Nat) (Option.some Jvm.ClassFile.FieldType.int)).before args0 about1 = true := code_word (m := ⟨8, 3⟩) (meth := k8m3) (c := k8c3) (by decide +kernel) rfl rfl rfl (by decide +kernel)
set_option maxRecDepth 65536 in
theorem w_c7 : (Jvm.Cond.code ({ cls := "java/lang/StringUTF16", name := "coderFromArrayLen", desc := "([BI)B" } : Jvm.MethodName) jdk_52_method_15_code (2 : Nat) (Option.some Jvm.ClassFile.FieldType.byte)).before args0 about1 = true := code_word (m := ⟨8, 1⟩) (meth := k8m1) (c := k8c1) (by decide +kernel) rfl rfl rfl (by decide +kernel)
set_option maxRecDepth 65536 in
theorem w_c8 : (Jvm.Cond.code ({ cls := "com/example/makewhole/makewhole/input/NotationWholeNumberPinLaw", name := "bad", desc := "([CIII)Z" } : Jvm.MethodName) method_3_code (5 : Nat) (Option.some Jvm.ClassFile.FieldType.boolean)).before args0 about1 = true := code_word (m := ⟨1, 2⟩) (meth := k1m2) (c := k1c2) (by decide +kernel) rfl rfl rfl (by decide +kernel)
set_option maxRecDepth 65536 in
theorem w_c9 : (Jvm.Cond.code ({ cls := "com/example/makewhole/makewhole/input/NotationWholeNumberPinLaw", name := "term", desc := "([CIII)J" } : Jvm.MethodName) method_4_code (6 : Nat) (Option.some Jvm.ClassFile.FieldType.long)).before args0 about1 = true := code_word (m := ⟨1, 3⟩) (meth := k1m3) (c := k1c3) (by decide +kernel) rfl rfl rfl (by decide +kernel)
set_option maxRecDepth 65536 in
theorem w_c10 : (Jvm.Cond.code ({ cls := "com/example/makewhole/makewhole/input/Notation", name := "wholeNumber", desc := "(Ljava/lang/String;II)Ljava/lang/Integer;" } : Jvm.MethodName) prog_9_method_6_code (3 : Nat) (Option.some (Jvm.ClassFile.FieldType.object "java/lang/Integer"))).before args0 about1 = true := code_word (m := ⟨9, 1⟩) (meth := k9m1) (c := k9c1) (by decide +kernel) rfl rfl rfl (by decide +kernel)
set_option maxRecDepth 65536 in
theorem w_c11 : (Jvm.Cond.code ({ cls := "com/example/makewhole/makewhole/input/Notation", name := "isDigits", desc := "(Ljava/lang/String;II)Z" } : Jvm.MethodName) prog_9_method_18_code (5 : Nat) (Option.some Jvm.ClassFile.FieldType.boolean)).before args0 about1 = true := code_word (m := ⟨9, 2⟩) (meth := k9m2) (c := k9c2) (by decide +kernel) rfl rfl rfl (by decide +kernel)
set_option maxRecDepth 65536 in
theorem w_c12 : (Jvm.Cond.code ({ cls := "java/lang/String", name := "charAt", desc := "(I)C" } : Jvm.MethodName) jdk_42_method_56_code (2 : Nat) (Option.some Jvm.ClassFile.FieldType.char)).before args0 about1 = true := code_word (m := ⟨7, 2⟩) (meth := k7m2) (c := k7c2) (by decide +kernel) rfl rfl rfl (by decide +kernel)
set_option maxRecDepth 65536 in
theorem w_c13 : (Jvm.Cond.code ({ cls := "java/lang/String", name := "isLatin1", desc := "()Z" } : Jvm.MethodName) jdk_42_method_154_code (1 : Nat) (Option.some Jvm.ClassFile.FieldType.boolean)).before args0 about1 = true := code_word (m := ⟨7, 4⟩) (meth := k7m4) (c := k7c4) (by decide +kernel) rfl rfl rfl (by decide +kernel)
set_option maxRecDepth 65536 in
theorem w_c14 : (Jvm.Cond.code ({ cls := "java/lang/StringLatin1", name := "charAt", desc := "([BI)C" } : Jvm.MethodName) jdk_43_method_2_code (2 : Nat) (Option.some Jvm.ClassFile.FieldType.char)).before args0 about1 = true := code_word (m := ⟨10, 1⟩) (meth := k10m1) (c := k10c1) (by decide +kernel) rfl rfl rfl (by decide +kernel)
set_option maxRecDepth 65536 in
theorem w_c15 : (Jvm.Cond.code ({ cls := "java/lang/String", name := "checkIndex", desc := "(II)V" } : Jvm.MethodName) jdk_42_method_155_code (2 : Nat) (Option.none : Option Jvm.ClassFile.FieldType)).before args0 about1 = true := code_word (m := ⟨7, 5⟩) (meth := k7m5) (c := k7c5) (by decide +kernel) rfl rfl rfl (by decide +kernel)
set_option maxRecDepth 65536 in
theorem w_c16 : (Jvm.Cond.code ({ cls := "jdk/internal/util/Preconditions", name := "checkIndex", desc := "(IILjava/util/function/BiFunction;)I" } : Jvm.MethodName) jdk_41_method_11_code (3 : Nat) (Option.some Jvm.ClassFile.FieldType.int)).before args0 about1 = true := code_word (m := ⟨11, 1⟩) (meth := k11m1) (c := k11c1) (by decide +kernel) rfl rfl rfl (by decide +kernel)
set_option maxRecDepth 65536 in
theorem w_c17 : (Jvm.Cond.code ({ cls := "com/example/makewhole/makewhole/input/Notation", name := "digitsValue", desc := "(Ljava/lang/String;II)J" } : Jvm.MethodName) prog_9_method_19_code (7 : Nat) (Option.some Jvm.ClassFile.FieldType.long)).before args0 about1 = true := code_word (m := ⟨9, 3⟩) (meth := k9m3) (c := k9c3) (by decide +kernel) rfl rfl rfl (by decide +kernel)
set_option maxRecDepth 65536 in
theorem w_c18 : (Jvm.Cond.code ({ cls := "java/lang/Math", name := "toIntExact", desc := "(J)I" } : Jvm.MethodName) jdk_29_method_43_code (2 : Nat) (Option.some Jvm.ClassFile.FieldType.int)).before args0 about1 = true := code_word (m := ⟨12, 1⟩) (meth := k12m1) (c := k12c1) (by decide +kernel) rfl rfl rfl (by decide +kernel)
set_option maxRecDepth 65536 in
theorem w_c19 : (Jvm.Cond.code ({ cls := "java/lang/Integer", name := "valueOf", desc := "(I)Ljava/lang/Integer;" } : Jvm.MethodName) jdk_33_method_22_code (1 : Nat) (Option.some (Jvm.ClassFile.FieldType.object "java/lang/Integer"))).before args0 about1 = true := code_word (m := ⟨14, 0⟩) (meth := k14m0) (c := k14c0) (by decide +kernel) rfl rfl rfl (by decide +kernel)
set_option maxRecDepth 65536 in
theorem w_c20 : (Jvm.Cond.code ({ cls := "java/lang/Integer", name := "longValue", desc := "()J" } : Jvm.MethodName) jdk_33_method_28_code (1 : Nat) (Option.some Jvm.ClassFile.FieldType.long)).before args0 about1 = true := code_word (m := ⟨14, 2⟩) (meth := k14m2) (c := k14c2) (by decide +kernel) rfl rfl rfl (by decide +kernel)
set_option maxRecDepth 65536 in
theorem w_c21 : (Jvm.Cond.code ({ cls := "java/lang/Integer", name := "<init>", desc := "(I)V" } : Jvm.MethodName) jdk_33_method_23_code (2 : Nat) (Option.none : Option Jvm.ClassFile.FieldType)).before args0 about1 = true := code_word (m := ⟨14, 1⟩) (meth := k14m1) (c := k14c1) (by decide +kernel) rfl rfl rfl (by decide +kernel)
set_option maxRecDepth 65536 in
theorem w_c22 : (Jvm.Cond.code ({ cls := "java/lang/Number", name := "<init>", desc := "()V" } : Jvm.MethodName) jdk_18_method_1_code (1 : Nat) (Option.none : Option Jvm.ClassFile.FieldType)).before args0 about1 = true := code_word (m := ⟨13, 0⟩) (meth := k13m0) (c := k13c0) (by decide +kernel) rfl rfl rfl (by decide +kernel)
def codes1 : List Jvm.Cond := [Jvm.Cond.code x code maxLocals ret, Jvm.Cond.code ({ cls := "com/example/makewhole/makewhole/input/NotationWholeNumberPinLaw", name := "pick", desc := "(I)C" } : Jvm.MethodName) method_2_code (2 : Nat) (Option.some Jvm.ClassFile.FieldType.char), Jvm.Cond.code ({ cls := "java/lang/String", name := "<init>", desc := "([C)V" } : Jvm.MethodName) jdk_42_method_3_code (2 : Nat) (Option.none : Option Jvm.ClassFile.FieldType), Jvm.Cond.code ({ cls := "java/lang/String", name := "<init>", desc := "([CIILjava/lang/Void;)V" } : Jvm.MethodName) jdk_42_method_149_code (6 : Nat) (Option.none : Option Jvm.ClassFile.FieldType), Jvm.Cond.code ({ cls := "java/lang/Object", name := "<init>", desc := "()V" } : Jvm.MethodName) object_method_1_code (1 : Nat) (Option.none : Option Jvm.ClassFile.FieldType), Jvm.Cond.code ({ cls := "java/lang/StringUTF16", name := "compress", desc := "([CII)[B" } : Jvm.MethodName) jdk_52_method_16_code (6 : Nat) (Option.some (Jvm.ClassFile.FieldType.array Jvm.ClassFile.FieldType.byte)), Jvm.Cond.code ({ cls := "java/lang/StringUTF16", name := "compress", desc := "([CI[BII)I" } : Jvm.MethodName) jdk_52_method_21_code (7 : Nat) (Option.some Jvm.ClassFile.FieldType.int), Jvm.Cond.code ({ cls := "java/lang/StringUTF16", name := "coderFromArrayLen", desc := "([BI)B" } : Jvm.MethodName) jdk_52_method_15_code (2 : Nat) (Option.some Jvm.ClassFile.FieldType.byte), Jvm.Cond.code ({ cls := "com/example/makewhole/makewhole/input/NotationWholeNumberPinLaw", name := "bad", desc := "([CIII)Z" } : Jvm.MethodName) method_3_code (5 : Nat) (Option.some Jvm.ClassFile.FieldType.boolean), Jvm.Cond.code ({ cls := "com/example/makewhole/makewhole/input/NotationWholeNumberPinLaw", name := "term", desc := "([CIII)J" } : Jvm.MethodName) method_4_code (6 : Nat) (Option.some Jvm.ClassFile.FieldType.long), Jvm.Cond.code ({ cls := "com/example/makewhole/makewhole/input/Notation", name := "wholeNumber", desc := "(Ljava/lang/String;II)Ljava/lang/Integer;" } : Jvm.MethodName) prog_9_method_6_code (3 : Nat) (Option.some (Jvm.ClassFile.FieldType.object "java/lang/Integer")), Jvm.Cond.code ({ cls := "com/example/makewhole/makewhole/input/Notation", name := "isDigits", desc := "(Ljava/lang/String;II)Z" } : Jvm.MethodName) prog_9_method_18_code (5 : Nat) (Option.some Jvm.ClassFile.FieldType.boolean), Jvm.Cond.code ({ cls := "java/lang/String", name := "charAt", desc := "(I)C" } : Jvm.MethodName) jdk_42_method_56_code (2 : Nat) (Option.some Jvm.ClassFile.FieldType.char), Jvm.Cond.code ({ cls := "java/lang/String", name := "isLatin1", desc := "()Z" } : Jvm.MethodName) jdk_42_method_154_code (1 : Nat) (Option.some Jvm.ClassFile.FieldType.boolean), Jvm.Cond.code ({ cls := "java/lang/StringLatin1", name := "charAt", desc := "([BI)C" } : Jvm.MethodName) jdk_43_method_2_code (2 : Nat) (Option.some Jvm.ClassFile.FieldType.char), Jvm.Cond.code ({ cls := "java/lang/String", name := "checkIndex", desc := "(II)V" } : Jvm.MethodName) jdk_42_method_155_code (2 : Nat) (Option.none : Option Jvm.ClassFile.FieldType), Jvm.Cond.code ({ cls := "jdk/internal/util/Preconditions", name := "checkIndex", desc := "(IILjava/util/function/BiFunction;)I" } : Jvm.MethodName) jdk_41_method_11_code (3 : Nat) (Option.some Jvm.ClassFile.FieldType.int), Jvm.Cond.code ({ cls := "com/example/makewhole/makewhole/input/Notation", name := "digitsValue", desc := "(Ljava/lang/String;II)J" } : Jvm.MethodName) prog_9_method_19_code (7 : Nat) (Option.some Jvm.ClassFile.FieldType.long), Jvm.Cond.code ({ cls := "java/lang/Math", name := "toIntExact", desc := "(J)I" } : Jvm.MethodName) jdk_29_method_43_code (2 : Nat) (Option.some Jvm.ClassFile.FieldType.int), Jvm.Cond.code ({ cls := "java/lang/Integer", name := "valueOf", desc := "(I)Ljava/lang/Integer;" } : Jvm.MethodName) jdk_33_method_22_code (1 : Nat) (Option.some (Jvm.ClassFile.FieldType.object "java/lang/Integer")), Jvm.Cond.code ({ cls := "java/lang/Integer", name := "longValue", desc := "()J" } : Jvm.MethodName) jdk_33_method_28_code (1 : Nat) (Option.some Jvm.ClassFile.FieldType.long), Jvm.Cond.code ({ cls := "java/lang/Integer", name := "<init>", desc := "(I)V" } : Jvm.MethodName) jdk_33_method_23_code (2 : Nat) (Option.none : Option Jvm.ClassFile.FieldType), Jvm.Cond.code ({ cls := "java/lang/Number", name := "<init>", desc := "()V" } : Jvm.MethodName) jdk_18_method_1_code (1 : Nat) (Option.none : Option Jvm.ClassFile.FieldType)]
set_option maxRecDepth 65536 in
theorem codes_eq : words1.filter isCode = codes1 := rfl
theorem w_codes : ∀ c ∈ words1.filter isCode, c.before args0 about1 = true := by
  rw [codes_eq]
  intro c hc
  simp only [codes1, List.mem_cons, List.not_mem_nil, or_false] at hc
  rcases hc with rfl | rfl | rfl | rfl | rfl | rfl | rfl | rfl | rfl | rfl | rfl | rfl | rfl | rfl | rfl | rfl | rfl | rfl | rfl | rfl | rfl | rfl | rfl
  · exact w_c0
  · exact w_c1
  · exact w_c2
  · exact w_c3
  · exact w_c4
  · exact w_c5
  · exact w_c6
  · exact w_c7
  · exact w_c8
  · exact w_c9
  · exact w_c10
  · exact w_c11
  · exact w_c12
  · exact w_c13
  · exact w_c14
  · exact w_c15
  · exact w_c16
  · exact w_c17
  · exact w_c18
  · exact w_c19
  · exact w_c20
  · exact w_c21
  · exact w_c22
set_option maxRecDepth 65536 in
theorem w_t1 : (words1.take 24).all (fun c => isCode c || c.before args0 about1) = true := by decide +kernel
set_option maxRecDepth 65536 in
theorem w_t2 : ((words1.drop 24).take 24).all (fun c => isCode c || c.before args0 about1) = true := by decide +kernel
set_option maxRecDepth 65536 in
theorem w_t3 : (((words1.drop 24).drop 24).take 24).all (fun c => isCode c || c.before args0 about1) = true := by decide +kernel
set_option maxRecDepth 65536 in
theorem w_t4 : ((((words1.drop 24).drop 24).drop 24).take 24).all (fun c => isCode c || c.before args0 about1) = true := by decide +kernel
set_option maxRecDepth 65536 in
theorem w_t5 : ((((words1.drop 24).drop 24).drop 24).drop 24).all (fun c => isCode c || c.before args0 about1) = true := by decide +kernel
theorem w_tables : (allAtoms (Jvm.Cond.code x code maxLocals ret :: tables_1)).before args0 about1 = true := by
  rw [allAtoms_all]
  show words1.all (fun c => c.before args0 about1) = true
  refine all_split ?_ w_codes
  rw [← List.take_append_drop 24 words1, List.all_append, w_t1, ← List.take_append_drop 24 (words1.drop 24), List.all_append, w_t2, ← List.take_append_drop 24 ((words1.drop 24).drop 24), List.all_append, w_t3, ← List.take_append_drop 24 (((words1.drop 24).drop 24).drop 24), List.all_append, w_t4, w_t5]
  rfl
set_option maxRecDepth 65536 in
theorem w_rest : rest_1_c.before args0 about1 = true := by decide +kernel
set_option maxRecDepth 65536 in
theorem w_case : (Jvm.Cond.and given_1 narrow_1).before args0 about1 = true := by decide +kernel
theorem w_applies : (headSpec (Jvm.Cond.code x code maxLocals ret :: tables_1) room_1).applies x e0.platform about1 = true :=
  (Spec.applies_iff w_frames).mpr ⟨w_running, w_runnable, w_alone, w_named, w_hears, w_ripe, w_room, w_tables⟩
theorem atStart : AtStart classFile x code maxLocals ret World_1 tables_1 room_1 Calls_1 rest_1 Pre_1 launch0 p0 e0 about1 theMethod args0 below0 :=
  ⟨lists_1, trivial, launch0.admits_env _ _ _, launch0.least_env, fairChoices_fair.cas, fairChoices_fair.clock, w_frames, w_args, w_heap, w_applies, trivial, w_rest, w_case⟩
end start1
theorem witness_1 : WitnessClaimed_1 := ⟨start1.p0, start1.e0, start1.about1, start1.theMethod, start1.args0, start1.below0, start1.atStart⟩
end Jvm.Pilot.@@N@@
