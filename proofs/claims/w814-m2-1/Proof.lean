import JvmDerived
import JvmDerived.Pilot.@@N@@Statement
import JvmDerived.Pilot.@@N@@Code
set_option linter.unusedVariables false
set_option linter.unusedSimpArgs false
namespace Jvm.Own
open Sem ClassFile Op Lib Jvm.Stand Jvm.Free Jvm.LawKit Jvm.RoadKit
section Steps
variable {p : Program} {l : Launch} {e : Env} {R : Room} {s : State} {m : MethodId} {args : Array Value} {below : List Frame} {meth : Method} {c : Code} {T t : State} {locs : List Loc} {cells slots : Nat} {pc : Nat} {Ls Ls' : Array Slot} {S : List Value}
theorem iloadN (X : Stand p l e R s m args below meth c T locs cells slots) (hx : p.tables.exec = Jvm.exec) {k : Fin 4} {v : Int32} (hd : decode c.code pc = .ok (.iload_n k, 1)) (hl : Ls[k.val]? = some (.val (.int v))) (hr : Steps p.tables e below (T.setTop (mkF m (pc + 1) Ls (.int v :: S))) t) : Steps p.tables e below (T.setTop (mkF m pc Ls S)) t := XS.iloadN X.here hx rfl hd hl hr
theorem iload (X : Stand p l e R s m args below meth c T locs cells slots) (hx : p.tables.exec = Jvm.exec) {k : Nat} {v : Int32} (hd : decode c.code pc = .ok (.iload k, 2)) (hl : Ls[k]? = some (.val (.int v))) (hr : Steps p.tables e below (T.setTop (mkF m (pc + 2) Ls (.int v :: S))) t) : Steps p.tables e below (T.setTop (mkF m pc Ls S)) t := XS.iload X.here hx rfl hd hl hr
theorem istoreN (X : Stand p l e R s m args below meth c T locs cells slots) (hx : p.tables.exec = Jvm.exec) {k : Fin 4} {v : Int32} (Ls' : Array Slot) (hd : decode c.code pc = .ok (.istore_n k, 1)) (hl : storeLocals Ls k.val (.int v) = some Ls') (hr : Steps p.tables e below (T.setTop (mkF m (pc + 1) Ls' S)) t) : Steps p.tables e below (T.setTop (mkF m pc Ls (.int v :: S))) t := XS.istoreN X.here hx rfl hd rfl hl hr
theorem istore (X : Stand p l e R s m args below meth c T locs cells slots) (hx : p.tables.exec = Jvm.exec) {k : Nat} {v : Int32} (Ls' : Array Slot) (hd : decode c.code pc = .ok (.istore k, 2)) (hl : storeLocals Ls k (.int v) = some Ls') (hr : Steps p.tables e below (T.setTop (mkF m (pc + 2) Ls' S)) t) : Steps p.tables e below (T.setTop (mkF m pc Ls (.int v :: S))) t := XS.istore X.here hx rfl hd rfl hl hr
theorem lloadN (X : Stand p l e R s m args below meth c T locs cells slots) (hx : p.tables.exec = Jvm.exec) {k : Fin 4} {v : Int64} (hd : decode c.code pc = .ok (.lload_n k, 1)) (hl : Ls[k.val]? = some (.val (.long v))) (hr : Steps p.tables e below (T.setTop (mkF m (pc + 1) Ls (.long v :: S))) t) : Steps p.tables e below (T.setTop (mkF m pc Ls S)) t := XS.lloadN X.here hx rfl hd hl hr
theorem lload (X : Stand p l e R s m args below meth c T locs cells slots) (hx : p.tables.exec = Jvm.exec) {k : Nat} {v : Int64} (hd : decode c.code pc = .ok (.lload k, 2)) (hl : Ls[k]? = some (.val (.long v))) (hr : Steps p.tables e below (T.setTop (mkF m (pc + 2) Ls (.long v :: S))) t) : Steps p.tables e below (T.setTop (mkF m pc Ls S)) t := XS.lload X.here hx rfl hd hl hr
theorem lstoreN (X : Stand p l e R s m args below meth c T locs cells slots) (hx : p.tables.exec = Jvm.exec) {k : Fin 4} {v : Int64} (Ls' : Array Slot) (hd : decode c.code pc = .ok (.lstore_n k, 1)) (hl : storeLocals Ls k.val (.long v) = some Ls') (hr : Steps p.tables e below (T.setTop (mkF m (pc + 1) Ls' S)) t) : Steps p.tables e below (T.setTop (mkF m pc Ls (.long v :: S))) t := XS.lstoreN X.here hx rfl hd rfl hl hr
theorem lstore (X : Stand p l e R s m args below meth c T locs cells slots) (hx : p.tables.exec = Jvm.exec) {k : Nat} {v : Int64} (Ls' : Array Slot) (hd : decode c.code pc = .ok (.lstore k, 2)) (hl : storeLocals Ls k (.long v) = some Ls') (hr : Steps p.tables e below (T.setTop (mkF m (pc + 2) Ls' S)) t) : Steps p.tables e below (T.setTop (mkF m pc Ls (.long v :: S))) t := XS.lstore X.here hx rfl hd rfl hl hr
theorem aloadN (X : Stand p l e R s m args below meth c T locs cells slots) (hx : p.tables.exec = Jvm.exec) {k : Fin 4} {v : Value} (hd : decode c.code pc = .ok (.aload_n k, 1)) (hl : Ls[k.val]? = some (.val v)) (hv : v.isRef = true) (hr : Steps p.tables e below (T.setTop (mkF m (pc + 1) Ls (v :: S))) t) : Steps p.tables e below (T.setTop (mkF m pc Ls S)) t := XS.aloadN X.here hx rfl hd hl hv hr
theorem aload (X : Stand p l e R s m args below meth c T locs cells slots) (hx : p.tables.exec = Jvm.exec) {k : Nat} {v : Value} (hd : decode c.code pc = .ok (.aload k, 2)) (hl : Ls[k]? = some (.val v)) (hv : v.isRef = true) (hr : Steps p.tables e below (T.setTop (mkF m (pc + 2) Ls (v :: S))) t) : Steps p.tables e below (T.setTop (mkF m pc Ls S)) t := XS.aload X.here hx rfl hd hl hv hr
theorem astoreN (X : Stand p l e R s m args below meth c T locs cells slots) (hx : p.tables.exec = Jvm.exec) {k : Fin 4} {v : Value} (Ls' : Array Slot) (hd : decode c.code pc = .ok (.astore_n k, 1)) (hv : v.isRef = true) (hl : storeLocals Ls k.val v = some Ls') (hr : Steps p.tables e below (T.setTop (mkF m (pc + 1) Ls' S)) t) : Steps p.tables e below (T.setTop (mkF m pc Ls (v :: S))) t := XS.astoreN X.here hx rfl hd rfl hv hl hr
theorem astore (X : Stand p l e R s m args below meth c T locs cells slots) (hx : p.tables.exec = Jvm.exec) {k : Nat} {v : Value} (Ls' : Array Slot) (hd : decode c.code pc = .ok (.astore k, 2)) (hv : v.isRef = true) (hl : storeLocals Ls k v = some Ls') (hr : Steps p.tables e below (T.setTop (mkF m (pc + 2) Ls' S)) t) : Steps p.tables e below (T.setTop (mkF m pc Ls (v :: S))) t := XS.astore X.here hx rfl hd rfl hv hl hr
theorem iconst (X : Stand p l e R s m args below meth c T locs cells slots) (hx : p.tables.exec = Jvm.exec) {i : Int} (v : Int32) (hd : decode c.code pc = .ok (.iconst i, 1)) (hv : Int32.ofInt i = v) (hr : Steps p.tables e below (T.setTop (mkF m (pc + 1) Ls (.int v :: S))) t) : Steps p.tables e below (T.setTop (mkF m pc Ls S)) t := XS.iconst X.here hx rfl hd (hv ▸ hr)
theorem bipush (X : Stand p l e R s m args below meth c T locs cells slots) (hx : p.tables.exec = Jvm.exec) {i : Int} (v : Int32) (hd : decode c.code pc = .ok (.bipush i, 2)) (hv : (Int8.ofInt i).toInt32 = v) (hr : Steps p.tables e below (T.setTop (mkF m (pc + 2) Ls (.int v :: S))) t) : Steps p.tables e below (T.setTop (mkF m pc Ls S)) t := XS.bipush X.here hx rfl hd (hv ▸ hr)
theorem sipush (X : Stand p l e R s m args below meth c T locs cells slots) (hx : p.tables.exec = Jvm.exec) {i : Int} (v : Int32) (hd : decode c.code pc = .ok (.sipush i, 3)) (hv : (Int16.ofInt i).toInt32 = v) (hr : Steps p.tables e below (T.setTop (mkF m (pc + 3) Ls (.int v :: S))) t) : Steps p.tables e below (T.setTop (mkF m pc Ls S)) t := XS.sipush X.here hx rfl hd (hv ▸ hr)
theorem lconst (X : Stand p l e R s m args below meth c T locs cells slots) (hx : p.tables.exec = Jvm.exec) {k : Fin 2} (v : Int64) (hd : decode c.code pc = .ok (.lconst k, 1)) (hv : Int64.ofNat k = v) (hr : Steps p.tables e below (T.setTop (mkF m (pc + 1) Ls (.long v :: S))) t) : Steps p.tables e below (T.setTop (mkF m pc Ls S)) t := XS.lconst X.here hx rfl hd (hv ▸ hr)
theorem aconstNull (X : Stand p l e R s m args below meth c T locs cells slots) (hx : p.tables.exec = Jvm.exec)  (hd : decode c.code pc = .ok (.aconst_null, 1)) (hr : Steps p.tables e below (T.setTop (mkF m (pc + 1) Ls (.null :: S))) t) : Steps p.tables e below (T.setTop (mkF m pc Ls S)) t := XS.aconstNull X.here hx rfl hd hr
theorem iadd (X : Stand p l e R s m args below meth c T locs cells slots) (hx : p.tables.exec = Jvm.exec) {x y : Int32} (hd : decode c.code pc = .ok (.iadd, 1)) (hr : Steps p.tables e below (T.setTop (mkF m (pc + 1) Ls (.int (x + y) :: S))) t) : Steps p.tables e below (T.setTop (mkF m pc Ls (.int y :: .int x :: S))) t := XS.iadd X.here hx rfl hd rfl hr
theorem isub (X : Stand p l e R s m args below meth c T locs cells slots) (hx : p.tables.exec = Jvm.exec) {x y : Int32} (hd : decode c.code pc = .ok (.isub, 1)) (hr : Steps p.tables e below (T.setTop (mkF m (pc + 1) Ls (.int (x - y) :: S))) t) : Steps p.tables e below (T.setTop (mkF m pc Ls (.int y :: .int x :: S))) t := XS.isub X.here hx rfl hd rfl hr
theorem imul (X : Stand p l e R s m args below meth c T locs cells slots) (hx : p.tables.exec = Jvm.exec) {x y : Int32} (hd : decode c.code pc = .ok (.imul, 1)) (hr : Steps p.tables e below (T.setTop (mkF m (pc + 1) Ls (.int (x * y) :: S))) t) : Steps p.tables e below (T.setTop (mkF m pc Ls (.int y :: .int x :: S))) t := XS.imul X.here hx rfl hd rfl hr
theorem iand (X : Stand p l e R s m args below meth c T locs cells slots) (hx : p.tables.exec = Jvm.exec) {x y : Int32} (hd : decode c.code pc = .ok (.iand, 1)) (hr : Steps p.tables e below (T.setTop (mkF m (pc + 1) Ls (.int (x &&& y) :: S))) t) : Steps p.tables e below (T.setTop (mkF m pc Ls (.int y :: .int x :: S))) t := XS.iand X.here hx rfl hd rfl hr
theorem ior (X : Stand p l e R s m args below meth c T locs cells slots) (hx : p.tables.exec = Jvm.exec) {x y : Int32} (hd : decode c.code pc = .ok (.ior, 1)) (hr : Steps p.tables e below (T.setTop (mkF m (pc + 1) Ls (.int (x ||| y) :: S))) t) : Steps p.tables e below (T.setTop (mkF m pc Ls (.int y :: .int x :: S))) t := XS.ior X.here hx rfl hd rfl hr
theorem ixor (X : Stand p l e R s m args below meth c T locs cells slots) (hx : p.tables.exec = Jvm.exec) {x y : Int32} (hd : decode c.code pc = .ok (.ixor, 1)) (hr : Steps p.tables e below (T.setTop (mkF m (pc + 1) Ls (.int (x ^^^ y) :: S))) t) : Steps p.tables e below (T.setTop (mkF m pc Ls (.int y :: .int x :: S))) t := XS.ixor X.here hx rfl hd rfl hr
theorem ishl (X : Stand p l e R s m args below meth c T locs cells slots) (hx : p.tables.exec = Jvm.exec) {x y : Int32} (hd : decode c.code pc = .ok (.ishl, 1)) (hr : Steps p.tables e below (T.setTop (mkF m (pc + 1) Ls (.int (x <<< (y &&& 31)) :: S))) t) : Steps p.tables e below (T.setTop (mkF m pc Ls (.int y :: .int x :: S))) t := XS.ishl X.here hx rfl hd rfl hr
theorem ishr (X : Stand p l e R s m args below meth c T locs cells slots) (hx : p.tables.exec = Jvm.exec) {x y : Int32} (hd : decode c.code pc = .ok (.ishr, 1)) (hr : Steps p.tables e below (T.setTop (mkF m (pc + 1) Ls (.int (x >>> (y &&& 31)) :: S))) t) : Steps p.tables e below (T.setTop (mkF m pc Ls (.int y :: .int x :: S))) t := XS.ishr X.here hx rfl hd rfl hr
theorem iushr (X : Stand p l e R s m args below meth c T locs cells slots) (hx : p.tables.exec = Jvm.exec) {x y : Int32} (hd : decode c.code pc = .ok (.iushr, 1)) (hr : Steps p.tables e below (T.setTop (mkF m (pc + 1) Ls (.int ((x.toUInt32 >>> (y &&& 31).toUInt32).toInt32) :: S))) t) : Steps p.tables e below (T.setTop (mkF m pc Ls (.int y :: .int x :: S))) t := XS.iushr X.here hx rfl hd rfl hr
theorem ladd (X : Stand p l e R s m args below meth c T locs cells slots) (hx : p.tables.exec = Jvm.exec) {x y : Int64} (hd : decode c.code pc = .ok (.ladd, 1)) (hr : Steps p.tables e below (T.setTop (mkF m (pc + 1) Ls (.long (x + y) :: S))) t) : Steps p.tables e below (T.setTop (mkF m pc Ls (.long y :: .long x :: S))) t := XS.ladd X.here hx rfl hd rfl hr
theorem lsub (X : Stand p l e R s m args below meth c T locs cells slots) (hx : p.tables.exec = Jvm.exec) {x y : Int64} (hd : decode c.code pc = .ok (.lsub, 1)) (hr : Steps p.tables e below (T.setTop (mkF m (pc + 1) Ls (.long (x - y) :: S))) t) : Steps p.tables e below (T.setTop (mkF m pc Ls (.long y :: .long x :: S))) t := XS.lsub X.here hx rfl hd rfl hr
theorem lmul (X : Stand p l e R s m args below meth c T locs cells slots) (hx : p.tables.exec = Jvm.exec) {x y : Int64} (hd : decode c.code pc = .ok (.lmul, 1)) (hr : Steps p.tables e below (T.setTop (mkF m (pc + 1) Ls (.long (x * y) :: S))) t) : Steps p.tables e below (T.setTop (mkF m pc Ls (.long y :: .long x :: S))) t := XS.lmul X.here hx rfl hd rfl hr
theorem land (X : Stand p l e R s m args below meth c T locs cells slots) (hx : p.tables.exec = Jvm.exec) {x y : Int64} (hd : decode c.code pc = .ok (.land, 1)) (hr : Steps p.tables e below (T.setTop (mkF m (pc + 1) Ls (.long (x &&& y) :: S))) t) : Steps p.tables e below (T.setTop (mkF m pc Ls (.long y :: .long x :: S))) t := XS.land X.here hx rfl hd rfl hr
theorem lor (X : Stand p l e R s m args below meth c T locs cells slots) (hx : p.tables.exec = Jvm.exec) {x y : Int64} (hd : decode c.code pc = .ok (.lor, 1)) (hr : Steps p.tables e below (T.setTop (mkF m (pc + 1) Ls (.long (x ||| y) :: S))) t) : Steps p.tables e below (T.setTop (mkF m pc Ls (.long y :: .long x :: S))) t := XS.lor X.here hx rfl hd rfl hr
theorem lxor (X : Stand p l e R s m args below meth c T locs cells slots) (hx : p.tables.exec = Jvm.exec) {x y : Int64} (hd : decode c.code pc = .ok (.lxor, 1)) (hr : Steps p.tables e below (T.setTop (mkF m (pc + 1) Ls (.long (x ^^^ y) :: S))) t) : Steps p.tables e below (T.setTop (mkF m pc Ls (.long y :: .long x :: S))) t := XS.lxor X.here hx rfl hd rfl hr
theorem lshl (X : Stand p l e R s m args below meth c T locs cells slots) (hx : p.tables.exec = Jvm.exec) {x : Int64} {y : Int32} (hd : decode c.code pc = .ok (.lshl, 1)) (hr : Steps p.tables e below (T.setTop (mkF m (pc + 1) Ls (.long (x <<< (y &&& 0x3f).toInt64) :: S))) t) : Steps p.tables e below (T.setTop (mkF m pc Ls (.int y :: .long x :: S))) t := XS.lshl X.here hx rfl hd rfl hr
theorem lshr (X : Stand p l e R s m args below meth c T locs cells slots) (hx : p.tables.exec = Jvm.exec) {x : Int64} {y : Int32} (hd : decode c.code pc = .ok (.lshr, 1)) (hr : Steps p.tables e below (T.setTop (mkF m (pc + 1) Ls (.long (x >>> (y &&& 0x3f).toInt64) :: S))) t) : Steps p.tables e below (T.setTop (mkF m pc Ls (.int y :: .long x :: S))) t := XS.lshr X.here hx rfl hd rfl hr
theorem lushr (X : Stand p l e R s m args below meth c T locs cells slots) (hx : p.tables.exec = Jvm.exec) {x : Int64} {y : Int32} (hd : decode c.code pc = .ok (.lushr, 1)) (hr : Steps p.tables e below (T.setTop (mkF m (pc + 1) Ls (.long ((x.toUInt64 >>> (y &&& 0x3f).toInt64.toUInt64).toInt64) :: S))) t) : Steps p.tables e below (T.setTop (mkF m pc Ls (.int y :: .long x :: S))) t := XS.lushr X.here hx rfl hd rfl hr
theorem idiv (X : Stand p l e R s m args below meth c T locs cells slots) (hx : p.tables.exec = Jvm.exec) {x y : Int32} (hd : decode c.code pc = .ok (.idiv, 1)) (hy : y ≠ 0) (hr : Steps p.tables e below (T.setTop (mkF m (pc + 1) Ls (.int (x / y) :: S))) t) : Steps p.tables e below (T.setTop (mkF m pc Ls (.int y :: .int x :: S))) t := XS.idiv X.here hx rfl hd rfl hy hr
theorem irem (X : Stand p l e R s m args below meth c T locs cells slots) (hx : p.tables.exec = Jvm.exec) {x y : Int32} (hd : decode c.code pc = .ok (.irem, 1)) (hy : y ≠ 0) (hr : Steps p.tables e below (T.setTop (mkF m (pc + 1) Ls (.int (x % y) :: S))) t) : Steps p.tables e below (T.setTop (mkF m pc Ls (.int y :: .int x :: S))) t := iremM X hx rfl hd rfl hy hr
theorem ldiv (X : Stand p l e R s m args below meth c T locs cells slots) (hx : p.tables.exec = Jvm.exec) {x y : Int64} (hd : decode c.code pc = .ok (.ldiv, 1)) (hy : y ≠ 0) (hr : Steps p.tables e below (T.setTop (mkF m (pc + 1) Ls (.long (x / y) :: S))) t) : Steps p.tables e below (T.setTop (mkF m pc Ls (.long y :: .long x :: S))) t := XS.ldiv X.here hx rfl hd rfl hy hr
theorem lrem (X : Stand p l e R s m args below meth c T locs cells slots) (hx : p.tables.exec = Jvm.exec) {x y : Int64} (hd : decode c.code pc = .ok (.lrem, 1)) (hy : y ≠ 0) (hr : Steps p.tables e below (T.setTop (mkF m (pc + 1) Ls (.long (x - (x / y) * y) :: S))) t) : Steps p.tables e below (T.setTop (mkF m pc Ls (.long y :: .long x :: S))) t := XS.lrem X.here hx rfl hd rfl hy hr
theorem ineg (X : Stand p l e R s m args below meth c T locs cells slots) (hx : p.tables.exec = Jvm.exec) {x : Int32} (hd : decode c.code pc = .ok (.ineg, 1)) (hr : Steps p.tables e below (T.setTop (mkF m (pc + 1) Ls (.int (-x) :: S))) t) : Steps p.tables e below (T.setTop (mkF m pc Ls (.int x :: S))) t := XS.ineg X.here hx rfl hd rfl hr
theorem i2b (X : Stand p l e R s m args below meth c T locs cells slots) (hx : p.tables.exec = Jvm.exec) {x : Int32} (hd : decode c.code pc = .ok (.i2b, 1)) (hr : Steps p.tables e below (T.setTop (mkF m (pc + 1) Ls (.int (x.toInt8.toInt32) :: S))) t) : Steps p.tables e below (T.setTop (mkF m pc Ls (.int x :: S))) t := XS.i2b X.here hx rfl hd rfl hr
theorem i2c (X : Stand p l e R s m args below meth c T locs cells slots) (hx : p.tables.exec = Jvm.exec) {x : Int32} (hd : decode c.code pc = .ok (.i2c, 1)) (hr : Steps p.tables e below (T.setTop (mkF m (pc + 1) Ls (.int (x.toUInt32.toUInt16.toUInt32.toInt32) :: S))) t) : Steps p.tables e below (T.setTop (mkF m pc Ls (.int x :: S))) t := XS.i2c X.here hx rfl hd rfl hr
theorem i2s (X : Stand p l e R s m args below meth c T locs cells slots) (hx : p.tables.exec = Jvm.exec) {x : Int32} (hd : decode c.code pc = .ok (.i2s, 1)) (hr : Steps p.tables e below (T.setTop (mkF m (pc + 1) Ls (.int (x.toInt16.toInt32) :: S))) t) : Steps p.tables e below (T.setTop (mkF m pc Ls (.int x :: S))) t := XS.i2s X.here hx rfl hd rfl hr
theorem i2l (X : Stand p l e R s m args below meth c T locs cells slots) (hx : p.tables.exec = Jvm.exec) {x : Int32} (hd : decode c.code pc = .ok (.i2l, 1)) (hr : Steps p.tables e below (T.setTop (mkF m (pc + 1) Ls (.long (x.toInt64) :: S))) t) : Steps p.tables e below (T.setTop (mkF m pc Ls (.int x :: S))) t := XS.i2l X.here hx rfl hd rfl hr
theorem l2i (X : Stand p l e R s m args below meth c T locs cells slots) (hx : p.tables.exec = Jvm.exec) {x : Int64} (hd : decode c.code pc = .ok (.l2i, 1)) (hr : Steps p.tables e below (T.setTop (mkF m (pc + 1) Ls (.int (x.toInt32) :: S))) t) : Steps p.tables e below (T.setTop (mkF m pc Ls (.long x :: S))) t := XS.l2i X.here hx rfl hd rfl hr
theorem lneg (X : Stand p l e R s m args below meth c T locs cells slots) (hx : p.tables.exec = Jvm.exec) {x : Int64} (hd : decode c.code pc = .ok (.lneg, 1)) (hr : Steps p.tables e below (T.setTop (mkF m (pc + 1) Ls (.long (-x) :: S))) t) : Steps p.tables e below (T.setTop (mkF m pc Ls (.long x :: S))) t := XS.lneg X.here hx rfl hd rfl hr
theorem iinc (X : Stand p l e R s m args below meth c T locs cells slots) (hx : p.tables.exec = Jvm.exec) {k : Nat} {cst : Int} {x : Int32} (v : Int32) (Ls' : Array Slot) (hd : decode c.code pc = .ok (.iinc k cst, 3)) (hl : Ls[k]? = some (.val (.int x))) (hv : x + Int32.ofInt cst = v) (hl' : storeLocals Ls k (.int v) = some Ls') (hr : Steps p.tables e below (T.setTop (mkF m (pc + 3) Ls' S)) t) : Steps p.tables e below (T.setTop (mkF m pc Ls S)) t := XS.iinc X.here hx rfl hd hl (hv ▸ hl') hr
theorem dup (X : Stand p l e R s m args below meth c T locs cells slots) (hx : p.tables.exec = Jvm.exec) {v : Value} (hd : decode c.code pc = .ok (.dup, 1)) (hc : v.category = 1) (hr : Steps p.tables e below (T.setTop (mkF m (pc + 1) Ls (v :: v :: S))) t) : Steps p.tables e below (T.setTop (mkF m pc Ls (v :: S))) t := XS.dup X.here hx rfl hd rfl hc hr
theorem dupX1 (X : Stand p l e R s m args below meth c T locs cells slots) (hx : p.tables.exec = Jvm.exec) {v w : Value} (hd : decode c.code pc = .ok (.dup_x1, 1)) (hc : v.category = 1) (hc2 : w.category = 1) (hr : Steps p.tables e below (T.setTop (mkF m (pc + 1) Ls (v :: w :: v :: S))) t) : Steps p.tables e below (T.setTop (mkF m pc Ls (v :: w :: S))) t := XS.dupX1 X.here hx rfl hd rfl hc hc2 hr
theorem pop (X : Stand p l e R s m args below meth c T locs cells slots) (hx : p.tables.exec = Jvm.exec) {v : Value} (hd : decode c.code pc = .ok (.pop, 1)) (hc : v.category = 1) (hr : Steps p.tables e below (T.setTop (mkF m (pc + 1) Ls S)) t) : Steps p.tables e below (T.setTop (mkF m pc Ls (v :: S))) t := XS.pop X.here hx rfl hd rfl hc hr
theorem goto (X : Stand p l e R s m args below meth c T locs cells slots) (hx : p.tables.exec = Jvm.exec) {o : Int} (pc' : Nat) (hd : decode c.code pc = .ok (.goto o, 3)) (ho : 0 ≤ (pc : Int) + o) (hp : ((pc : Int) + o).toNat = pc') (hr : Steps p.tables e below (T.setTop (mkF m pc' Ls S)) t) : Steps p.tables e below (T.setTop (mkF m pc Ls S)) t := XS.goto X.here hx rfl rfl hd ho hp hr
theorem ifYes (X : Stand p l e R s m args below meth c T locs cells slots) (hx : p.tables.exec = Jvm.exec) {cd : ClassFile.Cond} {o : Int} {x : Int32} (pc' : Nat) (hd : decode c.code pc = .ok (.ifCond cd o, 3)) (hc : ifCond.holds cd x = true) (ho : 0 ≤ (pc : Int) + o) (hp : ((pc : Int) + o).toNat = pc') (hr : Steps p.tables e below (T.setTop (mkF m pc' Ls S)) t) : Steps p.tables e below (T.setTop (mkF m pc Ls (.int x :: S))) t := XS.ifYes X.here hx rfl rfl hd rfl hc ho hp hr
theorem ifNo (X : Stand p l e R s m args below meth c T locs cells slots) (hx : p.tables.exec = Jvm.exec) {cd : ClassFile.Cond} {o : Int} {x : Int32} (hd : decode c.code pc = .ok (.ifCond cd o, 3)) (hc : ifCond.holds cd x = false) (hr : Steps p.tables e below (T.setTop (mkF m (pc + 3) Ls S)) t) : Steps p.tables e below (T.setTop (mkF m pc Ls (.int x :: S))) t := XS.ifNo X.here hx rfl hd rfl hc hr
theorem icmpYes (X : Stand p l e R s m args below meth c T locs cells slots) (hx : p.tables.exec = Jvm.exec) {cd : ClassFile.Cond} {o : Int} {x y : Int32} (pc' : Nat) (hd : decode c.code pc = .ok (.if_icmp cd o, 3)) (hc : if_icmp.holds cd x y = true) (ho : 0 ≤ (pc : Int) + o) (hp : ((pc : Int) + o).toNat = pc') (hr : Steps p.tables e below (T.setTop (mkF m pc' Ls S)) t) : Steps p.tables e below (T.setTop (mkF m pc Ls (.int y :: .int x :: S))) t := XS.icmpYes X.here hx rfl rfl hd rfl hc ho hp hr
theorem icmpNo (X : Stand p l e R s m args below meth c T locs cells slots) (hx : p.tables.exec = Jvm.exec) {cd : ClassFile.Cond} {o : Int} {x y : Int32} (hd : decode c.code pc = .ok (.if_icmp cd o, 3)) (hc : if_icmp.holds cd x y = false) (hr : Steps p.tables e below (T.setTop (mkF m (pc + 3) Ls S)) t) : Steps p.tables e below (T.setTop (mkF m pc Ls (.int y :: .int x :: S))) t := XS.icmpNo X.here hx rfl hd rfl hc hr
theorem lcmp (X : Stand p l e R s m args below meth c T locs cells slots) (hx : p.tables.exec = Jvm.exec) {x y : Int64} (hd : decode c.code pc = .ok (.lcmp, 1)) (hr : Steps p.tables e below (T.setTop (mkF m (pc + 1) Ls (.int (lcmpW x y) :: S))) t) : Steps p.tables e below (T.setTop (mkF m pc Ls (.long y :: .long x :: S))) t := XS.lcmp X.here hx rfl hd rfl hr
theorem ifnullYes (X : Stand p l e R s m args below meth c T locs cells slots) (hx : p.tables.exec = Jvm.exec) {o : Int}  (pc' : Nat) (hd : decode c.code pc = .ok (.ifnull o, 3)) (ho : 0 ≤ (pc : Int) + o) (hp : ((pc : Int) + o).toNat = pc') (hr : Steps p.tables e below (T.setTop (mkF m pc' Ls S)) t) : Steps p.tables e below (T.setTop (mkF m pc Ls (.null :: S))) t := XS.ifnullYes X.here hx rfl rfl hd rfl ho hp hr
theorem ifnonnullYes (X : Stand p l e R s m args below meth c T locs cells slots) (hx : p.tables.exec = Jvm.exec) {o : Int} {b : Addr} (pc' : Nat) (hd : decode c.code pc = .ok (.ifnonnull o, 3)) (ho : 0 ≤ (pc : Int) + o) (hp : ((pc : Int) + o).toNat = pc') (hr : Steps p.tables e below (T.setTop (mkF m pc' Ls S)) t) : Steps p.tables e below (T.setTop (mkF m pc Ls (.ref b :: S))) t := XS.ifnonnullYes X.here hx rfl rfl hd rfl ho hp hr
theorem ifnullNo (X : Stand p l e R s m args below meth c T locs cells slots) (hx : p.tables.exec = Jvm.exec) {o : Int} {b : Addr} (hd : decode c.code pc = .ok (.ifnull o, 3)) (hr : Steps p.tables e below (T.setTop (mkF m (pc + 3) Ls S)) t) : Steps p.tables e below (T.setTop (mkF m pc Ls (.ref b :: S))) t := XS.ifnullNo X.here hx rfl hd rfl hr
theorem ifnonnullNo (X : Stand p l e R s m args below meth c T locs cells slots) (hx : p.tables.exec = Jvm.exec) {o : Int}  (hd : decode c.code pc = .ok (.ifnonnull o, 3)) (hr : Steps p.tables e below (T.setTop (mkF m (pc + 3) Ls S)) t) : Steps p.tables e below (T.setTop (mkF m pc Ls (.null :: S))) t := XS.ifnonnullNo X.here hx rfl hd rfl hr
theorem acmp (X : Stand p l e R s m args below meth c T locs cells slots) (hx : p.tables.exec = Jvm.exec) {cd : ACond} {x y : Value} {o : Int} (h1 : x.isRef = true) (h2 : y.isRef = true) (pc' : Nat) (same : Bool) (hd : decode c.code pc = .ok (.if_acmp cd o, 3)) (hq : decide (x = y) = same) (ho : 0 ≤ (pc : Int) + o) (hp : pc' = if acV cd same = true then ((pc : Int) + o).toNat else pc + 3) (hr : Steps p.tables e below (T.setTop (mkF m pc' Ls S)) t) : Steps p.tables e below (T.setTop (mkF m pc Ls (y :: x :: S))) t := Jvm.RoadKit.acmp (g := mkF m pc Ls (y :: x :: S)) X hx rfl h1 h2 (pc0 := pc) rfl hd rfl hq ho hp hr
theorem ldcI (X : Stand p l e R s m args below meth c T locs cells slots) (hx : p.tables.exec = Jvm.exec) {Z : State} {a0 : Array Value} {own : String} {index : Nat} (v : Int32) (hZ : Z.Warmed39 s.vm) (hown : s.vm.findClass own = some m.cls) (w : (Cond.constant own index v).before a0 Z = true) (hd : decode c.code pc = .ok (.ldc index, 2)) (hr : Steps p.tables e below (T.setTop (mkF m (pc + 2) Ls (.int v :: S))) t) : Steps p.tables e below (T.setTop (mkF m pc Ls S)) t := Jvm.Stand.ldcI (g := mkF m pc Ls S) X hx hown (mv hZ w) rfl hd hr
theorem ldc2J (X : Stand p l e R s m args below meth c T locs cells slots) (hx : p.tables.exec = Jvm.exec) {Z : State} {a0 : Array Value} {own : String} {index : Nat} (v : Int64) (hZ : Z.Warmed39 s.vm) (hown : s.vm.findClass own = some m.cls) (w : (Cond.constantLong own index v).before a0 Z = true) (hd : decode c.code pc = .ok (.ldc2_w index, 3)) (hr : Steps p.tables e below (T.setTop (mkF m (pc + 3) Ls (.long v :: S))) t) : Steps p.tables e below (T.setTop (mkF m pc Ls S)) t := Jvm.Stand.ldc2J (g := mkF m pc Ls S) X hx hown (mv hZ w) rfl hd hr
theorem iaload (X : Stand p l e R s m args below meth c T locs cells slots) (hx : p.tables.exec = Jvm.exec) {Z : State} {h : Heap} {a : Addr} {cl : Cell} {j : Int32} (v : Value) (hZ : Z.Warmed39 s.vm) (eT : T.heap = h) (A : Arr Z h a cl .int) (hin : ¬ (j < 0 ∨ cl.slots.size ≤ j.toNatClampNeg)) (hat : cl.slots[j.toNatClampNeg]? = some v) (hd : decode c.code pc = .ok (.iaload, 1)) (hr : Steps p.tables e below (T.setTop (mkF m (pc + 1) Ls (v :: S))) t) : Steps p.tables e below (T.setTop (mkF m pc Ls (.int j :: .ref a :: S))) t := X.iaload hx (j := j) (v := v) (by rw [eT]; exact A.1) (State.isArrayOf_alike hZ.alike A.2.1) A.2.2 hin hat (g := mkF m pc Ls (.int j :: .ref a :: S)) rfl rfl hd _ hr
theorem caload (X : Stand p l e R s m args below meth c T locs cells slots) (hx : p.tables.exec = Jvm.exec) {Z : State} {h : Heap} {a : Addr} {cl : Cell} {j : Int32} (v : Value) (hZ : Z.Warmed39 s.vm) (eT : T.heap = h) (A : Arr Z h a cl .char) (hin : ¬ (j < 0 ∨ cl.slots.size ≤ j.toNatClampNeg)) (hat : cl.slots[j.toNatClampNeg]? = some v) (hd : decode c.code pc = .ok (.caload, 1)) (hr : Steps p.tables e below (T.setTop (mkF m (pc + 1) Ls (v :: S))) t) : Steps p.tables e below (T.setTop (mkF m pc Ls (.int j :: .ref a :: S))) t := X.caload hx (j := j) (v := v) (by rw [eT]; exact A.1) (State.isArrayOf_alike hZ.alike A.2.1) A.2.2 hin hat (g := mkF m pc Ls (.int j :: .ref a :: S)) rfl rfl hd _ hr
theorem baload (X : Stand p l e R s m args below meth c T locs cells slots) (hx : p.tables.exec = Jvm.exec) {Z : State} {h : Heap} {a : Addr} {cl : Cell} {j : Int32} (v : Value) (hZ : Z.Warmed39 s.vm) (eT : T.heap = h) (A : Arr Z h a cl .byte) (hin : ¬ (j < 0 ∨ cl.slots.size ≤ j.toNatClampNeg)) (hat : cl.slots[j.toNatClampNeg]? = some v) (hd : decode c.code pc = .ok (.baload, 1)) (hr : Steps p.tables e below (T.setTop (mkF m (pc + 1) Ls (v :: S))) t) : Steps p.tables e below (T.setTop (mkF m pc Ls (.int j :: .ref a :: S))) t := X.baloadBytes hx (j := j) (v := v) (by rw [eT]; exact A.1) (State.isArrayOf_alike hZ.alike A.2.1) A.2.2 hin hat (g := mkF m pc Ls (.int j :: .ref a :: S)) rfl rfl hd _ hr
theorem laload (X : Stand p l e R s m args below meth c T locs cells slots) (hx : p.tables.exec = Jvm.exec) {Z : State} {h : Heap} {a : Addr} {cl : Cell} {j : Int32} (v : Value) (hZ : Z.Warmed39 s.vm) (eT : T.heap = h) (A : Arr Z h a cl .long) (hin : ¬ (j < 0 ∨ cl.slots.size ≤ j.toNatClampNeg)) (hat : cl.slots[j.toNatClampNeg]? = some v) (hd : decode c.code pc = .ok (.laload, 1)) (hr : Steps p.tables e below (T.setTop (mkF m (pc + 1) Ls (v :: S))) t) : Steps p.tables e below (T.setTop (mkF m pc Ls (.int j :: .ref a :: S))) t := X.laload hx (j := j) (v := v) (by rw [eT]; exact A.1) (State.isArrayOf_alike hZ.alike A.2.1) A.2.2 hin hat (g := mkF m pc Ls (.int j :: .ref a :: S)) rfl rfl hd _ hr
theorem arraylength (X : Stand p l e R s m args below meth c T locs cells slots) (hx : p.tables.exec = Jvm.exec) {Z : State} {h : Heap} {a : Addr} {cl : Cell} {ty : FieldType} (n : Int32) (hZ : Z.Warmed39 s.vm) (eT : T.heap = h) (A : Arr Z h a cl ty) (hn : cl.slots.size.toInt32 = n) (hd : decode c.code pc = .ok (.arraylength, 1)) (hr : Steps p.tables e below (T.setTop (mkF m (pc + 1) Ls (.int n :: S))) t) : Steps p.tables e below (T.setTop (mkF m pc Ls (.ref a :: S))) t := X.arraylength hx (cell := cl) (by rw [eT]; exact A.1) (State.isArrayOf_alike hZ.alike A.2.1) (g := mkF m pc Ls (.ref a :: S)) rfl rfl hd _ (hn ▸ hr)
end Steps
/-! what a body is said to leave -/
def Con (l : Launch) (Z : State) (y : MethodName) (bytes : ByteArray) (maxL : Nat) (ret : Option FieldType) (rm : Room) (as' : Array Value) (h0 : Heap) (Q : Option Value → Heap → List Loc → Prop) : Prop :=
  ∀ ws : List Jvm.Cond, MetFree l y (head1 (Jvm.Cond.code y bytes maxL ret :: ws) rm) (fun a U => a = as' ∧ Z.Warmed39 U.vm ∧ U.heap = h0) (fun _ _ _ _ _ => True) (fun _ U o U' => ∃ v L, o = .returned v ∧ Q v U'.heap L ∧ FrameEnd U o U' L rm.cells rm.slots)
/-- it returns v and nothing is written or made -/
abbrev Pure (v : Value) (h0 : Heap) (v' : Option Value) (h : Heap) (L : List Loc) : Prop := v' = some v ∧ L = [] ∧ h = h0
/-- what the law leaves -/
abbrev Law1 (h0 : Heap) (v : Option Value) (h : Heap) (L : List Loc) : Prop := v = some (.int 1) ∧ Fr h0.size L
theorem Con.mono {l : Launch} {Z : State} {y : MethodName} {bytes : ByteArray} {maxL : Nat} {ret : Option FieldType} {rm : Room} {as' : Array Value} {h0 : Heap} {Q Q' : Option Value → Heap → List Loc → Prop} (hM : Con l Z y bytes maxL ret rm as' h0 Q) (hQ : ∀ v h L, Q v h L → Q' v h L) : Con l Z y bytes maxL ret rm as' h0 Q' := by
  intro ws p e ha hc hk s m args below hf happ hP hK
  obtain ⟨n, o, h1, h2, h3, v, L, h4, h5, h6⟩ := hM ws p e ha hc hk s m args below hf happ hP hK
  exact ⟨n, o, h1, h2, h3, v, L, h4, hQ _ _ _ h5, h6⟩
theorem Con.law {l : Launch} {Z : State} {y : MethodName} {bytes : ByteArray} {maxL : Nat} {ret : Option FieldType} {rm : Room} {as' : Array Value} {h0 : Heap} {v : Value} (hM : Con l Z y bytes maxL ret rm as' h0 (Pure v h0)) (e : v = .int 1) : Con l Z y bytes maxL ret rm as' h0 (Law1 h0) :=
  hM.mono fun _ _ _ ⟨h1, h2, _⟩ => ⟨by rw [h1, e], by rw [h2]; exact Fr.nil _⟩
/-- where a walk must come to -/
abbrev Fin (p : Program) (e : Env) (below : List Frame) (B0 s : State) (C D : Nat) (Q : Option Value → Heap → List Loc → Prop) : Prop := ∃ s₂ o, Steps p.tables e below B0 s₂ ∧ s₂.status = .running ∧ Ended s₂ below o ∧ ∃ v L, o = .returned v ∧ Q v s₂.heap L ∧ FrameEnd s o s₂ L C D
section Ends
variable {p : Program} {l : Launch} {e : Env} {R : Room} {s : State} {m : MethodId} {args : Array Value} {below : List Frame} {meth : Method} {c : Code} {T B0 : State} {locs : List Loc} {cells slots C D : Nat} {pc : Nat} {Ls : Array Slot} {rest : List Value} {Q : Option Value → Heap → List Loc → Prop}
theorem retI (X : Stand p l e R s m args below meth c T locs cells slots) (hx : p.tables.exec = Jvm.exec) {z : Int32} (hret : meth.sig.returnType = some .int) (hd : decode c.code pc = .ok (.ireturn, 1)) {fs : List Frame}
    (hl : ∀ (f : JFrame) (acts : List Action), f.method = m → f.locked = none → f.entered = [] → (doReturn e (T.setTop f) acts (some (.int z))).1 = T.setFrames fs) : Steps p.tables e below (T.setTop (mkF m pc Ls (.int z :: rest))) (T.setFrames fs) :=
  retOut X hx hret rfl (Or.inl ⟨rfl, Or.inl rfl, z, rfl⟩) hd hl
theorem finI (X : Stand p l e R s m args below meth c T locs cells slots) (hx : p.tables.exec = Jvm.exec) (hlk : meth.locks = false) (hret : meth.sig.returnType = some .int) {z : Int32} (hd : decode c.code pc = .ok (.ireturn, 1))
    (K : ∀ t, Steps p.tables e below (T.setTop (mkF m pc Ls (.int z :: rest))) t → Steps p.tables e below B0 t) (hC : cells ≤ C) (hD : slots ≤ D) (hQ : Q (some (.int z)) T.heap locs) :
    Fin p e below B0 s C D Q := by
  obtain ⟨fs, hr, hrun, hended, hW, hsame⟩ := X.leave (v := some (.int z)) (fun h => by rw [hret] at h; cases h) hlk
  exact ⟨_, _, K _ (retI X hx hret hd hr), hrun, hended, _, _, rfl, hQ, ⟨_, rfl⟩, hW, hsame.mono hC hD⟩
theorem finN (X : Stand p l e R s m args below meth c T locs cells slots) (hx : p.tables.exec = Jvm.exec) (hlk : meth.locks = false) {ty : FieldType} (hret : meth.sig.returnType = some ty) (ht : ty = .boolean ∨ ty = .byte ∨ ty = .char ∨ ty = .short) {z : Int32} (hd : decode c.code pc = .ok (.ireturn, 1))
    (K : ∀ t, Steps p.tables e below (T.setTop (mkF m pc Ls (.int z :: rest))) t → Steps p.tables e below B0 t) (hC : cells ≤ C) (hD : slots ≤ D) (hQ : Q (some (.int (nar ty z))) T.heap locs) :
    Fin p e below B0 s C D Q := by
  obtain ⟨fs, hr, hrun, hended, hW, hsame⟩ := X.leave (v := some (.int (nar ty z))) (fun h => by rw [hret] at h; cases h) hlk
  exact ⟨_, _, K _ (retN X hx hret ht hd hr), hrun, hended, _, _, rfl, hQ, ⟨_, rfl⟩, hW, hsame.mono hC hD⟩
theorem finJ (X : Stand p l e R s m args below meth c T locs cells slots) (hx : p.tables.exec = Jvm.exec) (hlk : meth.locks = false) (hret : meth.sig.returnType = some .long) {z : Int64} (hd : decode c.code pc = .ok (.lreturn, 1))
    (K : ∀ t, Steps p.tables e below (T.setTop (mkF m pc Ls (.long z :: rest))) t → Steps p.tables e below B0 t) (hC : cells ≤ C) (hD : slots ≤ D) (hQ : Q (some (.long z)) T.heap locs) :
    Fin p e below B0 s C D Q := by
  obtain ⟨fs, hr, hrun, hended, hW, hsame⟩ := X.leave (v := some (.long z)) (fun h => by rw [hret] at h; cases h) hlk
  exact ⟨_, _, K _ (retOut X hx hret rfl (Or.inr (Or.inl ⟨rfl, rfl, z, rfl⟩)) hd hr), hrun, hended, _, _, rfl, hQ, ⟨_, rfl⟩, hW, hsame.mono hC hD⟩
theorem narrow_ref {ty : FieldType} {v : Value} (ht : ty.isReference = true) (hv : v.isRef = true) : narrow ty v = v := by
  cases ty <;> first | (cases ht; done) | (cases v <;> first | rfl | (cases hv; done))
theorem finA (X : Stand p l e R s m args below meth c T locs cells slots) (hx : p.tables.exec = Jvm.exec) (hlk : meth.locks = false) {ty : FieldType} (hret : meth.sig.returnType = some ty) (ht : ty.isReference = true) {v : Value} (hv : v.isRef = true) (hd : decode c.code pc = .ok (.areturn, 1))
    (K : ∀ t, Steps p.tables e below (T.setTop (mkF m pc Ls (v :: rest))) t → Steps p.tables e below B0 t) (hC : cells ≤ C) (hD : slots ≤ D) (hQ : Q (some v) T.heap locs) :
    Fin p e below B0 s C D Q := by
  obtain ⟨fs, hr, hrun, hended, hW, hsame⟩ := X.leave (v := some v) (fun h => by rw [hret] at h; cases h) hlk
  exact ⟨_, _, K _ (retOut X hx hret (narrow_ref ht hv) (Or.inr (Or.inr (Or.inr (Or.inr ⟨rfl, ht, hv⟩)))) hd hr), hrun, hended, _, _, rfl, hQ, ⟨_, rfl⟩, hW, hsame.mono hC hD⟩
theorem finV (X : Stand p l e R s m args below meth c T locs cells slots) (hx : p.tables.exec = Jvm.exec) (hlk : meth.locks = false) (hret : meth.sig.returnType = none) (hd : decode c.code pc = .ok (.return_, 1)) 
    (K : ∀ t, Steps p.tables e below (T.setTop (mkF m pc Ls [])) t → Steps p.tables e below B0 t) (hC : cells ≤ C) (hD : slots ≤ D) (hQ : Q none T.heap locs) :
    Fin p e below B0 s C D Q := by
  obtain ⟨fs, hr, hrun, hended, hW, hsame⟩ := X.leave (v := none) (fun _ => rfl) hlk
  exact ⟨_, _, K _ (X.returnOut hx hret hd hr), hrun, hended, _, _, rfl, hQ, ⟨_, rfl⟩, hW, hsame.mono hC hD⟩
end Ends
section Calls
variable {p : Program} {l : Launch} {e : Env} {R : Room} {s : State} {m : MethodId} {args : Array Value} {below : List Frame} {meth : Method} {c : Code} {T : State} {locs : List Loc} {cells slots : Nat} {pc : Nat} {Ls : Array Slot} {Z : State} {a0 : Array Value} {h : Heap}
/-- a static call by its contract -/
theorem callC (X : Stand p l e R s m args below meth c T locs cells slots) (hx : p.tables.exec = Jvm.exec) (hZ : Z.Warmed39 s.vm) (eT : T.heap = h) {own : String} {index : Nat} {y : MethodName} {bytes : ByteArray} {maxL : Nat} {ret : Option FieldType} {rm : Room} {Q : Option Value → Heap → List Loc → Prop}
    (argsL rest : List Value) (hM : Con l Z y bytes maxL ret rm argsL.toArray h Q) (hown : s.vm.findClass own = some m.cls) (w1 : (Cond.methodLink own index y).before a0 Z = true) (w2 : (Cond.static y).before a0 Z = true) (w3 : (Cond.initialized y.cls).before a0 Z = true) (w4 : (Cond.code y bytes maxL ret).before a0 Z = true)
    (hy : y.cls ≠ "java/lang/invoke/MethodHandle" ∧ y.cls ≠ "java/lang/invoke/VarHandle") (W : Nat) (hf : rm.frames + 1 ≤ R.frames) (hl : W + (maxL + 11) + rm.locals ≤ R.locals) (hcR : cells + rm.cells ≤ R.cells) (hsR : slots + rm.slots ≤ R.slots) (hsz : Ls.size = c.maxLocals)
    {S : List Value} (hlen : ∀ sig, parseMethodDescriptor y.desc = some sig → argsL.length = sig.parameters.length) (hS : S = argsL.reverse ++ rest) (hW : (rest.map fun v => v.category).sum ≤ W) (hd : decode c.code pc = .ok (.invokestatic index, 3)) :
    ∃ (T' : State) (v : Option Value) (L : List Loc), Stand p l e R s m args below meth c T' (locs ++ L) (cells + rm.cells) (slots + rm.slots) ∧ Q v T'.heap L ∧ ∀ t, Steps p.tables e below (T'.setTop (mkF m (pc + 3) Ls (v.toList ++ rest))) t → Steps p.tables e below (T.setTop (mkF m pc Ls S)) t := by
  obtain ⟨v, _, ⟨T', L', k', n'⟩, -, X', ⟨L, hQ, l', y', z'⟩, st⟩ := Jvm.LawKit.callS X hx (y := y) hown (mvT hZ w1) (mvT hZ w2) (mvT hZ w3) (mvT hZ w4) hy (backOf (W := W) (hM []) hZ w4 w3 hf hl) (g := mkF m pc Ls S) rfl hsz (argsL := argsL) (rest := rest) hlen hS (by show 2 * 0 + _ ≤ _; rw [Nat.mul_zero, Nat.zero_add]; exact hW) hd (fun _ _ => ⟨rfl, eT, hcR, hsR⟩)
  dsimp only [Pt.U, Pt.locs, Pt.cells, Pt.slots] at X' l' y' z' st hQ
  subst l' y' z'
  exact ⟨T', v, L, X', hQ, st⟩
theorem callP (X : Stand p l e R s m args below meth c T locs cells slots) (hx : p.tables.exec = Jvm.exec) (hZ : Z.Warmed39 s.vm) (eT : T.heap = h) {own : String} {index : Nat} {y : MethodName} {bytes : ByteArray} {maxL : Nat} {ret : Option FieldType} {rm : Room} {v : Value}
    (argsL rest : List Value) (hM : Con l Z y bytes maxL ret rm argsL.toArray h (Pure v h)) (hown : s.vm.findClass own = some m.cls) (w1 : (Cond.methodLink own index y).before a0 Z = true) (w2 : (Cond.static y).before a0 Z = true) (w3 : (Cond.initialized y.cls).before a0 Z = true) (w4 : (Cond.code y bytes maxL ret).before a0 Z = true)
    (hy : y.cls ≠ "java/lang/invoke/MethodHandle" ∧ y.cls ≠ "java/lang/invoke/VarHandle") (W : Nat) (hrc : rm.cells = 0) (hrs : rm.slots = 0) (hf : rm.frames + 1 ≤ R.frames) (hl : W + (maxL + 11) + rm.locals ≤ R.locals) (hcR : cells ≤ R.cells) (hsR : slots ≤ R.slots) (hsz : Ls.size = c.maxLocals)
    {S : List Value} (hlen : ∀ sig, parseMethodDescriptor y.desc = some sig → argsL.length = sig.parameters.length) (hS : S = argsL.reverse ++ rest) (hW : (rest.map fun v => v.category).sum ≤ W) (hd : decode c.code pc = .ok (.invokestatic index, 3)) :
    ∃ T' : State, Stand p l e R s m args below meth c T' locs cells slots ∧ T'.heap = h ∧ ∀ t, Steps p.tables e below (T'.setTop (mkF m (pc + 3) Ls (v :: rest))) t → Steps p.tables e below (T.setTop (mkF m pc Ls S)) t := by
  obtain ⟨T', v', L, X', ⟨rfl, rfl, hh⟩, st⟩ := callC X hx hZ eT argsL rest hM hown w1 w2 w3 w4 hy W hf hl (by rw [hrc]; exact hcR) (by rw [hrs]; exact hsR) hsz hlen hS hW hd
  rw [hrc, hrs, List.append_nil] at X'
  exact ⟨T', X', hh, st⟩
/-- a virtual call by its contract -/
theorem callV (X : Stand p l e R s m args below meth c T locs cells slots) (hx : p.tables.exec = Jvm.exec) (hZ : Z.Warmed39 s.vm) (eT : T.heap = h) {own K : String} {index : Nat} {y : MethodName} {bytes : ByteArray} {maxL : Nat} {ret : Option FieldType} {rm : Room} {Q : Option Value → Heap → List Loc → Prop}
    (b : Addr) (argsL rest : List Value) (hM : Con l Z y bytes maxL ret rm (Value.ref b :: argsL).toArray h Q) (hown : s.vm.findClass own = some m.cls) (E : Exa Z h b K) (w1 : (Cond.methodLink own index y).before a0 Z = true) (w2 : (Cond.declares y).before a0 Z = true) (w3 : (Cond.selects K y y).before a0 Z = true) (w4 : (Cond.instanceMethod y).before a0 Z = true) (w5 : (Cond.initialized y.cls).before a0 Z = true) (w6 : (Cond.code y bytes maxL ret).before a0 Z = true)
    (hy : y.cls ≠ "java/lang/invoke/MethodHandle" ∧ y.cls ≠ "java/lang/invoke/VarHandle") (W : Nat) (hf : rm.frames + 1 ≤ R.frames) (hl : W + (maxL + 11) + rm.locals ≤ R.locals) (hcR : cells + rm.cells ≤ R.cells) (hsR : slots + rm.slots ≤ R.slots) (hsz : Ls.size = c.maxLocals)
    {S : List Value} (hlen : ∀ sig, parseMethodDescriptor y.desc = some sig → argsL.length = sig.parameters.length) (hS : S = argsL.reverse ++ .ref b :: rest) (hW : (rest.map fun v => v.category).sum ≤ W) (hd : decode c.code pc = .ok (.invokevirtual index, 3)) :
    ∃ (T' : State) (v : Option Value) (L : List Loc), Stand p l e R s m args below meth c T' (locs ++ L) (cells + rm.cells) (slots + rm.slots) ∧ Q v T'.heap L ∧ ∀ t, Steps p.tables e below (T'.setTop (mkF m (pc + 3) Ls (v.toList ++ rest))) t → Steps p.tables e below (T.setTop (mkF m pc Ls S)) t := by
  obtain ⟨cB, kB, q1, q2, q3⟩ := isOf hZ eT E
  obtain ⟨v, _, ⟨T', L', k', n'⟩, -, X', ⟨L, hQ, l', y', z'⟩, st⟩ := X.virtualBack hx (y := y) (z := y) hown (mvT hZ w1) (mvT hZ w2) (notFace_of_selects (args := #[]) (mvT hZ w3)) (mvT hZ w3) (mvT hZ w4) hy (backOf (W := W) (hM []) hZ w6 w5 hf hl) q1 q3 (g := mkF m pc Ls S) rfl hsz (Steps.refl _) (argsL := argsL) (rest := rest) hlen hS (by show 2 * 0 + _ ≤ _; rw [Nat.mul_zero, Nat.zero_add]; exact hW) hd (fun _ _ => ⟨rfl, eT, hcR, hsR⟩)
  dsimp only [Pt.U, Pt.locs, Pt.cells, Pt.slots] at X' l' y' z' st hQ
  subst l' y' z'
  exact ⟨T', v, L, X', hQ, fun t k => st.trans k⟩
theorem callVP (X : Stand p l e R s m args below meth c T locs cells slots) (hx : p.tables.exec = Jvm.exec) (hZ : Z.Warmed39 s.vm) (eT : T.heap = h) {own K : String} {index : Nat} {y : MethodName} {bytes : ByteArray} {maxL : Nat} {ret : Option FieldType} {rm : Room} {v : Value}
    (b : Addr) (argsL rest : List Value) (hM : Con l Z y bytes maxL ret rm (Value.ref b :: argsL).toArray h (Pure v h)) (hown : s.vm.findClass own = some m.cls) (E : Exa Z h b K) (w1 : (Cond.methodLink own index y).before a0 Z = true) (w2 : (Cond.declares y).before a0 Z = true) (w3 : (Cond.selects K y y).before a0 Z = true) (w4 : (Cond.instanceMethod y).before a0 Z = true) (w5 : (Cond.initialized y.cls).before a0 Z = true) (w6 : (Cond.code y bytes maxL ret).before a0 Z = true)
    (hy : y.cls ≠ "java/lang/invoke/MethodHandle" ∧ y.cls ≠ "java/lang/invoke/VarHandle") (W : Nat) (hrc : rm.cells = 0) (hrs : rm.slots = 0) (hf : rm.frames + 1 ≤ R.frames) (hl : W + (maxL + 11) + rm.locals ≤ R.locals) (hcR : cells ≤ R.cells) (hsR : slots ≤ R.slots) (hsz : Ls.size = c.maxLocals)
    {S : List Value} (hlen : ∀ sig, parseMethodDescriptor y.desc = some sig → argsL.length = sig.parameters.length) (hS : S = argsL.reverse ++ .ref b :: rest) (hW : (rest.map fun v => v.category).sum ≤ W) (hd : decode c.code pc = .ok (.invokevirtual index, 3)) :
    ∃ T' : State, Stand p l e R s m args below meth c T' locs cells slots ∧ T'.heap = h ∧ ∀ t, Steps p.tables e below (T'.setTop (mkF m (pc + 3) Ls (v :: rest))) t → Steps p.tables e below (T.setTop (mkF m pc Ls S)) t := by
  obtain ⟨T', v', L, X', ⟨rfl, rfl, hh⟩, st⟩ := callV X hx hZ eT b argsL rest hM hown E w1 w2 w3 w4 w5 w6 hy W hf hl (by rw [hrc]; exact hcR) (by rw [hrs]; exact hsR) hsz hlen hS hW hd
  rw [hrc, hrs, List.append_nil] at X'
  exact ⟨T', X', hh, st⟩
theorem getS (X : Stand p l e R s m args below meth c T locs cells slots) (hx : p.tables.exec = Jvm.exec) (hZ : Z.Warmed39 s.vm) (eT : T.heap = h) {own R0 O n d host : String} {index : Nat} (hown : s.vm.findClass own = some m.cls) (w : (Cond.fieldLink own index R0 n d).before a0 Z = true ∨ (Cond.fieldLinkNest own index R0 n d host).before a0 Z = true) (via : Via Z R0 O n d) {v : Value} (F : Sta Z h O n d v) {S : List Value} (hd : decode c.code pc = .ok (.getstatic index, 3)) :
    ∃ T' : State, Stand p l e R s m args below meth c T' locs cells slots ∧ T'.heap = h ∧ ∀ t, Steps p.tables e below (T'.setTop (mkF m (pc + 3) Ls (v :: S))) t → Steps p.tables e below (T.setTop (mkF m pc Ls S)) t := getS2 (g := mkF m pc Ls S) X hx hZ hown w via eT F rfl hd
theorem getF (X : Stand p l e R s m args below meth c T locs cells slots) (hx : p.tables.exec = Jvm.exec) (hZ : Z.Warmed39 s.vm) (eT : T.heap = h) {own R0 O n d host : String} {index : Nat} (hown : s.vm.findClass own = some m.cls) (w : (Cond.fieldLink own index R0 n d).before a0 Z = true ∨ (Cond.fieldLinkNest own index R0 n d host).before a0 Z = true) (via : Via Z R0 O n d) {a : Addr} {v : Value} (F : Fld Z h a O n d v) {S : List Value} (hd : decode c.code pc = .ok (.getfield index, 3)) :
    ∃ T' : State, Stand p l e R s m args below meth c T' locs cells slots ∧ T'.heap = h ∧ ∀ t, Steps p.tables e below (T'.setTop (mkF m (pc + 3) Ls (v :: S))) t → Steps p.tables e below (T.setTop (mkF m pc Ls (.ref a :: S))) t := Jvm.RoadKit.getF (g := mkF m pc Ls (.ref a :: S)) X hx hZ hown w via eT F rfl rfl hd
end Calls
end Jvm.Own
namespace Jvm.Own
open Sem ClassFile Op Lib Jvm.Stand Jvm.Free Jvm.LawKit Jvm.RoadKit
theorem Ext.refl (h : Heap) : Ext h h := ⟨Nat.le_refl _, fun _ _ q => q⟩
theorem Ext.trans {h0 h h' : Heap} (A : Ext h0 h) (B : Ext h h') : Ext h0 h' := ⟨Nat.le_trans A.1 B.1, fun a c q => B.2 a c (A.2 a c q)⟩
theorem Ext.keep {h0 h h' : Heap} {ws : List Addr} (A : Ext h0 h) (K : Keep h h' ws) (q : ∀ x ∈ ws, h0.size ≤ x) : Ext h0 h' := ⟨Nat.le_trans A.1 K.1, fun a c r => K.2.1 a c (A.2 a c r) fun z => absurd (Array.getElem?_eq_some_iff.mp r).1 (Nat.not_lt.mpr (q a z))⟩
theorem Ext.wr {h0 h h' : Heap} {a : Addr} {sl : Nat} {v : Value} (A : Ext h0 h) (W : Wr h h' a sl v) (q : h0.size ≤ a) : Ext h0 h' := Ext.keep A (Keep.of_wr W) fun x hx => by cases List.mem_singleton.mp hx; exact q
theorem sta_keep {Z : State} {h h' : Heap} {C n d K : String} {v : Value} {x : Addr} (F : Sta Z h C n d v) (Kp : Keep h h' [x]) (E : Exa Z h x K) : Sta Z h' C n d v := by
  obtain ⟨cf, i, k, f, st, cell, h1, h2, h3, h4, h5, h6, h7⟩ := F
  refine ⟨cf, i, k, f, st, cell, h1, h2, h3, h4, Kp.2.1 st cell h5 fun hm => ?_, h6, h7⟩
  cases List.mem_singleton.mp hm
  obtain ⟨c2, _, g1, -, -, g4, -⟩ := E
  cases h5.symm.trans g1
  rw [h6] at g4; cases g4
/-- an array of ints (chars, bytes, booleans) by its list -/
def CA (Z : State) (h : Heap) (a : Addr) (ty : FieldType) (xs : List Int32) : Prop := ∃ k, Arv Z h a k ty (Int32.ofNat xs.length) (xs.map Value.int) (.int 0) ∧ xs.length < 2 ^ 31
theorem CA.ext {Z : State} {h h' : Heap} {a : Addr} {ty : FieldType} {xs : List Int32} (F : CA Z h a ty xs) (E : Ext h h') : CA Z h' a ty xs := by obtain ⟨k, V, q⟩ := F; exact ⟨k, V.ext E, q⟩
theorem CA.keep {Z : State} {h h' : Heap} {a : Addr} {ty : FieldType} {xs : List Int32} {ws : List Addr} (F : CA Z h a ty xs) (K : Keep h h' ws) (n : a ∉ ws) : CA Z h' a ty xs := by obtain ⟨k, V, q⟩ := F; exact ⟨k, V.keep K n, q⟩
theorem CA.other {Z : State} {h h' : Heap} {a b : Addr} {ty : FieldType} {xs : List Int32} {sl : Nat} {v : Value} (F : CA Z h b ty xs) (W : Wr h h' a sl v) (n : b ≠ a) : CA Z h' b ty xs := by obtain ⟨k, V, q⟩ := F; exact ⟨k, V.other W n, q⟩
theorem CA.lt {Z : State} {h : Heap} {a : Addr} {ty : FieldType} {xs : List Int32} (F : CA Z h a ty xs) : a < h.size := by obtain ⟨k, V, q⟩ := F; exact V.lt
theorem ofNat_clamp {n : Nat} (h : n < 2 ^ 31) : (Int32.ofNat n).toNatClampNeg = n := by
  show (Int32.ofNat n).toInt.toNat = n
  rw [Int32.toInt_ofNat_small h]; rfl
theorem CA.len {Z : State} {h : Heap} {a : Addr} {ty : FieldType} {xs : List Int32} (F : CA Z h a ty xs) : ∃ cl, Arr Z h a cl ty ∧ cl.slots.size.toInt32 = Int32.ofNat xs.length := by
  obtain ⟨k, ⟨cl, A, -, S, M, -⟩, q⟩ := F
  exact ⟨cl, A, len_of S M⟩
theorem CA.get {Z : State} {h : Heap} {a : Addr} {ty : FieldType} {xs : List Int32} (F : CA Z h a ty xs) {j : Int32} (h0 : ¬ j < 0) (h1 : j.toNatClampNeg < xs.length) : ∃ cl, Arr Z h a cl ty ∧ ¬ (j < 0 ∨ cl.slots.size ≤ j.toNatClampNeg) ∧ cl.slots[j.toNatClampNeg]? = some (.int (xs.getD j.toNatClampNeg 0)) := by
  obtain ⟨k, ⟨cl, A, -, S, M, H, -⟩, q⟩ := F
  rw [ofNat_clamp q] at S
  refine ⟨cl, A, fun z => z.elim h0 fun z => by omega, ?_⟩
  rw [H _ (by omega)]
  simp [h1]
/-- an array of longs by its list -/
def LA (Z : State) (h : Heap) (a : Addr) (xs : List Int64) : Prop := ∃ k, Arv Z h a k .long (Int32.ofNat xs.length) (xs.map Value.long) (.long 0) ∧ xs.length < 2 ^ 31
theorem LA.ext {Z : State} {h h' : Heap} {a : Addr} {xs : List Int64} (F : LA Z h a xs) (E : Ext h h') : LA Z h' a xs := by obtain ⟨k, V, q⟩ := F; exact ⟨k, V.ext E, q⟩
theorem LA.keep {Z : State} {h h' : Heap} {a : Addr} {xs : List Int64} {ws : List Addr} (F : LA Z h a xs) (K : Keep h h' ws) (n : a ∉ ws) : LA Z h' a xs := by obtain ⟨k, V, q⟩ := F; exact ⟨k, V.keep K n, q⟩
theorem LA.other {Z : State} {h h' : Heap} {a b : Addr} {xs : List Int64} {sl : Nat} {v : Value} (F : LA Z h b xs) (W : Wr h h' a sl v) (n : b ≠ a) : LA Z h' b xs := by obtain ⟨k, V, q⟩ := F; exact ⟨k, V.other W n, q⟩
theorem LA.lt {Z : State} {h : Heap} {a : Addr} {xs : List Int64} (F : LA Z h a xs) : a < h.size := by obtain ⟨k, V, q⟩ := F; exact V.lt
section Heap
variable {p : Program} {l : Launch} {e : Env} {R : Room} {s : State} {m : MethodId} {args : Array Value} {below : List Frame} {meth : Method} {c : Code} {T : State} {locs : List Loc} {cells slots : Nat} {pc : Nat} {Ls : Array Slot} {S : List Value} {Z : State} {a0 : Array Value} {h : Heap}
theorem newO (X : Stand p l e R s m args below meth c T locs cells slots) (hx : p.tables.exec = Jvm.exec) (hZ : Z.Warmed39 s.vm) (eT : T.heap = h) {own C : String} {index n : Nat} (hown : s.vm.findClass own = some m.cls) (w : (Cond.classLink own index C).before a0 Z = true) (wi : (Cond.instantiable C n).before a0 Z = true) (wz : (Cond.initialized C).before a0 Z = true)
    (hd : decode c.code pc = .ok (.new index, 3)) (hc : cells + 1 ≤ R.cells) (hl : slots + n ≤ R.slots) :
    ∃ (T' : State) (h' : Heap) (b : Addr), Stand p l e R s m args below meth c T' locs (cells + 1) (slots + n) ∧ T'.heap = h' ∧ Ext h h' ∧ b = h.size ∧ Exa Z h' b C ∧ (∀ {O nm d : String} {ty : FieldType}, Laid Z a0 C O nm d → parseFieldDescriptor d = some ty → Fld Z h' b O nm d (defaultValue ty)) ∧
      ∀ t, Steps p.tables e below (T'.setTop (mkF m (pc + 3) Ls (.ref b :: S))) t → Steps p.tables e below (T.setTop (mkF m pc Ls S)) t := by
  obtain ⟨T', h', X', e', E, A, D, -, st⟩ := Jvm.RoadKit.newO X hx hZ hown w wi wz eT (g := mkF m pc Ls S) rfl hd hc hl
  exact ⟨T', h', _, X', e', E, rfl, A, D, st⟩
theorem newA (X : Stand p l e R s m args below meth c T locs cells slots) (hx : p.tables.exec = Jvm.exec) (hZ : Z.Warmed39 s.vm) (eT : T.heap = h) {aty : ArrayType} (ty : FieldType) (hty : newarray.typeOf aty = ty) (hdv : defaultValue ty = .int 0) (w : (Cond.arrayClass ty).before a0 Z = true)
    {z : Int32} (n : Nat) (hz : z = Int32.ofNat n) (hn : n < 2 ^ 26) (hd : decode c.code pc = .ok (.newarray aty, 2)) (hc : cells + 1 ≤ R.cells) (hl : slots + n ≤ R.slots) :
    ∃ (T' : State) (h' : Heap) (b : Addr), Stand p l e R s m args below meth c T' locs (cells + 1) (slots + n) ∧ T'.heap = h' ∧ Ext h h' ∧ b = h.size ∧ CA Z h' b ty (List.replicate n 0) ∧
      ∀ t, Steps p.tables e below (T'.setTop (mkF m (pc + 2) Ls (.ref b :: S))) t → Steps p.tables e below (T.setTop (mkF m pc Ls (.int z :: S))) t := by
  subst hty hz
  have q0 : ¬ Int32.ofNat n < 0 := Int32.ofNat_not_neg (show n < 2 ^ 31 by omega)
  have q1 : (Int32.ofNat n).toNatClampNeg = n := ofNat_clamp (by omega)
  obtain ⟨T', h', k, X', e', E, A, st⟩ := newP X hx hZ w eT (g := mkF m pc Ls (.int (Int32.ofNat n) :: S)) rfl hd rfl q0 (cap := n) (Nat.le_of_eq q1) (by omega) hc hl
  refine ⟨T', h', _, X', e', E, rfl, ⟨k, ?_, by simp; omega⟩, st⟩
  have V := Arv.new A q0
  rw [hdv] at V
  rw [List.length_replicate, List.map_replicate]
  exact V.pad (pad_rep [] (.int 0) n)
theorem stc (X : Stand p l e R s m args below meth c T locs cells slots) (hx : p.tables.exec = Jvm.exec) (hZ : Z.Warmed39 s.vm) (eT : T.heap = h) {a : Addr} {xs : List Int32} (F : CA Z h a .char xs) {j x : Int32} (i : Nat) (hi : j.toNatClampNeg = i) (h0 : ¬ j < 0) (h1 : i < xs.length) (hd : decode c.code pc = .ok (.castore, 1)) :
    ∃ (T' : State) (h' : Heap) (L' : List Loc), Stand p l e R s m args below meth c T' L' cells slots ∧ T'.heap = h' ∧ (∀ n0, Fr n0 locs → n0 ≤ a → Fr n0 L') ∧ Wr h h' a i (.int (nar .char x)) ∧ CA Z h' a .char (xs.set i (nar .char x)) ∧
      ∀ t, Steps p.tables e below (T'.setTop (mkF m (pc + 1) Ls S)) t → Steps p.tables e below (T.setTop (mkF m pc Ls (.int x :: .int j :: .ref a :: S))) t := by
  subst hi
  obtain ⟨k, ⟨cl, A, q1, Sz, M, H, G⟩, q⟩ := F
  have Sz' := Sz
  rw [ofNat_clamp q] at Sz'
  obtain ⟨T', h', X', e', W, st⟩ := stC X hx hZ eT A (j := j) (x := x) (fun z => z.elim h0 fun z => by omega) (g := mkF m pc Ls (.int x :: .int j :: .ref a :: S)) rfl rfl hd
  refine ⟨T', h', _, X', e', fun n0 N g => Fr.snoc X' N g, W, ⟨k, ?_, by simpa using q⟩, st⟩
  have V := Arv.set A q1 Sz M H G (fits_nar_char x) W j.toNatClampNeg rfl (by simpa using h1)
  rw [List.length_set, List.map_set]
  exact V
theorem stb (X : Stand p l e R s m args below meth c T locs cells slots) (hx : p.tables.exec = Jvm.exec) (hZ : Z.Warmed39 s.vm) (eT : T.heap = h) {a : Addr} {xs : List Int32} (F : CA Z h a .byte xs) {j x : Int32} (i : Nat) (hi : j.toNatClampNeg = i) (h0 : ¬ j < 0) (h1 : i < xs.length) (hd : decode c.code pc = .ok (.bastore, 1)) :
    ∃ (T' : State) (h' : Heap) (L' : List Loc), Stand p l e R s m args below meth c T' L' cells slots ∧ T'.heap = h' ∧ (∀ n0, Fr n0 locs → n0 ≤ a → Fr n0 L') ∧ Wr h h' a i (.int (nar .byte x)) ∧ CA Z h' a .byte (xs.set i (nar .byte x)) ∧
      ∀ t, Steps p.tables e below (T'.setTop (mkF m (pc + 1) Ls S)) t → Steps p.tables e below (T.setTop (mkF m pc Ls (.int x :: .int j :: .ref a :: S))) t := by
  subst hi
  obtain ⟨k, ⟨cl, A, q1, Sz, M, H, G⟩, q⟩ := F
  have Sz' := Sz
  rw [ofNat_clamp q] at Sz'
  obtain ⟨T', h', X', e', W, st⟩ := stB X hx hZ eT A (j := j) (x := x) (fun z => z.elim h0 fun z => by omega) (g := mkF m pc Ls (.int x :: .int j :: .ref a :: S)) rfl rfl hd
  refine ⟨T', h', _, X', e', fun n0 N g => Fr.snoc X' N g, W, ⟨k, ?_, by simpa using q⟩, st⟩
  have V := Arv.set A q1 Sz M H G (fits_nar_byte x) W j.toNatClampNeg rfl (by simpa using h1)
  rw [List.length_set, List.map_set]
  exact V
theorem newL (X : Stand p l e R s m args below meth c T locs cells slots) (hx : p.tables.exec = Jvm.exec) (hZ : Z.Warmed39 s.vm) (eT : T.heap = h) (w : (Cond.arrayClass .long).before a0 Z = true)
    {z : Int32} (n : Nat) (hz : z = Int32.ofNat n) (hn : n < 2 ^ 26) (hd : decode c.code pc = .ok (.newarray .long, 2)) (hc : cells + 1 ≤ R.cells) (hl : slots + n ≤ R.slots) :
    ∃ (T' : State) (h' : Heap) (b : Addr), Stand p l e R s m args below meth c T' locs (cells + 1) (slots + n) ∧ T'.heap = h' ∧ Ext h h' ∧ b = h.size ∧ LA Z h' b (List.replicate n 0) ∧
      ∀ t, Steps p.tables e below (T'.setTop (mkF m (pc + 2) Ls (.ref b :: S))) t → Steps p.tables e below (T.setTop (mkF m pc Ls (.int z :: S))) t := by
  subst hz
  have q0 : ¬ Int32.ofNat n < 0 := Int32.ofNat_not_neg (show n < 2 ^ 31 by omega)
  have q1 : (Int32.ofNat n).toNatClampNeg = n := ofNat_clamp (by omega)
  obtain ⟨T', h', k, X', e', E, A, st⟩ := newP X hx hZ (aty := .long) w eT (g := mkF m pc Ls (.int (Int32.ofNat n) :: S)) rfl hd rfl q0 (cap := n) (Nat.le_of_eq q1) (by omega) hc hl
  refine ⟨T', h', _, X', e', E, rfl, ⟨k, ?_, by simp; omega⟩, st⟩
  have V := Arv.new A q0
  rw [List.length_replicate, List.map_replicate]
  exact V.pad (pad_rep [] (.long 0) n)
theorem stl (X : Stand p l e R s m args below meth c T locs cells slots) (hx : p.tables.exec = Jvm.exec) (hZ : Z.Warmed39 s.vm) (eT : T.heap = h) {a : Addr} {xs : List Int64} (F : LA Z h a xs) {j : Int32} {x : Int64} (i : Nat) (hi : j.toNatClampNeg = i) (h0 : ¬ j < 0) (h1 : i < xs.length) (hd : decode c.code pc = .ok (.lastore, 1)) :
    ∃ (T' : State) (h' : Heap) (L' : List Loc), Stand p l e R s m args below meth c T' L' cells slots ∧ T'.heap = h' ∧ (∀ n0, Fr n0 locs → n0 ≤ a → Fr n0 L') ∧ Wr h h' a i (.long x) ∧ LA Z h' a (xs.set i x) ∧
      ∀ t, Steps p.tables e below (T'.setTop (mkF m (pc + 1) Ls S)) t → Steps p.tables e below (T.setTop (mkF m pc Ls (.long x :: .int j :: .ref a :: S))) t := by
  subst hi
  obtain ⟨k, ⟨cl, A, q1, Sz, M, H, G⟩, q⟩ := F
  have Sz' := Sz
  rw [ofNat_clamp q] at Sz'
  obtain ⟨T', h', X', e', W, st⟩ := stJ X hx hZ eT A (j := j) (x := x) (fun z => z.elim h0 fun z => by omega) (g := mkF m pc Ls (.long x :: .int j :: .ref a :: S)) rfl rfl hd
  refine ⟨T', h', _, X', e', fun n0 N g => Fr.snoc X' N g, W, ⟨k, ?_, by simpa using q⟩, st⟩
  have V := Arv.set A q1 Sz M H G rfl W j.toNatClampNeg rfl (by simpa using h1)
  rw [List.length_set, List.map_set]
  exact V
theorem lal (X : Stand p l e R s m args below meth c T locs cells slots) (hx : p.tables.exec = Jvm.exec) (hZ : Z.Warmed39 s.vm) (eT : T.heap = h) {a : Addr} {xs : List Int64} (F : LA Z h a xs) {j : Int32} (v : Int64) (h0 : ¬ j < 0) (h1 : j.toNatClampNeg < xs.length) (hv : xs.getD j.toNatClampNeg 0 = v) (hd : decode c.code pc = .ok (.laload, 1)) {t : State}
    (hr : Steps p.tables e below (T.setTop (mkF m (pc + 1) Ls (.long v :: S))) t) : Steps p.tables e below (T.setTop (mkF m pc Ls (.int j :: .ref a :: S))) t := by
  obtain ⟨k, ⟨cl, A, -, Sz, M, H, -⟩, q⟩ := F
  rw [ofNat_clamp q] at Sz
  have e1 := H j.toNatClampNeg (by omega)
  have e2 : (xs.map Value.long).getD j.toNatClampNeg (.long 0) = .long v := by rw [← hv]; simp [h1]
  rw [e2] at e1
  exact laload X hx (.long v) hZ eT A (fun z => z.elim h0 fun z => by omega) e1 hd hr
theorem cal (X : Stand p l e R s m args below meth c T locs cells slots) (hx : p.tables.exec = Jvm.exec) (hZ : Z.Warmed39 s.vm) (eT : T.heap = h) {a : Addr} {xs : List Int32} (F : CA Z h a .char xs) {j : Int32} (v : Int32) (h0 : ¬ j < 0) (h1 : j.toNatClampNeg < xs.length) (hv : xs.getD j.toNatClampNeg 0 = v) (hd : decode c.code pc = .ok (.caload, 1)) {t : State}
    (hr : Steps p.tables e below (T.setTop (mkF m (pc + 1) Ls (.int v :: S))) t) : Steps p.tables e below (T.setTop (mkF m pc Ls (.int j :: .ref a :: S))) t := by
  obtain ⟨cl, A, q1, q2⟩ := F.get h0 h1
  rw [hv] at q2
  exact caload X hx (.int v) hZ eT A q1 q2 hd hr
theorem putF (X : Stand p l e R s m args below meth c T locs cells slots) (hx : p.tables.exec = Jvm.exec) (hZ : Z.Warmed39 s.vm) (eT : T.heap = h) {own R0 O n d host C : String} {index kk : Nat} {ty : FieldType} (hown : s.vm.findClass own = some m.cls) (w : (Cond.fieldLink own index R0 n d).before a0 Z = true ∨ (Cond.fieldLinkNest own index R0 n d host).before a0 Z = true) (via : Via Z R0 O n d)
    {a : Addr} {v old : Value} (F : Fld Z h a O n d old) (E : Exa Z h a C) (L : (Cond.lays C O n d).before a0 Z = true ∨ ((Cond.laysFinal C O n d).before a0 Z = true ∧ own = O ∧ meth.name = "<init>")) (wi : (Cond.instantiable C kk).before a0 Z = true)
    (hty : parseFieldDescriptor d = some ty) (hn : narrow ty v = v) (hf : fits ty v = true) (hd : decode c.code pc = .ok (.putfield index, 3)) :
    ∃ (T' : State) (h' : Heap) (L' : List Loc), Stand p l e R s m args below meth c T' L' cells slots ∧ T'.heap = h' ∧ (∀ n0, Fr n0 locs → n0 ≤ a → Fr n0 L') ∧ Wr h h' a (Jvm.RoadKit.slotOf Z O n d) v ∧ Fld Z h' a O n d v ∧
      ∀ t, Steps p.tables e below (T'.setTop (mkF m (pc + 3) Ls S)) t → Steps p.tables e below (T.setTop (mkF m pc Ls (v :: .ref a :: S))) t := by
  obtain ⟨T', h', X', e', W, st⟩ := Jvm.RoadKit.putF X hx hZ hown w via eT F E L wi hty hn hf (g := mkF m pc Ls (v :: .ref a :: S)) rfl rfl hd
  exact ⟨T', h', _, X', e', fun n0 N g => Fr.snoc X' N g, W, F.same W, st⟩
theorem initO (X : Stand p l e R s m args below meth c T locs cells slots) (hx : p.tables.exec = Jvm.exec) (hZ : Z.Warmed39 s.vm) (eT : T.heap = h) {own : String} {idx : Nat} (hown : s.vm.findClass own = some m.cls) (w1 : (Cond.methodLink own idx Lib.objectInit).before a0 Z = true) (w2 : (Cond.instanceMethod Lib.objectInit).before a0 Z = true)
    (w3 : (Cond.code Lib.objectInit ⟨#[0xb1]⟩ 1 none).before a0 Z = true) (hsz : Ls.size = c.maxLocals) {a : Addr} (hd : decode c.code pc = .ok (.invokespecial idx, 3)) (hf : 1 ≤ R.frames) (W : Nat) (hW : (S.map fun v => v.category).sum ≤ W) (hl : W + 12 ≤ R.locals) :
    ∃ T' : State, Stand p l e R s m args below meth c T' locs cells slots ∧ T'.heap = h ∧ ∀ t, Steps p.tables e below (T'.setTop (mkF m (pc + 3) Ls S)) t → Steps p.tables e below (T.setTop (mkF m pc Ls (.ref a :: S))) t :=
  Jvm.RoadKit.initO X hx hZ hown w1 w2 w3 eT (g := mkF m pc Ls (.ref a :: S)) rfl hsz rfl hd hf (W := W) (by show 2 * 0 + _ ≤ _; rw [Nat.mul_zero, Nat.zero_add]; exact hW) hl
/-- a constructor by its payer -/
theorem callIB (X : Stand p l e R s m args below meth c T locs cells slots) (hx : p.tables.exec = Jvm.exec) (hZ : Z.Warmed39 s.vm) (eT : T.heap = h) {own : String} {index : Nat} {y : MethodName} {bytes : ByteArray} {maxL : Nat} {rc rs : Nat} {Q : Option Value → Heap → List Loc → Prop} (hy1 : y.name = "<init>")
    (a : Addr) (argsL rest : List Value) (W : Nat) (hB : Back l R p e below s args y 3 W (fun A b => b = (Value.ref a :: argsL).toArray ∧ A.U.heap = h ∧ A.cells + rc ≤ R.cells ∧ A.slots + rs ≤ R.slots) (fun A _ v B => ∃ L, Q v B.U.heap L ∧ B.locs = A.locs ++ L ∧ B.cells = A.cells + rc ∧ B.slots = A.slots + rs))
    (hown : s.vm.findClass own = some m.cls) (w1 : (Cond.methodLink own index y).before a0 Z = true) (w2 : (Cond.instanceMethod y).before a0 Z = true) (w4 : (Cond.code y bytes maxL none).before a0 Z = true)
    (hy : y.cls ≠ "java/lang/invoke/MethodHandle" ∧ y.cls ≠ "java/lang/invoke/VarHandle") (hcR : cells + rc ≤ R.cells) (hsR : slots + rs ≤ R.slots) (hsz : Ls.size = c.maxLocals)
    {S : List Value} (hlen : ∀ sig, parseMethodDescriptor y.desc = some sig → argsL.length = sig.parameters.length) (hS : S = argsL.reverse ++ .ref a :: rest) (hW : (rest.map fun v => v.category).sum ≤ W) (hd : decode c.code pc = .ok (.invokespecial index, 3)) :
    ∃ (T' : State) (h' : Heap) (v : Option Value) (L M : List Loc), Stand p l e R s m args below meth c T' M (cells + rc) (slots + rs) ∧ T'.heap = h' ∧ (∀ n0, Fr n0 locs → Fr n0 L → Fr n0 M) ∧ Q v h' L ∧ ∀ t, Steps p.tables e below (T'.setTop (mkF m (pc + 3) Ls (v.toList ++ rest))) t → Steps p.tables e below (T.setTop (mkF m pc Ls S)) t := by
  obtain ⟨v, _, ⟨T', L', k', n'⟩, -, X', ⟨L, hQ, l', y', z'⟩, st⟩ := X.specialBack hx (y := y) hy1 hown (mvT hZ w1) (mvT hZ w2) (mvT hZ w4) hy hB (g := mkF m pc Ls S) rfl hsz (Steps.refl _) (a := a) (argsL := argsL) (rest := rest) hlen hS (by show 2 * 0 + _ ≤ _; rw [Nat.mul_zero, Nat.zero_add]; exact hW) hd (fun _ _ => ⟨rfl, eT, hcR, hsR⟩)
  dsimp only [Pt.U, Pt.locs, Pt.cells, Pt.slots] at X' l' y' z' st hQ
  subst l' y' z'
  exact ⟨T', _, v, L, _, X', rfl, fun n0 A B => Fr.app A B, hQ, fun t k => st.trans k⟩
theorem callI (X : Stand p l e R s m args below meth c T locs cells slots) (hx : p.tables.exec = Jvm.exec) (hZ : Z.Warmed39 s.vm) (eT : T.heap = h) {own : String} {index : Nat} {y : MethodName} {bytes : ByteArray} {maxL : Nat} {rm : Room} {Q : Option Value → Heap → List Loc → Prop} (hy1 : y.name = "<init>")
    (a : Addr) (argsL rest : List Value) (hM : Con l Z y bytes maxL none rm (Value.ref a :: argsL).toArray h Q)
    (hown : s.vm.findClass own = some m.cls) (w1 : (Cond.methodLink own index y).before a0 Z = true) (w2 : (Cond.instanceMethod y).before a0 Z = true) (w3 : (Cond.initialized y.cls).before a0 Z = true) (w4 : (Cond.code y bytes maxL none).before a0 Z = true)
    (hy : y.cls ≠ "java/lang/invoke/MethodHandle" ∧ y.cls ≠ "java/lang/invoke/VarHandle") (W : Nat) (hf : rm.frames + 1 ≤ R.frames) (hl : W + (maxL + 11) + rm.locals ≤ R.locals) (hcR : cells + rm.cells ≤ R.cells) (hsR : slots + rm.slots ≤ R.slots) (hsz : Ls.size = c.maxLocals)
    {S : List Value} (hlen : ∀ sig, parseMethodDescriptor y.desc = some sig → argsL.length = sig.parameters.length) (hS : S = argsL.reverse ++ .ref a :: rest) (hW : (rest.map fun v => v.category).sum ≤ W) (hd : decode c.code pc = .ok (.invokespecial index, 3)) :
    ∃ (T' : State) (h' : Heap) (v : Option Value) (L M : List Loc), Stand p l e R s m args below meth c T' M (cells + rm.cells) (slots + rm.slots) ∧ T'.heap = h' ∧ (∀ n0, Fr n0 locs → Fr n0 L → Fr n0 M) ∧ Q v h' L ∧ ∀ t, Steps p.tables e below (T'.setTop (mkF m (pc + 3) Ls (v.toList ++ rest))) t → Steps p.tables e below (T.setTop (mkF m pc Ls S)) t :=
  callIB X hx hZ eT hy1 a argsL rest W (backOf (W := W) (hM []) hZ w4 w3 hf hl) hown w1 w2 w4 hy hcR hsR hsz hlen hS hW hd
/-- a static call by its contract, the heap and the places named -/
theorem callH (X : Stand p l e R s m args below meth c T locs cells slots) (hx : p.tables.exec = Jvm.exec) (hZ : Z.Warmed39 s.vm) (eT : T.heap = h) {own : String} {index : Nat} {y : MethodName} {bytes : ByteArray} {maxL : Nat} {ret : Option FieldType} {rm : Room} {Q : Option Value → Heap → List Loc → Prop}
    (argsL rest : List Value) (hM : Con l Z y bytes maxL ret rm argsL.toArray h Q) (hown : s.vm.findClass own = some m.cls) (w1 : (Cond.methodLink own index y).before a0 Z = true) (w2 : (Cond.static y).before a0 Z = true) (w3 : (Cond.initialized y.cls).before a0 Z = true) (w4 : (Cond.code y bytes maxL ret).before a0 Z = true)
    (hy : y.cls ≠ "java/lang/invoke/MethodHandle" ∧ y.cls ≠ "java/lang/invoke/VarHandle") (W : Nat) (hf : rm.frames + 1 ≤ R.frames) (hl : W + (maxL + 11) + rm.locals ≤ R.locals) (hcR : cells + rm.cells ≤ R.cells) (hsR : slots + rm.slots ≤ R.slots) (hsz : Ls.size = c.maxLocals)
    {S : List Value} (hlen : ∀ sig, parseMethodDescriptor y.desc = some sig → argsL.length = sig.parameters.length) (hS : S = argsL.reverse ++ rest) (hW : (rest.map fun v => v.category).sum ≤ W) (hd : decode c.code pc = .ok (.invokestatic index, 3)) :
    ∃ (T' : State) (h' : Heap) (v : Option Value) (L M : List Loc), Stand p l e R s m args below meth c T' M (cells + rm.cells) (slots + rm.slots) ∧ T'.heap = h' ∧ (∀ n0, Fr n0 locs → Fr n0 L → Fr n0 M) ∧ Q v h' L ∧ ∀ t, Steps p.tables e below (T'.setTop (mkF m (pc + 3) Ls (v.toList ++ rest))) t → Steps p.tables e below (T.setTop (mkF m pc Ls S)) t := by
  obtain ⟨T', v, L, X', hQ, st⟩ := callC X hx hZ eT argsL rest hM hown w1 w2 w3 w4 hy W hf hl hcR hsR hsz hlen hS hW hd
  exact ⟨T', _, v, L, _, X', rfl, fun n0 A B => Fr.app A B, hQ, st⟩
/-- a virtual call by a payer that writes nothing -/
theorem callVB (X : Stand p l e R s m args below meth c T locs cells slots) (hx : p.tables.exec = Jvm.exec) (hZ : Z.Warmed39 s.vm) (eT : T.heap = h) {own K : String} {index : Nat} {y : MethodName} {Q : Option Value → Heap → List Loc → Prop}
    (b : Addr) (argsL rest : List Value) (W : Nat) (hB : Back l R p e below s args y 3 W (fun A a => a = (Value.ref b :: argsL).toArray ∧ A.U.heap = h ∧ A.cells + 0 ≤ R.cells ∧ A.slots + 0 ≤ R.slots) (fun A _ v B => ∃ L, Q v B.U.heap L ∧ B.locs = A.locs ++ L ∧ B.cells = A.cells + 0 ∧ B.slots = A.slots + 0)) (hQ0 : ∀ v h' L, Q v h' L → L = [] ∧ h' = h)
    (hown : s.vm.findClass own = some m.cls) (E : Exa Z h b K) (w1 : (Cond.methodLink own index y).before a0 Z = true) (w2 : (Cond.declares y).before a0 Z = true) (w3 : (Cond.selects K y y).before a0 Z = true) (w4 : (Cond.instanceMethod y).before a0 Z = true)
    (hy : y.cls ≠ "java/lang/invoke/MethodHandle" ∧ y.cls ≠ "java/lang/invoke/VarHandle") (hcR : cells ≤ R.cells) (hsR : slots ≤ R.slots) (hsz : Ls.size = c.maxLocals)
    {S : List Value} (hlen : ∀ sig, parseMethodDescriptor y.desc = some sig → argsL.length = sig.parameters.length) (hS : S = argsL.reverse ++ .ref b :: rest) (hW : (rest.map fun v => v.category).sum ≤ W) (hd : decode c.code pc = .ok (.invokevirtual index, 3)) :
    ∃ (T' : State) (v : Option Value), Stand p l e R s m args below meth c T' locs cells slots ∧ T'.heap = h ∧ Q v h [] ∧ ∀ t, Steps p.tables e below (T'.setTop (mkF m (pc + 3) Ls (v.toList ++ rest))) t → Steps p.tables e below (T.setTop (mkF m pc Ls S)) t := by
  obtain ⟨cB, kB, q1, q2, q3⟩ := isOf hZ eT E
  obtain ⟨v, _, ⟨T', L', k', n'⟩, -, X', ⟨L, hQ, l', y', z'⟩, st⟩ := X.virtualBack hx (y := y) (z := y) hown (mvT hZ w1) (mvT hZ w2) (notFace_of_selects (args := #[]) (mvT hZ w3)) (mvT hZ w3) (mvT hZ w4) hy hB q1 q3 (g := mkF m pc Ls S) rfl hsz (Steps.refl _) (argsL := argsL) (rest := rest) hlen hS (by show 2 * 0 + _ ≤ _; rw [Nat.mul_zero, Nat.zero_add]; exact hW) hd (fun _ _ => ⟨rfl, eT, hcR, hsR⟩)
  dsimp only [Pt.U, Pt.locs, Pt.cells, Pt.slots] at X' l' y' z' st hQ
  obtain ⟨rfl, hh⟩ := hQ0 _ _ _ hQ
  rw [List.append_nil] at l'
  subst l' y' z'
  rw [hh] at hQ
  exact ⟨T', v, X', hh, hQ, fun t k => st.trans k⟩
/-- a constructor that writes nothing -/
theorem callIP (X : Stand p l e R s m args below meth c T locs cells slots) (hx : p.tables.exec = Jvm.exec) (hZ : Z.Warmed39 s.vm) (eT : T.heap = h) {own : String} {index : Nat} {y : MethodName} {bytes : ByteArray} {maxL : Nat} {rm : Room} (hy1 : y.name = "<init>")
    (a : Addr) (argsL rest : List Value) (hM : Con l Z y bytes maxL none rm (Value.ref a :: argsL).toArray h (fun v h' L => v = none ∧ L = [] ∧ h' = h))
    (hown : s.vm.findClass own = some m.cls) (w1 : (Cond.methodLink own index y).before a0 Z = true) (w2 : (Cond.instanceMethod y).before a0 Z = true) (w3 : (Cond.initialized y.cls).before a0 Z = true) (w4 : (Cond.code y bytes maxL none).before a0 Z = true)
    (hy : y.cls ≠ "java/lang/invoke/MethodHandle" ∧ y.cls ≠ "java/lang/invoke/VarHandle") (W : Nat) (hrc : rm.cells = 0) (hrs : rm.slots = 0) (hf : rm.frames + 1 ≤ R.frames) (hl : W + (maxL + 11) + rm.locals ≤ R.locals) (hcR : cells ≤ R.cells) (hsR : slots ≤ R.slots) (hsz : Ls.size = c.maxLocals)
    {S : List Value} (hlen : ∀ sig, parseMethodDescriptor y.desc = some sig → argsL.length = sig.parameters.length) (hS : S = argsL.reverse ++ .ref a :: rest) (hW : (rest.map fun v => v.category).sum ≤ W) (hd : decode c.code pc = .ok (.invokespecial index, 3)) :
    ∃ T' : State, Stand p l e R s m args below meth c T' locs cells slots ∧ T'.heap = h ∧ ∀ t, Steps p.tables e below (T'.setTop (mkF m (pc + 3) Ls rest)) t → Steps p.tables e below (T.setTop (mkF m pc Ls S)) t := by
  obtain ⟨v, _, ⟨T', L', k', n'⟩, -, X', ⟨L, ⟨rfl, rfl, hh⟩, l', y', z'⟩, st⟩ := X.specialBack hx (y := y) hy1 hown (mvT hZ w1) (mvT hZ w2) (mvT hZ w4) hy (backOf (W := W) (Q := fun v h' L => v = none ∧ L = [] ∧ h' = h) (hM []) hZ w4 w3 hf hl) (g := mkF m pc Ls S) rfl hsz (Steps.refl _) (a := a) (argsL := argsL) (rest := rest) hlen hS (by show 2 * 0 + _ ≤ _; rw [Nat.mul_zero, Nat.zero_add]; exact hW) hd (fun _ _ => ⟨rfl, eT, by rw [hrc]; exact hcR, by rw [hrs]; exact hsR⟩)
  dsimp only [Pt.U, Pt.locs, Pt.cells, Pt.slots] at X' l' y' z' st hh
  rw [List.append_nil] at l'
  rw [hrc] at y'; rw [hrs] at z'
  subst l' y' z'
  exact ⟨T', X', hh, fun t k => st.trans k⟩
theorem aal (X : Stand p l e R s m args below meth c T locs cells slots) (hx : p.tables.exec = Jvm.exec) (hZ : Z.Warmed39 s.vm) (eT : T.heap = h) {a : Addr} {cl : Cell} {ty : FieldType} (A : Arr Z h a cl ty) (hty : ty.isReference = true) {j : Int32} (v : Value) (hin : ¬ (j < 0 ∨ cl.slots.size ≤ j.toNatClampNeg)) (hat : cl.slots[j.toNatClampNeg]? = some v) (hd : decode c.code pc = .ok (.aaload, 1)) {t : State}
    (hr : Steps p.tables e below (T.setTop (mkF m (pc + 1) Ls (v :: S))) t) : Steps p.tables e below (T.setTop (mkF m pc Ls (.int j :: .ref a :: S))) t :=
  X.aaload hx (j := j) (v := v) (by rw [eT]; exact A.1) (State.isArrayOf_alike hZ.alike A.2.1) hty A.2.2 hin hat (g := mkF m pc Ls (.int j :: .ref a :: S)) rfl rfl hd _ hr
theorem instY (X : Stand p l e R s m args below meth c T locs cells slots) (hx : p.tables.exec = Jvm.exec) (hZ : Z.Warmed39 s.vm) (eT : T.heap = h) {own K : String} {index : Nat} (hown : s.vm.findClass own = some m.cls) (w : (Cond.classLink own index K).before a0 Z = true) {a : Addr} (F : Ins Z h a K true) (hd : decode c.code pc = .ok (.instanceof index, 3)) :
    ∃ T' : State, Stand p l e R s m args below meth c T' locs cells slots ∧ T'.heap = h ∧ ∀ t, Steps p.tables e below (T'.setTop (mkF m (pc + 3) Ls (.int 1 :: S))) t → Steps p.tables e below (T.setTop (mkF m pc Ls (.ref a :: S))) t := Jvm.RoadKit.instY (g := mkF m pc Ls (.ref a :: S)) X hx hZ hown w eT F rfl rfl hd
theorem castY (X : Stand p l e R s m args below meth c T locs cells slots) (hx : p.tables.exec = Jvm.exec) (hZ : Z.Warmed39 s.vm) (eT : T.heap = h) {own K : String} {index : Nat} (hown : s.vm.findClass own = some m.cls) (w : (Cond.classLink own index K).before a0 Z = true) {a : Addr} (F : Ins Z h a K true) (hd : decode c.code pc = .ok (.checkcast index, 3)) :
    ∃ T' : State, Stand p l e R s m args below meth c T' locs cells slots ∧ T'.heap = h ∧ ∀ t, Steps p.tables e below (T'.setTop (mkF m (pc + 3) Ls (.ref a :: S))) t → Steps p.tables e below (T.setTop (mkF m pc Ls (.ref a :: S))) t := Jvm.RoadKit.castY (g := mkF m pc Ls (.ref a :: S)) X hx hZ hown w eT F rfl rfl hd
theorem instN (X : Stand p l e R s m args below meth c T locs cells slots) (hx : p.tables.exec = Jvm.exec) (hZ : Z.Warmed39 s.vm) (eT : T.heap = h) {own K C : String} {index : Nat} (hown : s.vm.findClass own = some m.cls) (w : (Cond.classLink own index K).before a0 Z = true) {a : Addr} (E : Exa Z h a C) {n : Nat} (wi : (Cond.instantiable K n).before a0 Z = true) {t : List String} (hw : ∀ d ∈ Cond.chainWords (C :: t), d.before a0 Z = true) (hn : K ∉ C :: t) (hd : decode c.code pc = .ok (.instanceof index, 3)) :
    ∃ T' : State, Stand p l e R s m args below meth c T' locs cells slots ∧ T'.heap = h ∧ ∀ t, Steps p.tables e below (T'.setTop (mkF m (pc + 3) Ls (.int 0 :: S))) t → Steps p.tables e below (T.setTop (mkF m pc Ls (.ref a :: S))) t := by
  obtain ⟨cy, ky, h1, h2, h3, h4, -⟩ := Cond.instantiable_spec wi
  obtain ⟨cell, k, e1, e2, -⟩ := id E
  have h5 : ky.isInterface = false := by cases hi : ky.isInterface <;> simp [hi] at h4 ⊢
  exact instNo (g := mkF m pc Ls (.ref a :: S)) X hx hZ hown w eT E ⟨_, _, e2, h1, Vm.notAssignable_of_chain e2 h1 h2 h3 h5 hw hn⟩ rfl rfl hd
theorem instNull (X : Stand p l e R s m args below meth c T locs cells slots) (hx : p.tables.exec = Jvm.exec) {index : Nat} {t : State} (hd : decode c.code pc = .ok (.instanceof index, 3)) (hr : Steps p.tables e below (T.setTop (mkF m (pc + 3) Ls (.int 0 :: S))) t) : Steps p.tables e below (T.setTop (mkF m pc Ls (.null :: S))) t := X.instanceofNull hx (g := mkF m pc Ls (.null :: S)) rfl rfl hd _ hr
theorem more (X : Stand p l e R s m args below meth c T locs cells slots) {C D : Nat} (hC : cells ≤ C) (hD : slots ≤ D) : Stand p l e R s m args below meth c T locs C D := X.more hC hD
end Heap
end Jvm.Own
namespace Jvm.Own
open Sem ClassFile Op Lib Bundle Jvm.Stand Jvm.Free Jvm.LawKit Jvm.RoadKit
def ConH (l : Launch) (Z : State) (EL : List (String × Nat)) (y : MethodName) (bytes : ByteArray) (maxL : Nat) (ret : Option FieldType) (rm : Room) (as' : Array Value) (h0 : Heap) (Q : Option Value → Heap → List Loc → Prop) : Prop :=
  ∀ ws : List Jvm.Cond, MetFree l y (head1 (Jvm.Cond.code y bytes maxL ret :: ws) rm) (fun a U => a = as' ∧ Z.Warmed39 U.vm ∧ U.heap = h0 ∧ CHv Z EL U.vm h0) (fun _ _ _ _ _ => True) (fun _ U o U' => ∃ v L, o = .returned v ∧ Q v U'.heap L ∧ CHr Z EL U.vm U.heap U'.vm U'.heap ∧ ReturnedEndW U o U' L rm.cells rm.slots)
abbrev FinH (p : Program) (e : Env) (below : List Frame) (B0 s Z : State) (EL : List (String × Nat)) (C D : Nat) (Q : Option Value → Heap → List Loc → Prop) : Prop := ∃ s₂ o, Steps p.tables e below B0 s₂ ∧ s₂.status = .running ∧ Ended s₂ below o ∧ ∃ v L, o = .returned v ∧ Q v s₂.heap L ∧ CHr Z EL s.vm s.heap s₂.vm s₂.heap ∧ ReturnedEndW s o s₂ L C D
/-- what a wide walk bears: the tables since the true start, the constants' invariant at the heap h -/
def Wd (s Z : State) (EL : List (String × Nat)) (own : String) (k : ClassId) (vm : Vm) (h : Heap) : Prop := (∃ n, s.Since vm n ∧ n ≤ h.size) ∧ Z.Warmed39 vm ∧ vm.findClass own = some k ∧ CHr Z EL s.vm s.heap vm h
section Wd
variable {s Z : State} {EL : List (String × Nat)} {own : String} {k : ClassId} {vm : Vm} {h h' : Heap}
theorem Wd.hZ (D : Wd s Z EL own k vm h) : Z.Warmed39 (s.setVm vm).vm := D.2.1
theorem Wd.hown (D : Wd s Z EL own k vm h) : (s.setVm vm).vm.findClass own = some k := D.2.2.1
theorem Wd.H (D : Wd s Z EL own k vm h) : CHv Z EL vm h := D.2.2.2.1
theorem Wd.start (hZ : Z.Warmed39 s.vm) (hown : s.vm.findClass own = some k) (H : CHv Z EL s.vm s.heap) : Wd s Z EL own k s.vm s.heap := ⟨⟨0, (State.WarmedH.refl s).since 0, Nat.zero_le _⟩, hZ, hown, CHr.refl H⟩
theorem Wd.on (D : Wd s Z EL own k vm h) (A : CHr Z EL vm h vm h') : Wd s Z EL own k vm h' := by
  obtain ⟨⟨n, d1, d2⟩, d3, d4, d5⟩ := D
  exact ⟨⟨n, d1, Nat.le_trans d2 A.2.1⟩, d3, d4, d5.trans A⟩
theorem Wd.ext (D : Wd s Z EL own k vm h) (E : Ext h h') : Wd s Z EL own k vm h' := D.on (CHr.ext E D.H)
theorem Wd.wr {a : Addr} {sl : Nat} {v : Value} (D : Wd s Z EL own k vm h) (W : Wr h h' a sl v) (S : Safe Z EL vm h a) : Wd s Z EL own k vm h' := D.on (CHr.wr W S D.H)
theorem Wd.keep {ws : List Addr} (D : Wd s Z EL own k vm h) (K : Keep h h' ws) (S : ∀ x ∈ ws, Safe Z EL vm h x) : Wd s Z EL own k vm h' := D.on (CHr.keep K S D.H)
end Wd
/-- a String whose value is null is no booked one -/
theorem safe_null {Z : State} {EL : List (String × Nat)} {vm : Vm} {h : Heap} {x : Addr} (hal : Z.vm.Alike vm) (E : Exa Z h x "java/lang/String") (F : Fld Z h x "java/lang/String" "value" "[B" .null) : Safe Z EL vm h x := fun B => by
  obtain ⟨p, hp, u, a, hb, q, hqa, FS, hy⟩ := B
  obtain ⟨cS, ⟨⟨s1, s2, s3, ⟨cv, kv, iv, s4, s4'⟩, ⟨cc, kc, ic, s5, s5'⟩, s6, s7, s8, s9, s10, s11, s12, s13, s14, s15, s16⟩, hfS, hcS⟩, ⟨kS, k1, k2, k3⟩, hB, hbyt⟩ := FS
  obtain ⟨cell, cf, k, i, f, f1, f2, f3, f4, f5, f6, f7⟩ := F
  rcases hy with rfl | rfl
  · have e1 : cell = q.sC := Option.some.inj (f1.symm.trans s1)
    subst e1
    obtain ⟨kv', z4⟩ := ff_back (U := Wst Z vm h) hal s4
    cases z4.symm.trans f2
    cases s8.symm.trans f7
  · have e1 : cell = q.SA := Option.some.inj (f1.symm.trans s10)
    obtain ⟨cE, kE, g1, g2, g3, g4, g5⟩ := E
    have e2 : cE = q.SA := Option.some.inj (g1.symm.trans s10)
    subst e2
    have hBZ : Z.vm.findClass "[B" = some q.SA.cls := by rw [← hal.findClass]; exact hB
    obtain ⟨ka, ha1, ha2⟩ := Vm.findClass_spec g2
    obtain ⟨kb, hb1, hb2⟩ := Vm.findClass_spec hBZ
    cases ha1.symm.trans hb1
    exact absurd (ha2.symm.trans hb2) (by decide)
theorem CA.safe {Z : State} {EL : List (String × Nat)} {vm : Vm} {h : Heap} {a : Addr} {ty : FieldType} {xs : List Int32} (hal : Z.vm.Alike vm) (F : CA Z h a ty xs) (ht : ty ≠ .byte) : Safe Z EL vm h a := by obtain ⟨k, V, -⟩ := F; exact Safe.arv hal V ht
section WEnds
variable {p : Program} {l : Launch} {e : Env} {R : Room} {s : State} {m : MethodId} {args : Array Value} {below : List Frame} {meth : Method} {c : Code} {T : State} {locs : List Loc} {cells slots : Nat} {pc : Nat} {Ls : Array Slot} {Z : State} {a0 : Array Value} {h : Heap} {vm0 : Vm} {EL : List (String × Nat)} {own : String} {B0 : State} {C D : Nat} {rest : List Value} {Q : Option Value → Heap → List Loc → Prop} {k : ClassId}
theorem endW (X : Stand p l e R (s.setVm vm0) m args below meth c T locs cells slots) (hEL : EW Z a0 EL) (eT : T.heap = h) (W : Wd s Z EL own k vm0 h) {v : Option Value} {fs : List Frame} (hW : (s.setVm vm0).WarmedH (T.setFrames fs).vm) (hs : (s.setVm vm0).sameButNew ({ T.setFrames fs with vm := (s.setVm vm0).vm } : State) locs cells slots) (hC : cells ≤ C) (hD : slots ≤ D) :
    CHr Z EL s.vm s.heap (T.setFrames fs).vm (T.setFrames fs).heap ∧ ReturnedEndW s (.returned v) (T.setFrames fs) locs C D := by
  obtain ⟨⟨n, d1, d2⟩, d3, d4, d5⟩ := W
  subst eT
  have q := d1.ended (U := T.setFrames fs) hW d2 hs
  exact ⟨d5.trans (show CHr Z EL vm0 T.heap T.vm T.heap from CHv.at X d3 hEL d5.1), ⟨_, rfl⟩, q.1, q.2.1, q.2.2.mono hC hD⟩
theorem finHN (X : Stand p l e R (s.setVm vm0) m args below meth c T locs cells slots) (hx : p.tables.exec = Jvm.exec) (hEL : EW Z a0 EL) (eT : T.heap = h) (W : Wd s Z EL own k vm0 h) (hlk : meth.locks = false) {ty : FieldType} (hret : meth.sig.returnType = some ty) (ht : ty = .boolean ∨ ty = .byte ∨ ty = .char ∨ ty = .short) {z : Int32} (hd : decode c.code pc = .ok (.ireturn, 1))
    (K : ∀ t, Steps p.tables e below (T.setTop (mkF m pc Ls (.int z :: rest))) t → Steps p.tables e below B0 t) (hC : cells ≤ C) (hD : slots ≤ D) (hQ : Q (some (.int (nar ty z))) T.heap locs) : FinH p e below B0 s Z EL C D Q := by
  obtain ⟨fs, hr, hrun, hended, hW, hsame⟩ := X.leave (v := some (.int (nar ty z))) (fun h => by rw [hret] at h; cases h) hlk
  obtain ⟨r1, r2⟩ := endW X hEL eT W (v := some (.int (nar ty z))) hW hsame hC hD
  exact ⟨_, _, K _ (retN X hx hret ht hd hr), hrun, hended, _, _, rfl, hQ, r1, r2⟩
theorem finHI (X : Stand p l e R (s.setVm vm0) m args below meth c T locs cells slots) (hx : p.tables.exec = Jvm.exec) (hEL : EW Z a0 EL) (eT : T.heap = h) (W : Wd s Z EL own k vm0 h) (hlk : meth.locks = false) (hret : meth.sig.returnType = some .int) {z : Int32} (hd : decode c.code pc = .ok (.ireturn, 1))
    (K : ∀ t, Steps p.tables e below (T.setTop (mkF m pc Ls (.int z :: rest))) t → Steps p.tables e below B0 t) (hC : cells ≤ C) (hD : slots ≤ D) (hQ : Q (some (.int z)) T.heap locs) : FinH p e below B0 s Z EL C D Q := by
  obtain ⟨fs, hr, hrun, hended, hW, hsame⟩ := X.leave (v := some (.int z)) (fun h => by rw [hret] at h; cases h) hlk
  obtain ⟨r1, r2⟩ := endW X hEL eT W (v := some (.int z)) hW hsame hC hD
  exact ⟨_, _, K _ (retI X hx hret hd hr), hrun, hended, _, _, rfl, hQ, r1, r2⟩
theorem finHJ (X : Stand p l e R (s.setVm vm0) m args below meth c T locs cells slots) (hx : p.tables.exec = Jvm.exec) (hEL : EW Z a0 EL) (eT : T.heap = h) (W : Wd s Z EL own k vm0 h) (hlk : meth.locks = false) (hret : meth.sig.returnType = some .long) {z : Int64} (hd : decode c.code pc = .ok (.lreturn, 1))
    (K : ∀ t, Steps p.tables e below (T.setTop (mkF m pc Ls (.long z :: rest))) t → Steps p.tables e below B0 t) (hC : cells ≤ C) (hD : slots ≤ D) (hQ : Q (some (.long z)) T.heap locs) : FinH p e below B0 s Z EL C D Q := by
  obtain ⟨fs, hr, hrun, hended, hW, hsame⟩ := X.leave (v := some (.long z)) (fun h => by rw [hret] at h; cases h) hlk
  obtain ⟨r1, r2⟩ := endW X hEL eT W (v := some (.long z)) hW hsame hC hD
  exact ⟨_, _, K _ (retOut X hx hret rfl (Or.inr (Or.inl ⟨rfl, rfl, z, rfl⟩)) hd hr), hrun, hended, _, _, rfl, hQ, r1, r2⟩
theorem finHA (X : Stand p l e R (s.setVm vm0) m args below meth c T locs cells slots) (hx : p.tables.exec = Jvm.exec) (hEL : EW Z a0 EL) (eT : T.heap = h) (W : Wd s Z EL own k vm0 h) (hlk : meth.locks = false) {ty : FieldType} (hret : meth.sig.returnType = some ty) (ht : ty.isReference = true) {v : Value} (hv : v.isRef = true) (hd : decode c.code pc = .ok (.areturn, 1))
    (K : ∀ t, Steps p.tables e below (T.setTop (mkF m pc Ls (v :: rest))) t → Steps p.tables e below B0 t) (hC : cells ≤ C) (hD : slots ≤ D) (hQ : Q (some v) T.heap locs) : FinH p e below B0 s Z EL C D Q := by
  obtain ⟨fs, hr, hrun, hended, hW, hsame⟩ := X.leave (v := some v) (fun h => by rw [hret] at h; cases h) hlk
  obtain ⟨r1, r2⟩ := endW X hEL eT W (v := some v) hW hsame hC hD
  exact ⟨_, _, K _ (retOut X hx hret (narrow_ref ht hv) (Or.inr (Or.inr (Or.inr (Or.inr ⟨rfl, ht, hv⟩)))) hd hr), hrun, hended, _, _, rfl, hQ, r1, r2⟩
theorem finHV (X : Stand p l e R (s.setVm vm0) m args below meth c T locs cells slots) (hx : p.tables.exec = Jvm.exec) (hEL : EW Z a0 EL) (eT : T.heap = h) (W : Wd s Z EL own k vm0 h) (hlk : meth.locks = false) (hret : meth.sig.returnType = none) (hd : decode c.code pc = .ok (.return_, 1))
    (K : ∀ t, Steps p.tables e below (T.setTop (mkF m pc Ls ([]))) t → Steps p.tables e below B0 t) (hC : cells ≤ C) (hD : slots ≤ D) (hQ : Q (none) T.heap locs) : FinH p e below B0 s Z EL C D Q := by
  obtain ⟨fs, hr, hrun, hended, hW, hsame⟩ := X.leave (v := none) (fun _ => rfl) hlk
  obtain ⟨r1, r2⟩ := endW X hEL eT W (v := none) hW hsame hC hD
  exact ⟨_, _, K _ (X.returnOut hx hret hd hr), hrun, hended, _, _, rfl, hQ, r1, r2⟩
end WEnds
section WCalls
variable {p : Program} {l : Launch} {e : Env} {R : Room} {s : State} {m : MethodId} {args : Array Value} {below : List Frame} {meth : Method} {c : Code} {T : State} {locs : List Loc} {cells slots : Nat} {pc : Nat} {Ls : Array Slot} {Z : State} {a0 : Array Value} {h : Heap} {vm0 : Vm} {EL : List (String × Nat)} {own : String}
theorem Wd.back {vm1 : Vm} {n1 : Nat} {h' : Heap} {k : ClassId} (W : Wd s Z EL own k vm0 h) (hS : (s.setVm vm0).Since vm1 h'.size) (hg : h.size ≤ h'.size) (A : CHr Z EL vm0 h vm1 h') : Wd s Z EL own k vm1 h' := by
  obtain ⟨⟨n, d1, d2⟩, d3, d4, d5⟩ := W
  exact ⟨⟨h'.size, d1.trans hS (Nat.le_trans d2 hg), Nat.le_refl _⟩, State.Warmed39.trans (t := s.setVm vm0) d3 hS.1, (hS.1.alike.findClass _ _).trans d4, d5.trans A⟩
theorem callHW (X : Stand p l e R (s.setVm vm0) m args below meth c T locs cells slots) (hx : p.tables.exec = Jvm.exec) (hEL : EW Z a0 EL) (Wd0 : Wd s Z EL own m.cls vm0 h) (eT : T.heap = h) {index : Nat} {y : MethodName} {bytes : ByteArray} {maxL : Nat} {ret : Option FieldType} {rm : Room} {Q : Option Value → Heap → List Loc → Prop}
    (argsL rest : List Value) (hM : ConH l Z EL y bytes maxL ret rm argsL.toArray h Q) (w1 : (Cond.methodLink own index y).before a0 Z = true) (w2 : (Cond.static y).before a0 Z = true) (w3 : (Cond.initialized y.cls).before a0 Z = true) (w4 : (Cond.code y bytes maxL ret).before a0 Z = true)
    (hy : y.cls ≠ "java/lang/invoke/MethodHandle" ∧ y.cls ≠ "java/lang/invoke/VarHandle") (W : Nat) (hf : rm.frames + 1 ≤ R.frames) (hl : W + (maxL + 11) + rm.locals ≤ R.locals) (hcR : cells + rm.cells ≤ R.cells) (hsR : slots + rm.slots ≤ R.slots) (hsz : Ls.size = c.maxLocals)
    {S : List Value} (hlen : ∀ sig, parseMethodDescriptor y.desc = some sig → argsL.length = sig.parameters.length) (hS : S = argsL.reverse ++ rest) (hW : (rest.map fun v => v.category).sum ≤ W) (hd : decode c.code pc = .ok (.invokestatic index, 3)) :
    ∃ (vm1 : Vm) (T' : State) (h' : Heap) (v : Option Value) (L M : List Loc), Stand p l e R (s.setVm vm1) m args below meth c T' M (cells + rm.cells) (slots + rm.slots) ∧ T'.heap = h' ∧ Wd s Z EL own m.cls vm1 h' ∧ h.size ≤ h'.size ∧ (∀ n0, Fr n0 locs → Fr n0 L → Fr n0 M) ∧ Q v h' L ∧ ∀ t, Steps p.tables e below (T'.setTop (mkF m (pc + 3) Ls (v.toList ++ rest))) t → Steps p.tables e below (T.setTop (mkF m pc Ls S)) t := by
  subst eT
  obtain ⟨v, _, ⟨T', L', k', n'⟩, -, X', hS', hg, ⟨L, hQ, l', y', z', hC⟩, st⟩ := callSS X hx (y := y) Wd0.hown (mvT Wd0.hZ w1) (mvT Wd0.hZ w2) (mvT Wd0.hZ w3) (mvT Wd0.hZ w4) hy (backOfSH (W := W) (hM []) Wd0.2.1 w4 w3 hf hl hEL Wd0.H) (g := mkF m pc Ls S) rfl hsz (argsL := argsL) (rest := rest) hlen hS (by show 2 * 0 + _ ≤ _; rw [Nat.mul_zero, Nat.zero_add]; exact hW) hd (fun _ _ => ⟨rfl, rfl, hcR, hsR⟩)
  dsimp only [Pt.U, Pt.locs, Pt.cells, Pt.slots] at X' l' y' z' st hQ hS' hg hC
  subst l' y' z'
  exact ⟨T'.vm, T', _, v, L, _, X', rfl, Wd.back (n1 := 0) Wd0 hS' hg hC, hg, fun n0 A B => Fr.app A B, hQ, fun t k => st.trans k⟩
theorem callIW (X : Stand p l e R (s.setVm vm0) m args below meth c T locs cells slots) (hx : p.tables.exec = Jvm.exec) (hEL : EW Z a0 EL) (Wd0 : Wd s Z EL own m.cls vm0 h) (eT : T.heap = h) {index : Nat} {y : MethodName} {bytes : ByteArray} {maxL : Nat} {rm : Room} {Q : Option Value → Heap → List Loc → Prop} (hy1 : y.name = "<init>")
    (a : Addr) (argsL rest : List Value) (hM : ConH l Z EL y bytes maxL none rm (Value.ref a :: argsL).toArray h Q) (w1 : (Cond.methodLink own index y).before a0 Z = true) (w2 : (Cond.instanceMethod y).before a0 Z = true) (w3 : (Cond.initialized y.cls).before a0 Z = true) (w4 : (Cond.code y bytes maxL none).before a0 Z = true)
    (hy : y.cls ≠ "java/lang/invoke/MethodHandle" ∧ y.cls ≠ "java/lang/invoke/VarHandle") (W : Nat) (hf : rm.frames + 1 ≤ R.frames) (hl : W + (maxL + 11) + rm.locals ≤ R.locals) (hcR : cells + rm.cells ≤ R.cells) (hsR : slots + rm.slots ≤ R.slots) (hsz : Ls.size = c.maxLocals)
    {S : List Value} (hlen : ∀ sig, parseMethodDescriptor y.desc = some sig → argsL.length = sig.parameters.length) (hS : S = argsL.reverse ++ .ref a :: rest) (hW : (rest.map fun v => v.category).sum ≤ W) (hd : decode c.code pc = .ok (.invokespecial index, 3)) :
    ∃ (vm1 : Vm) (T' : State) (h' : Heap) (v : Option Value) (L M : List Loc), Stand p l e R (s.setVm vm1) m args below meth c T' M (cells + rm.cells) (slots + rm.slots) ∧ T'.heap = h' ∧ Wd s Z EL own m.cls vm1 h' ∧ h.size ≤ h'.size ∧ (∀ n0, Fr n0 locs → Fr n0 L → Fr n0 M) ∧ Q v h' L ∧ ∀ t, Steps p.tables e below (T'.setTop (mkF m (pc + 3) Ls (v.toList ++ rest))) t → Steps p.tables e below (T.setTop (mkF m pc Ls S)) t := by
  subst eT
  obtain ⟨v, _, ⟨T', L', k', n'⟩, -, X', hS', hg, ⟨L, hQ, l', y', z', hC⟩, st⟩ := X.specialBackS hx (y := y) hy1 Wd0.hown (mvT Wd0.hZ w1) (mvT Wd0.hZ w2) (mvT Wd0.hZ w4) hy (backOfSH (W := W) (hM []) Wd0.2.1 w4 w3 hf hl hEL Wd0.H) (g := mkF m pc Ls S) rfl hsz (Steps.refl _) (a := a) (argsL := argsL) (rest := rest) hlen hS (by show 2 * 0 + _ ≤ _; rw [Nat.mul_zero, Nat.zero_add]; exact hW) hd (fun _ _ => ⟨rfl, rfl, hcR, hsR⟩)
  dsimp only [Pt.U, Pt.locs, Pt.cells, Pt.slots] at X' l' y' z' st hQ hS' hg hC
  subst l' y' z'
  exact ⟨T'.vm, T', _, v, L, _, X', rfl, Wd.back (n1 := 0) Wd0 hS' hg hC, hg, fun n0 A B => Fr.app A B, hQ, fun t k => st.trans k⟩
theorem ldcT (X : Stand p l e R (s.setVm vm0) m args below meth c T locs cells slots) (hx : p.tables.exec = Jvm.exec) (hEL : EW Z a0 EL) (Wd0 : Wd s Z EL own m.cls vm0 h) (eT : T.heap = h) {index : Nat} (text : String) (w : (Cond.stringLink own index text).before a0 Z = true) (wS : ∀ a ∈ Bundle.stringAtoms, a.before a0 Z = true) (hmem : (own, index) ∈ EL)
    (cs : List Int32) (ht : ∀ c ∈ text.toList, c.toNat < 256) (hcs : text.toList.map (fun c => Value.int (Jvm.Lit.byteI c.toNat.toUInt16)) = (cs.map fun c => c.toInt8.toInt32).map Value.int) (n : Nat) (hn : 4 * text.toList.length ≤ n) (hbig : n ≤ 536870912) (hlen : cs.length < 2 ^ 31) (hc : cells + 2 ≤ R.cells) (hl : slots + (n + 4) ≤ R.slots) {S : List Value} (hd : decode c.code pc = .ok (.ldc index, 2)) :
    ∃ (vm1 : Vm) (T' : State) (h' : Heap) (a b : Addr) (k : ClassId), Stand p l e R (s.setVm vm1) m args below meth c T' locs (cells + 2) (slots + (n + 4)) ∧ T'.heap = h' ∧ Ext h h' ∧ Wd s Z EL own m.cls vm1 h' ∧ (∀ x, x < h.size → Safe Z EL vm0 h x → Safe Z EL vm1 h' x) ∧ Exa Z h' a "java/lang/String" ∧ Fld Z h' a "java/lang/String" "value" "[B" (.ref b) ∧ Fld Z h' a "java/lang/String" "coder" "B" (.int 0) ∧ Arv Z h' b k .byte (Int32.ofNat cs.length) ((cs.map fun c => c.toInt8.toInt32).map Value.int) (.int 0) ∧ (∀ x, Safe Z EL vm1 h' x → x ≠ a ∧ x ≠ b) ∧
      ∀ t, Steps p.tables e below (T'.setTop (mkF m (pc + 2) Ls (.ref a :: S))) t → Steps p.tables e below (T.setTop (mkF m pc Ls S)) t := by
  obtain ⟨⟨k0, d1, d2⟩, d3, d4, d5⟩ := Wd0
  obtain ⟨a, T', h', k1, b, k, X', e', E, hS, hk, hW, hf, r1, r2, r3, r4, -, -, hC, -, hne, st⟩ := ldcCH X hx d3 d4 w wS eT d1 d2 hEL hmem d5.1 (vs := (cs.map fun c => c.toInt8.toInt32).map Value.int) (z := Int32.ofNat cs.length) ⟨ht, hcs⟩ (Int32.ofNat_not_neg hlen) (by rw [ofNat_clamp hlen]; simp) (g := mkF m pc Ls S) rfl hd hn hbig hc hl
  exact ⟨T'.vm, T', h', a, b, k, X', e', E, ⟨⟨k1, hS, hk⟩, hW, hf, d5.trans hC⟩, fun x q r => hC.safe q r, r1, r3, r2, r4, hne, st⟩
end WCalls
end Jvm.Own
/- laws to paste: Road.backV (cut by pick.py; bodies as the Statement names them) -/
namespace Jvm.Pilot.@@N@@
namespace StrChars
open Jvm Sem ClassFile Op Lib Jvm.Stand Jvm.Free.XT Jvm.Free.ALB Jvm.Free.JM Jvm.Free
open Jvm.Lib.Cold (StaticIs)
/-- a char array whose places are chars -/
def Ch (a : Addr) (A : Cell) (U : State) : Prop := Arr .char a A U ∧ Typed .char A
theorem Ch.mv {a : Addr} {A : Cell} {U U' : State} (h : Ch a A U) (hal : U.vm.Alike U'.vm) (hh : U'.heap = U.heap) : Ch a A U' := ⟨h.1.mv hal hh, h.2⟩
theorem Ch.keep {a : Addr} {A : Cell} {U U' : State} (h : Ch a A U) (hal : U.vm.Alike U'.vm) (hk : U'.heap[a]? = some A) : Ch a A U' := ⟨h.1.keep hal hk, h.2⟩
/-- what place i of a char[]'s cell holds -/
def cv (A : Cell) (i : Nat) : Int32 := match A.slots[i]? with | some (.int x) => x | _ => 0
theorem Ch.get {a : Addr} {A : Cell} {U : State} (h : Ch a A U) {i : Nat} (hi : i < A.slots.size) : A.slots[i]? = some (.int (cv A i)) := by
  have e := Array.getElem?_eq_getElem hi
  have f := h.2 i _ e
  unfold cv; rw [e]
  generalize A.slots[i] = v at f
  cases v <;> simp [fits] at f ⊢
/-- the byte that i2b leaves of a char -/
def lo8 (x : Int32) : Int32 := x.toInt8.toInt32
theorem fits_lo8 (y : Int32) : fits .byte (.int (lo8 y)) = true := by
  have h1 := y.toInt8.le_toInt
  have h2 := y.toInt8.toInt_lt
  simp only [lo8, fits, Bool.and_eq_true, decide_eq_true_eq, Int32.le_iff_toInt_le, Int8.toInt_toInt32, show (-128 : Int32).toInt = -128 from by decide, show (127 : Int32).toInt = 127 from by decide]
  omega
/-- A' is A but that each place j of lo .. hi - 1 holds f j -/
def Laid (A A' : Cell) (lo hi : Nat) (f : Nat → Value) : Prop := A'.cls = A.cls ∧ A'.vm = A.vm ∧ A'.slots.size = A.slots.size ∧ ∀ i, A'.slots[i]? = if lo ≤ i ∧ i < hi then some (f i) else A.slots[i]?
theorem Laid.zero (A : Cell) (lo : Nat) (f : Nat → Value) : Laid A A lo (lo + 0) f := ⟨rfl, rfl, rfl, fun i => by rw [if_neg (by omega)]⟩
theorem Laid.step {A Ak : Cell} {lo k : Nat} {f : Nat → Value} {v : Value} (h : Laid A Ak lo k f) (hlo : lo ≤ k) (hk : k < Ak.slots.size) (hv : v = f k) : Laid A (Ak.setSlot k v) lo (k + 1) f := by
  refine ⟨h.1, h.2.1, by simpa [Cell.setSlot] using h.2.2.1, fun i => ?_⟩
  by_cases e : k = i
  · subst e; rw [Cell.slots_setSlot_self v hk, if_pos (by omega), hv]
  · rw [Cell.slots_setSlot_ne v e, h.2.2.2 i]
    by_cases q : lo ≤ i ∧ i < k
    · rw [if_pos q, if_pos (by omega)]
    · rw [if_neg q, if_neg (by omega)]
def U16 : String := "java/lang/StringUTF16"
namespace Cmp5
def yN : MethodName := ⟨"java/lang/StringUTF16", "compress", "([CI[BII)I"⟩
abbrev yB : ByteArray := jdk_52_method_21_code
theorem d0 : decode yB 0 = .ok (.iconst 0, 1) := by decide +kernel
theorem d1 : decode yB 1 = .ok (.istore 5, 2) := by decide +kernel
theorem d3 : decode yB 3 = .ok (.iload 5, 2) := by decide +kernel
theorem d5 : decode yB 5 = .ok (.iload 4, 2) := by decide +kernel
theorem d7 : decode yB 7 = .ok (.if_icmp (.ge) 37, 3) := by decide +kernel
theorem d10 : decode yB 10 = .ok (.aload_n 0, 1) := by decide +kernel
theorem d11 : decode yB 11 = .ok (.iload_n 1, 1) := by decide +kernel
theorem d12 : decode yB 12 = .ok (.caload, 1) := by decide +kernel
theorem d13 : decode yB 13 = .ok (.istore 6, 2) := by decide +kernel
theorem d15 : decode yB 15 = .ok (.iload 6, 2) := by decide +kernel
theorem d17 : decode yB 17 = .ok (.sipush 255, 3) := by decide +kernel
theorem d20 : decode yB 20 = .ok (.if_icmp (.le) 6, 3) := by decide +kernel
theorem d26 : decode yB 26 = .ok (.aload_n 2, 1) := by decide +kernel
theorem d27 : decode yB 27 = .ok (.iload_n 3, 1) := by decide +kernel
theorem d28 : decode yB 28 = .ok (.iload 6, 2) := by decide +kernel
theorem d30 : decode yB 30 = .ok (.i2b, 1) := by decide +kernel
theorem d31 : decode yB 31 = .ok (.bastore, 1) := by decide +kernel
theorem d32 : decode yB 32 = .ok (.iinc 1 1, 3) := by decide +kernel
theorem d35 : decode yB 35 = .ok (.iinc 3 1, 3) := by decide +kernel
theorem d38 : decode yB 38 = .ok (.iinc 5 1, 3) := by decide +kernel
theorem d41 : decode yB 41 = .ok (.goto (-38), 3) := by decide +kernel
theorem d44 : decode yB 44 = .ok (.iload 4, 2) := by decide +kernel
theorem d46 : decode yB 46 = .ok (.ireturn, 1) := by decide +kernel
def site : List Cond := []
def tab : Cond := tabOf yN yB 7 (some .int) site
def P (b : Addr) (A : Cell) (d : Addr) (B : Cell) (o q len : Nat) (args : Array Value) (s : State) : Prop := args = #[.ref b, .int (Int32.ofNat o), .ref d, .int (Int32.ofNat q), .int (Int32.ofNat len)] ∧ Ch b A s ∧ Arr .byte d B s ∧ b ≠ d ∧ o + len ≤ A.slots.size ∧ q + len ≤ B.slots.size ∧ ∀ i, i < len → ¬ 255 < cv A (o + i)
def E (b : Addr) (A : Cell) (d : Addr) (B : Cell) (o q len : Nat) (r : Option Value) (s u : State) : Prop := r = some (.int (Int32.ofNat len)) ∧ ∃ B', Put d B' s u ∧ Laid B B' q (q + len) (fun j => Value.int (lo8 (cv A (o + (j - q)))))
/-- no char of the range above 255: len; the places written hold each char's low byte -/
theorem law (l : Launch) (b : Addr) (A : Cell) (d : Addr) (B : Cell) (o q len : Nat) : Law l yN 5 5 0 0 yB 7 (some .int) site (P b A d B o q len) (E b A d B o q len) (copyLocs d q len) 0 0 := by
  refine Law.of_walk (plainFor_of_name (by decide +kernel)) (by decide +kernel) (by decide +kernel) (by decide) (fun _ _ h => by rw [h.1]; rfl) (fun _ U U' hal hh h => ⟨h.1, h.2.1.mv hal hh, h.2.2.1.mv hal hh, h.2.2.2⟩) (fun r U U' V V' h1 hal h2 h => ⟨h.1, h.2.elim fun B' q => ⟨B', q.1.mv h1 h2, q.2⟩⟩) ?_
  intro p e s m args below meth c s₁ X0 hexec hbytes hml hret hlk hnm hown hh0 W hP
  obtain ⟨rfl, hA, hB, hne, l1, l2, hp⟩ := hP
  have c1 : Steps p.tables e below (s₁.setTop (entryFrame m #[.ref b, .int (Int32.ofNat o), .ref d, .int (Int32.ofNat q), .int (Int32.ofNat len)] 7)) (s₁.setTop (mkF m 0 #[.val (.ref b), .val (.int (Int32.ofNat o)), .val (.ref d), .val (.int (Int32.ofNat q)), .val (.int (Int32.ofNat len)), .unset, .unset] [])) := entry rfl
  have hA0 := hA.1.mv X0.warmed.alike hh0
  have hB0 := hB.mv X0.warmed.alike hh0
  have a31 := hA.1.2.2.2
  have c2 : Steps p.tables e below (s₁.setTop (entryFrame m #[.ref b, .int (Int32.ofNat o), .ref d, .int (Int32.ofNat q), .int (Int32.ofNat len)] 7)) (s₁.setTop (mkF m 3 #[.val (.ref b), .val (.int (Int32.ofNat o)), .val (.ref d), .val (.int (Int32.ofNat q)), .val (.int (Int32.ofNat len)), .val (.int 0), .unset] [])) := c1.trans (by
    refine iconstV X0.here hexec rfl 0 (hb hbytes d0) (by decide) ?_
    refine XS.istore X0.here hexec rfl (hb hbytes d1) rfl rfl ?_
    exact Steps.refl _)
  have loop : ∀ (r i : Nat), i + r = len → ∀ (z : Slot), (z = .unset ∨ ∃ w, z = .val w ∧ w.category = 1) → ∀ (Tl : State) (Bk : Cell), Stand p l e { frames := 0, locals := 0, cells := 0, slots := 0 } s m #[.ref b, .int (Int32.ofNat o), .ref d, .int (Int32.ofNat q), .int (Int32.ofNat len)] below meth c Tl ([] ++ copyLocs d q i) 0 0 → Put d Bk s₁ Tl → Laid B Bk q (q + i) (fun j => Value.int (lo8 (cv A (o + (j - q))))) →
      Steps p.tables e below (s₁.setTop (entryFrame m #[.ref b, .int (Int32.ofNat o), .ref d, .int (Int32.ofNat q), .int (Int32.ofNat len)] 7)) (Tl.setTop (mkF m 3 #[.val (.ref b), .val (.int (Int32.ofNat (o + i))), .val (.ref d), .val (.int (Int32.ofNat (q + i))), .val (.int (Int32.ofNat len)), .val (.int (Int32.ofNat i)), z] [])) → ∃ (T' : State) (B' : Cell) (z' : Slot), Stand p l e { frames := 0, locals := 0, cells := 0, slots := 0 } s m #[.ref b, .int (Int32.ofNat o), .ref d, .int (Int32.ofNat q), .int (Int32.ofNat len)] below meth c T' ([] ++ copyLocs d q len) 0 0 ∧ Put d B' s₁ T' ∧ Laid B B' q (q + len) (fun j => Value.int (lo8 (cv A (o + (j - q))))) ∧
      Steps p.tables e below (s₁.setTop (entryFrame m #[.ref b, .int (Int32.ofNat o), .ref d, .int (Int32.ofNat q), .int (Int32.ofNat len)] 7)) (T'.setTop (mkF m 3 #[.val (.ref b), .val (.int (Int32.ofNat (o + len))), .val (.ref d), .val (.int (Int32.ofNat (q + len))), .val (.int (Int32.ofNat len)), .val (.int (Int32.ofNat len)), z'] [])) := by
    intro r
    induction r with
    | zero =>
      intro i hi z hz Tl Bk Xl pl fl cl
      have hil : i = len := by omega
      rw [hil] at Xl fl cl
      exact ⟨Tl, Bk, z, Xl, pl, fl, cl⟩
    | succ r ih =>
      intro i hi z hz Tl Bk Xl pl fl cl
      have all := X0.warmed.alike.symm.trans Xl.warmed.alike
      have hAl := hA0.keep all (pl.other hne hA0.1)
      have hBk := hB0.like all pl.1 fl.1 fl.2.1 fl.2.2.1
      have hlt : q + i < Bk.slots.size := by rw [fl.2.2.1]; omega
      have c3 : Steps p.tables e below (s₁.setTop (entryFrame m #[.ref b, .int (Int32.ofNat o), .ref d, .int (Int32.ofNat q), .int (Int32.ofNat len)] 7)) (Tl.setTop (mkF m 12 #[.val (.ref b), .val (.int (Int32.ofNat (o + i))), .val (.ref d), .val (.int (Int32.ofNat (q + i))), .val (.int (Int32.ofNat len)), .val (.int (Int32.ofNat i)), z] [.int (Int32.ofNat (o + i)), .ref b])) := cl.trans (by
        refine XS.iload Xl.here hexec rfl (hb hbytes d3) rfl ?_
        refine XS.iload Xl.here hexec rfl (hb hbytes d5) rfl ?_
        refine XS.icmpNo Xl.here hexec rfl (hb hbytes d7) rfl (ii_ge_f (lt32 (by omega) (by omega))) ?_
        refine XS.aloadN Xl.here hexec rfl (hb hbytes d10) rfl rfl ?_
        refine XS.iloadN Xl.here hexec rfl (hb hbytes d11) rfl ?_
        exact Steps.refl _)
      have c4 : Steps p.tables e below (s₁.setTop (entryFrame m #[.ref b, .int (Int32.ofNat o), .ref d, .int (Int32.ofNat q), .int (Int32.ofNat len)] 7)) (Tl.setTop (mkF m 13 #[.val (.ref b), .val (.int (Int32.ofNat (o + i))), .val (.ref d), .val (.int (Int32.ofNat (q + i))), .val (.int (Int32.ofNat len)), .val (.int (Int32.ofNat i)), z] [.int (cv A (o + i))])) := c3.trans (by
        refine Xl.aget hexec hAl rfl (hA.get (i := o + i) (by omega)) rfl rfl (hb hbytes d12) ?_
        exact Steps.refl _)
      have c5 : Steps p.tables e below (s₁.setTop (entryFrame m #[.ref b, .int (Int32.ofNat o), .ref d, .int (Int32.ofNat q), .int (Int32.ofNat len)] 7)) (Tl.setTop (mkF m 15 #[.val (.ref b), .val (.int (Int32.ofNat (o + i))), .val (.ref d), .val (.int (Int32.ofNat (q + i))), .val (.int (Int32.ofNat len)), .val (.int (Int32.ofNat i)), .val (.int (cv A (o + i)))] [])) := c4.trans (by
        refine XS.istoreS Xl.here hexec rfl (hb hbytes d13) rfl rfl hz ?_
        exact Steps.refl _)
      have c6 : Steps p.tables e below (s₁.setTop (entryFrame m #[.ref b, .int (Int32.ofNat o), .ref d, .int (Int32.ofNat q), .int (Int32.ofNat len)] 7)) (Tl.setTop (mkF m 31 #[.val (.ref b), .val (.int (Int32.ofNat (o + i))), .val (.ref d), .val (.int (Int32.ofNat (q + i))), .val (.int (Int32.ofNat len)), .val (.int (Int32.ofNat i)), .val (.int (cv A (o + i)))] [.int (lo8 (cv A (o + i))), .int (Int32.ofNat (q + i)), .ref d])) := c5.trans (by
        refine XS.iload Xl.here hexec rfl (hb hbytes d15) rfl ?_
        refine sipushV Xl.here hexec rfl 255 (hb hbytes d17) (by decide) ?_
        refine XS.icmpYes Xl.here hexec rfl (pc0 := 20) rfl (hb hbytes d20) rfl (ii_le_t (hp i (by omega))) (by decide) rfl ?_
        refine XS.aloadN Xl.here hexec rfl (hb hbytes d26) rfl rfl ?_
        refine XS.iloadN Xl.here hexec rfl (hb hbytes d27) rfl ?_
        refine XS.iload Xl.here hexec rfl (hb hbytes d28) rfl ?_
        refine i2b Xl.here hexec rfl (hb hbytes d30) rfl ?_
        exact Steps.refl _)
      obtain ⟨T7, X7, p7, st7⟩ := Xl.aput hexec hBk rfl hlt rfl (fits_lo8 (cv A (o + i))) (g := (mkF m 31 #[.val (.ref b), .val (.int (Int32.ofNat (o + i))), .val (.ref d), .val (.int (Int32.ofNat (q + i))), .val (.int (Int32.ofNat len)), .val (.int (Int32.ofNat i)), .val (.int (cv A (o + i)))] [.int (lo8 (cv A (o + i))), .int (Int32.ofNat (q + i)), .ref d])) rfl (rest := []) rfl (hb hbytes d31)
      have c8 : Steps p.tables e below (s₁.setTop (entryFrame m #[.ref b, .int (Int32.ofNat o), .ref d, .int (Int32.ofNat q), .int (Int32.ofNat len)] 7)) (T7.setTop (mkF m 32 #[.val (.ref b), .val (.int (Int32.ofNat (o + i))), .val (.ref d), .val (.int (Int32.ofNat (q + i))), .val (.int (Int32.ofNat len)), .val (.int (Int32.ofNat i)), .val (.int (cv A (o + i)))] [])) := c6.trans (st7 _ (Steps.refl _))
      have c9 : Steps p.tables e below (s₁.setTop (entryFrame m #[.ref b, .int (Int32.ofNat o), .ref d, .int (Int32.ofNat q), .int (Int32.ofNat len)] 7)) (T7.setTop (mkF m 3 #[.val (.ref b), .val (.int (Int32.ofNat (o + i) + 1)), .val (.ref d), .val (.int (Int32.ofNat (q + i) + 1)), .val (.int (Int32.ofNat len)), .val (.int (Int32.ofNat i + 1)), .val (.int (cv A (o + i)))] [])) := c8.trans (by
        refine iincV X7.here hexec rfl 1 (hb hbytes d32) (by decide) rfl rfl ?_
        refine iincV X7.here hexec rfl 1 (hb hbytes d35) (by decide) rfl rfl ?_
        refine iincV X7.here hexec rfl 1 (hb hbytes d38) (by decide) rfl rfl ?_
        refine XS.goto X7.here hexec rfl (pc0 := 41) rfl (hb hbytes d41) (by decide) rfl ?_
        exact Steps.refl _)
      have c10 : Steps p.tables e below (s₁.setTop (entryFrame m #[.ref b, .int (Int32.ofNat o), .ref d, .int (Int32.ofNat q), .int (Int32.ofNat len)] 7)) (T7.setTop (mkF m 3 #[.val (.ref b), .val (.int (Int32.ofNat (o + (i + 1)))), .val (.ref d), .val (.int (Int32.ofNat (q + (i + 1)))), .val (.int (Int32.ofNat len)), .val (.int (Int32.ofNat (i + 1))), .val (.int (cv A (o + i)))] [])) := by
        have := c9
        rw [succ32, succ32, succ32] at this
        exact this
      exact ih (i + 1) (by omega) _ (Or.inr ⟨_, rfl, rfl⟩) T7 _ (by rw [copyLocs_step, ← List.append_assoc]; exact X7) (pl.trans p7) (fl.step (by omega) hlt (by simp)) c10
  obtain ⟨T9, B9, z9, X9, p9, f9, g9⟩ := loop len 0 (by omega) .unset (Or.inl rfl) s₁ B (by simpa [copyLocs] using X0) ⟨hB0.1, fun _ _ => rfl, rfl⟩ (Laid.zero _ _ _) c2
  have c11 : Steps p.tables e below (s₁.setTop (entryFrame m #[.ref b, .int (Int32.ofNat o), .ref d, .int (Int32.ofNat q), .int (Int32.ofNat len)] 7)) (T9.setTop (mkF m 46 #[.val (.ref b), .val (.int (Int32.ofNat (o + len))), .val (.ref d), .val (.int (Int32.ofNat (q + len))), .val (.int (Int32.ofNat len)), .val (.int (Int32.ofNat len)), z9] [.int (Int32.ofNat len)])) := g9.trans (by
    refine XS.iload X9.here hexec rfl (hb hbytes d3) rfl ?_
    refine XS.iload X9.here hexec rfl (hb hbytes d5) rfl ?_
    refine XS.icmpYes X9.here hexec rfl (pc0 := 7) rfl (hb hbytes d7) rfl (ii_ge_t (nlt32 (by omega) (Nat.le_refl _))) (by decide) rfl ?_
    refine XS.iload X9.here hexec rfl (hb hbytes d44) rfl ?_
    exact Steps.refl _)
  exact ⟨T9, some (.int (Int32.ofNat len)), _, _, _, X9, by simp, rfl, rfl, (fun h => by cases h), ⟨rfl, B9, p9.from hh0, f9⟩, fun fs hl => c11.trans (X9.ireturnOut hexec hret rfl (Or.inl rfl) (hb hbytes d46) hl)⟩
end Cmp5
namespace Cmp3
def yN : MethodName := ⟨"java/lang/StringUTF16", "compress", "([CII)[B"⟩
abbrev yB : ByteArray := jdk_52_method_16_code
theorem d0 : decode yB 0 = .ok (.iload_n 2, 1) := by decide +kernel
theorem d1 : decode yB 1 = .ok (.newarray .byte, 2) := by decide +kernel
theorem d3 : decode yB 3 = .ok (.astore_n 3, 1) := by decide +kernel
theorem d4 : decode yB 4 = .ok (.aload_n 0, 1) := by decide +kernel
theorem d5 : decode yB 5 = .ok (.iload_n 1, 1) := by decide +kernel
theorem d6 : decode yB 6 = .ok (.aload_n 3, 1) := by decide +kernel
theorem d7 : decode yB 7 = .ok (.iconst 0, 1) := by decide +kernel
theorem d8 : decode yB 8 = .ok (.iload_n 2, 1) := by decide +kernel
theorem d9 : decode yB 9 = .ok (.invokestatic 115, 3) := by decide +kernel
theorem d12 : decode yB 12 = .ok (.istore 4, 2) := by decide +kernel
theorem d14 : decode yB 14 = .ok (.iload 4, 2) := by decide +kernel
theorem d16 : decode yB 16 = .ok (.iload_n 2, 1) := by decide +kernel
theorem d17 : decode yB 17 = .ok (.if_icmp (.eq) 40, 3) := by decide +kernel
theorem d57 : decode yB 57 = .ok (.aload_n 3, 1) := by decide +kernel
theorem d58 : decode yB 58 = .ok (.areturn, 1) := by decide +kernel
def site : List Cond := [.arrayClass .byte, Cmp5.tab] ++ staticW U16 115 Cmp5.yN
def tab : Cond := tabOf yN yB 6 (some (.array .byte)) site
def P (b : Addr) (A : Cell) (o len : Nat) (args : Array Value) (s : State) : Prop := args = #[.ref b, .int (Int32.ofNat o), .int (Int32.ofNat len)] ∧ Ch b A s ∧ o + len ≤ A.slots.size ∧ len ≤ 536870912 ∧ ∀ i, i < len → ¬ 255 < cv A (o + i)
def E (b : Addr) (A : Cell) (o len : Nat) (r : Option Value) (s u : State) : Prop := NewArr .byte "[B" len (fun j => .int (lo8 (cv A (o + j)))) r s u ∧ u.heap.size = s.heap.size + 1
/-- no char of the range above 255: a new byte[] of their low bytes -/
theorem law (l : Launch) (b : Addr) (A : Cell) (o len : Nat) : Law l yN 3 3 1 18 yB 6 (some (.array .byte)) site (P b A o len) (E b A o len) [] 1 len := by
  refine Law.of_walk (plainFor_of_name (by decide +kernel)) (by decide +kernel) (by decide +kernel) (by decide) (fun _ _ h => by rw [h.1]; rfl) (fun _ U U' hal hh h => ⟨h.1, h.2.1.mv hal hh, h.2.2⟩) (fun r U U' V V' h1 hal h2 h => ⟨NewArr.mv r U U' V V' h1 hal h2 h.1, by rw [h1, h2]; exact h.2⟩) ?_
  intro p e s m args below meth c s₁ X0 hexec hbytes hml hret hlk hnm hown hh0 W hP
  obtain ⟨rfl, hA, l1, l2, hp⟩ := hP
  have a31 := hA.1.2.2.2
  have c1 : Steps p.tables e below (s₁.setTop (entryFrame m #[.ref b, .int (Int32.ofNat o), .int (Int32.ofNat len)] 6)) (s₁.setTop (mkF m 0 #[.val (.ref b), .val (.int (Int32.ofNat o)), .val (.int (Int32.ofNat len)), .unset, .unset, .unset] [])) := entry rfl
  have c2 : Steps p.tables e below (s₁.setTop (entryFrame m #[.ref b, .int (Int32.ofNat o), .int (Int32.ofNat len)] 6)) (s₁.setTop (mkF m 1 #[.val (.ref b), .val (.int (Int32.ofNat o)), .val (.int (Int32.ofNat len)), .unset, .unset, .unset] [.int (Int32.ofNat len)])) := c1.trans (by
    refine XS.iloadN X0.here hexec rfl (hb hbytes d0) rfl ?_
    exact Steps.refl _)
  obtain ⟨T3, B3, X3, ba3, bs3, bv3, bh3, bf3, st3⟩ := X0.anew hexec (atype := .byte) (wk W (.arrayClass .byte)) rfl (by show len * 1 ≤ _; omega) (by omega) (g := (mkF m 1 #[.val (.ref b), .val (.int (Int32.ofNat o)), .val (.int (Int32.ofNat len)), .unset, .unset, .unset] [.int (Int32.ofNat len)])) rfl (hb hbytes d1) (rest := []) rfl (Nat.le_refl _) (by show 0 + len ≤ len; omega)
  rw [hh0] at ba3 st3
  have kp3 : XT.Kept s T3 := (XT.Kept.of_eq hh0).push bh3
  have hA3 := hA.keep X3.warmed.alike (kp3 _ _ hA.1.1)
  have hne : b ≠ s.heap.size := hA.1.ne
  have c4 : Steps p.tables e below (s₁.setTop (entryFrame m #[.ref b, .int (Int32.ofNat o), .int (Int32.ofNat len)] 6)) (T3.setTop (mkF m 3 #[.val (.ref b), .val (.int (Int32.ofNat o)), .val (.int (Int32.ofNat len)), .unset, .unset, .unset] [.ref s.heap.size])) := c2.trans (st3 _ (Steps.refl _))
  have c5 : Steps p.tables e below (s₁.setTop (entryFrame m #[.ref b, .int (Int32.ofNat o), .int (Int32.ofNat len)] 6)) (T3.setTop (mkF m 9 #[.val (.ref b), .val (.int (Int32.ofNat o)), .val (.int (Int32.ofNat len)), .val (.ref s.heap.size), .unset, .unset] [.int (Int32.ofNat len), .int 0, .ref s.heap.size, .int (Int32.ofNat o), .ref b])) := c4.trans (by
    refine XS.astoreN X3.here hexec rfl (hb hbytes d3) rfl rfl rfl ?_
    refine XS.aloadN X3.here hexec rfl (hb hbytes d4) rfl rfl ?_
    refine XS.iloadN X3.here hexec rfl (hb hbytes d5) rfl ?_
    refine XS.aloadN X3.here hexec rfl (hb hbytes d6) rfl rfl ?_
    refine iconstV X3.here hexec rfl 0 (hb hbytes d7) (by decide) ?_
    refine XS.iloadN X3.here hexec rfl (hb hbytes d8) rfl ?_
    exact Steps.refl _)
  obtain ⟨v6, T6, X6, E6, g6⟩ := X3.callS hexec (Cmp5.law l b A s.heap.size B3 o 0 len) hown (wks W (staticW U16 115 Cmp5.yN)) (wk W Cmp5.tab) (W := 0) (Nat.le_of_ble_eq_true rfl) (Nat.le_of_ble_eq_true rfl) (Nat.le_refl _) (by show 0 + len + 0 ≤ len; omega) (g := (mkF m 9 #[.val (.ref b), .val (.int (Int32.ofNat o)), .val (.int (Int32.ofNat len)), .val (.ref s.heap.size), .unset, .unset] [.int (Int32.ofNat len), .int (Int32.ofNat 0), .ref s.heap.size, .int (Int32.ofNat o), .ref b])) rfl (by rw [hml]; rfl) c5 (argsL := [.ref b, .int (Int32.ofNat o), .ref s.heap.size, .int (Int32.ofNat 0), .int (Int32.ofNat len)]) (rest := []) rfl rfl (by show 2 * 0 + 0 ≤ _; decide) (hb hbytes d9) (⟨rfl, hA3, ba3, hne, l1, by rw [bs3]; simp, hp⟩)
  obtain ⟨rfl, B6, p6, f6⟩ := E6
  have c7 : Steps p.tables e below (s₁.setTop (entryFrame m #[.ref b, .int (Int32.ofNat o), .int (Int32.ofNat len)] 6)) (T6.setTop (mkF m 12 #[.val (.ref b), .val (.int (Int32.ofNat o)), .val (.int (Int32.ofNat len)), .val (.ref s.heap.size), .unset, .unset] [.int (Int32.ofNat len)])) := g6
  have c8 : Steps p.tables e below (s₁.setTop (entryFrame m #[.ref b, .int (Int32.ofNat o), .int (Int32.ofNat len)] 6)) (T6.setTop (mkF m 58 #[.val (.ref b), .val (.int (Int32.ofNat o)), .val (.int (Int32.ofNat len)), .val (.ref s.heap.size), .val (.int (Int32.ofNat len)), .unset] [.ref s.heap.size])) := c7.trans (by
    refine XS.istore X6.here hexec rfl (hb hbytes d12) rfl rfl ?_
    refine XS.iload X6.here hexec rfl (hb hbytes d14) rfl ?_
    refine XS.iloadN X6.here hexec rfl (hb hbytes d16) rfl ?_
    refine XS.icmpYes X6.here hexec rfl (pc0 := 17) rfl (hb hbytes d17) rfl (ii_eq_t rfl) (by decide) rfl ?_
    refine XS.aloadN X6.here hexec rfl (hb hbytes d57) rfl rfl ?_
    exact Steps.refl _)
  have X8 := X6.wide (L' := []) (cells' := 1) (slots' := len) (fun x hx hlt => by
    simp only [List.nil_append, copyLocs, List.mem_map, List.mem_range] at hx
    obtain ⟨i, -, rfl⟩ := hx
    exact absurd hlt (Nat.lt_irrefl _)) (Nat.le_refl _) (by omega)
  exact ⟨T6, some (.ref s.heap.size), _, _, _, X8, rfl, rfl, rfl, (fun h => by cases h), ⟨⟨rfl, B6, ba3.like (X3.warmed.alike.symm.trans X6.warmed.alike) p6.1 f6.1 f6.2.1 f6.2.2.1, f6.2.1.trans bv3, by rw [X6.warmed.alike.findClass, f6.1]; exact bf3, by rw [f6.2.2.1, bs3]; simp, fun j hj => by rw [f6.2.2.2 j, if_pos (by omega)]; rfl, kp3.put p6 (Nat.le_refl _)⟩, by rw [p6.2.2, bh3, hh0]; simp⟩, fun fs hl => c8.trans (X8.areturnOut hexec rfl hret rfl (hb hbytes d58) hl)⟩
end Cmp3
namespace CodL
def yN : MethodName := ⟨"java/lang/StringUTF16", "coderFromArrayLen", "([BI)B"⟩
abbrev yB : ByteArray := jdk_52_method_15_code
theorem d0 : decode yB 0 = .ok (.iload_n 1, 1) := by decide +kernel
theorem d1 : decode yB 1 = .ok (.aload_n 0, 1) := by decide +kernel
theorem d2 : decode yB 2 = .ok (.arraylength, 1) := by decide +kernel
theorem d3 : decode yB 3 = .ok (.isub, 1) := by decide +kernel
theorem d4 : decode yB 4 = .ok (.bipush 31, 2) := by decide +kernel
theorem d6 : decode yB 6 = .ok (.iushr, 1) := by decide +kernel
theorem d7 : decode yB 7 = .ok (.i2b, 1) := by decide +kernel
theorem d8 : decode yB 8 = .ok (.ireturn, 1) := by decide +kernel
def site : List Cond := []
def tab : Cond := tabOf yN yB 2 (some .byte) site
def P (d : Addr) (B : Cell) (args : Array Value) (s : State) : Prop := args = #[.ref d, .int (Int32.ofNat B.slots.size)] ∧ Arr .byte d B s
def E (r : Option Value) (s u : State) : Prop := XT.PureE (some (.int 0)) r s u
/-- an array as long as the number of chars: LATIN1 -/
theorem law (l : Launch) (d : Addr) (B : Cell) : Law l yN 2 2 0 0 yB 2 (some .byte) site (P d B) E [] 0 0 := by
  refine Law.of_walk (plainFor_of_name (by decide +kernel)) (by decide +kernel) (by decide +kernel) (by decide) (fun _ _ h => by rw [h.1]; rfl) (fun _ U U' hal hh h => ⟨h.1, h.2.mv hal hh⟩) (fun r U U' V V' h1 hal h2 h => XT.PureE.mv r U U' V V' h1 hal h2 h) ?_
  intro p e s m args below meth c s₁ X0 hexec hbytes hml hret hlk hnm hown hh0 W hP
  obtain ⟨rfl, hB⟩ := hP
  have hB0 := hB.mv X0.warmed.alike hh0
  have c1 : Steps p.tables e below (s₁.setTop (entryFrame m #[.ref d, .int (Int32.ofNat B.slots.size)] 2)) (s₁.setTop (mkF m 0 #[.val (.ref d), .val (.int (Int32.ofNat B.slots.size))] [])) := entry rfl
  have c2 : Steps p.tables e below (s₁.setTop (entryFrame m #[.ref d, .int (Int32.ofNat B.slots.size)] 2)) (s₁.setTop (mkF m 2 #[.val (.ref d), .val (.int (Int32.ofNat B.slots.size))] [.ref d, .int (Int32.ofNat B.slots.size)])) := c1.trans (by
    refine XS.iloadN X0.here hexec rfl (hb hbytes d0) rfl ?_
    refine XS.aloadN X0.here hexec rfl (hb hbytes d1) rfl rfl ?_
    exact Steps.refl _)
  have c3 : Steps p.tables e below (s₁.setTop (entryFrame m #[.ref d, .int (Int32.ofNat B.slots.size)] 2)) (s₁.setTop (mkF m 8 #[.val (.ref d), .val (.int (Int32.ofNat B.slots.size))] [.int (lo8 (ushr (Int32.ofNat B.slots.size - Int32.ofNat B.slots.size) 31))])) := c2.trans (by
    refine X0.alen hexec hB0 rfl rfl (hb hbytes d2) ?_
    refine XS.isub X0.here hexec rfl (hb hbytes d3) rfl ?_
    refine bipushV X0.here hexec rfl 31 (hb hbytes d4) (by decide) ?_
    refine iushr X0.here hexec rfl (hb hbytes d6) rfl ?_
    refine i2b X0.here hexec rfl (hb hbytes d7) rfl ?_
    exact Steps.refl _)
  have e0 : lo8 (ushr (Int32.ofNat B.slots.size - Int32.ofNat B.slots.size) 31) = 0 := by rw [Int32.sub_self]; decide
  rw [e0] at c3
  exact ⟨s₁, some (.int 0), _, _, _, X0, rfl, rfl, rfl, (fun h => by cases h), ⟨rfl, hh0⟩, fun fs hl => c3.trans (X0.ireturnOut hexec hret rfl (Or.inr (Or.inr (Or.inl rfl))) (hb hbytes d8) hl)⟩
end CodL
/-- the String at a is Latin-1 over a new byte[] (the heap's one new cell): the low bytes of the len chars of A from o on; every cell but a is kept -/
def Got (a : Addr) (D : Cell) (fV fC : Field) (A : Cell) (o len : Nat) (r : Option Value) (s u : State) : Prop := r = none ∧ ∃ D' V : Cell, Blank "java/lang/String" a D' u ∧ Same D D' [fV.slot, fC.slot] ∧ D'.slots[fV.slot]? = some (.ref s.heap.size) ∧ D'.slots[fC.slot]? = some (.int 0) ∧ Arr .byte s.heap.size V u ∧ V.vm = .none ∧ u.vm.findClass "[B" = some V.cls ∧ V.slots.size = len ∧ (∀ j, j < len → V.slots[j]? = some (.int (lo8 (cv A (o + j))))) ∧ (∀ (y : Addr) (c : Cell), y ≠ a → s.heap[y]? = some c → u.heap[y]? = some c) ∧ u.heap.size = s.heap.size + 1
theorem Got.mv {a : Addr} {D A : Cell} {fV fC : Field} {o len : Nat} : ∀ r (U U' V V' : State), U'.heap = U.heap → V.vm.Alike V'.vm → V'.heap = V.heap → Got a D fV fC A o len r U V → Got a D fV fC A o len r U' V' :=
  fun r U U' V V' h1 hal h2 ⟨e0, D', X, a1, a2, a3, a4, a5, a6, a7, a8, a9, a10, a11⟩ => ⟨e0, D', X, a1.mv hal h2, a2, by rw [h1]; exact a3, a4, by rw [h1]; exact a5.mv hal h2, a6, by rw [hal.findClass]; exact a7, a8, a9, by rw [h1, h2]; exact a10, by rw [h1, h2]; exact a11⟩
namespace New4
def yN : MethodName := ⟨"java/lang/String", "<init>", "([CIILjava/lang/Void;)V"⟩
abbrev yB : ByteArray := jdk_42_method_149_code
theorem d0 : decode yB 0 = .ok (.aload_n 0, 1) := by decide +kernel
theorem d1 : decode yB 1 = .ok (.invokespecial 1, 3) := by decide +kernel
theorem d4 : decode yB 4 = .ok (.iload_n 3, 1) := by decide +kernel
theorem d5 : decode yB 5 = .ok (.ifCond (.ne) 22, 3) := by decide +kernel
theorem d27 : decode yB 27 = .ok (.getstatic 38, 3) := by decide +kernel
theorem d30 : decode yB 30 = .ok (.ifCond (.eq) 28, 3) := by decide +kernel
theorem d33 : decode yB 33 = .ok (.aload_n 1, 1) := by decide +kernel
theorem d34 : decode yB 34 = .ok (.iload_n 2, 1) := by decide +kernel
theorem d35 : decode yB 35 = .ok (.iload_n 3, 1) := by decide +kernel
theorem d36 : decode yB 36 = .ok (.invokestatic 177, 3) := by decide +kernel
theorem d39 : decode yB 39 = .ok (.astore 5, 2) := by decide +kernel
theorem d41 : decode yB 41 = .ok (.aload_n 0, 1) := by decide +kernel
theorem d42 : decode yB 42 = .ok (.aload 5, 2) := by decide +kernel
theorem d44 : decode yB 44 = .ok (.iload_n 3, 1) := by decide +kernel
theorem d45 : decode yB 45 = .ok (.invokestatic 47, 3) := by decide +kernel
theorem d48 : decode yB 48 = .ok (.putfield 15, 3) := by decide +kernel
theorem d51 : decode yB 51 = .ok (.aload_n 0, 1) := by decide +kernel
theorem d52 : decode yB 52 = .ok (.aload 5, 2) := by decide +kernel
theorem d54 : decode yB 54 = .ok (.putfield 9, 3) := by decide +kernel
theorem d57 : decode yB 57 = .ok (.return_, 1) := by decide +kernel
def site : List Cond := [.fieldLink "java/lang/String" 38 "java/lang/String" "COMPACT_STRINGS" "Z", Cmp3.tab, CodL.tab, .laysFinal "java/lang/String" "java/lang/String" "value" "[B", .fieldLink "java/lang/String" 9 "java/lang/String" "value" "[B", .laysFinal "java/lang/String" "java/lang/String" "coder" "B", .fieldLink "java/lang/String" 15 "java/lang/String" "coder" "B"] ++ objW "java/lang/String" 1 ++ staticW "java/lang/String" 177 Cmp3.yN ++ staticW "java/lang/String" 47 CodL.yN
def tab : Cond := tabOf yN yB 6 none site
def P (a : Addr) (D : Cell) (fV fC : Field) (b : Addr) (A : Cell) (z : Int32) (o len : Nat) (args : Array Value) (s : State) : Prop := args = #[.ref a, .ref b, .int (Int32.ofNat o), .int (Int32.ofNat len), .null] ∧ Blank "java/lang/String" a D s ∧ Found "java/lang/String" "value" "[B" fV s ∧ Found "java/lang/String" "coder" "B" fC s ∧ Ch b A s ∧ StaticIs s "java/lang/String" "COMPACT_STRINGS" "Z" (.int z) ∧ ¬ z = 0 ∧ 0 < len ∧ o + len ≤ A.slots.size ∧ len ≤ 536870912 ∧ ∀ i, i < len → ¬ 255 < cv A (o + i)
def E (a : Addr) (D : Cell) (fV fC : Field) (A : Cell) (o len : Nat) (r : Option Value) (s u : State) : Prop := Got a D fV fC A o len r s u
/-- len > 0, no char of the range above 255: a Latin-1 String of their low bytes -/
theorem law (l : Launch) (a : Addr) (D : Cell) (fV fC : Field) (b : Addr) (A : Cell) (z : Int32) (o len : Nat) : Law l yN 5 4 2 35 yB 6 none site (P a D fV fC b A z o len) (E a D fV fC A o len) [⟨a, fC.slot⟩, ⟨a, fV.slot⟩] 1 len := by
  refine Law.of_walk (plainFor_of_name (by decide +kernel)) (by decide +kernel) (by decide +kernel) (by decide) (fun _ _ h => by rw [h.1]; rfl) (fun _ U U' hal hh h => ⟨h.1, h.2.1.mv hal hh, h.2.2.1.al hal, h.2.2.2.1.al hal, h.2.2.2.2.1.mv hal hh, h.2.2.2.2.2.1.there hal hh, h.2.2.2.2.2.2⟩) (fun r U U' V V' h1 hal h2 h => Got.mv r U U' V V' h1 hal h2 h) ?_
  intro p e s m args below meth c s₁ X0 hexec hbytes hml hret hlk hnm hown hh0 W hP
  obtain ⟨rfl, hB, f1, f2, hA, s1, hz, l0, l1, l2, hp⟩ := hP
  have a31 := hA.1.2.2.2
  have c1 : Steps p.tables e below (s₁.setTop (entryFrame m #[.ref a, .ref b, .int (Int32.ofNat o), .int (Int32.ofNat len), .null] 6)) (s₁.setTop (mkF m 0 #[.val (.ref a), .val (.ref b), .val (.int (Int32.ofNat o)), .val (.int (Int32.ofNat len)), .val .null, .unset] [])) := entry rfl
  have c2 : Steps p.tables e below (s₁.setTop (entryFrame m #[.ref a, .ref b, .int (Int32.ofNat o), .int (Int32.ofNat len), .null] 6)) (s₁.setTop (mkF m 1 #[.val (.ref a), .val (.ref b), .val (.int (Int32.ofNat o)), .val (.int (Int32.ofNat len)), .val .null, .unset] [.ref a])) := c1.trans (by
    refine XS.aloadN X0.here hexec rfl (hb hbytes d0) rfl rfl ?_
    exact Steps.refl _)
  obtain ⟨T3, X3, q3, st3⟩ := X0.oinit hexec hown (wks W (objW "java/lang/String" 1)) (g := (mkF m 1 #[.val (.ref a), .val (.ref b), .val (.int (Int32.ofNat o)), .val (.int (Int32.ofNat len)), .val .null, .unset] [.ref a])) rfl (by rw [hml]; rfl) (rest := []) rfl (hb hbytes d1) (W := 0) (by show 2 * 0 + 0 ≤ _; decide) (Nat.le_of_ble_eq_true rfl) (Nat.le_of_ble_eq_true rfl)
  have hh3 := q3.trans hh0
  have c4 : Steps p.tables e below (s₁.setTop (entryFrame m #[.ref a, .ref b, .int (Int32.ofNat o), .int (Int32.ofNat len), .null] 6)) (T3.setTop (mkF m 27 #[.val (.ref a), .val (.ref b), .val (.int (Int32.ofNat o)), .val (.int (Int32.ofNat len)), .val .null, .unset] [])) := (c2.trans (st3 _ (Steps.refl _))).trans (by
    refine XS.iloadN X3.here hexec rfl (hb hbytes d4) rfl ?_
    refine XS.ifYes X3.here hexec rfl (pc0 := 5) rfl (hb hbytes d5) rfl (i0_ne_t (nz32 (by omega) l0)) (by decide) rfl ?_
    exact Steps.refl _)
  obtain ⟨T5, X5, q5, st5⟩ := X3.sget hexec hown (wk W (.fieldLink "java/lang/String" 38 "java/lang/String" "COMPACT_STRINGS" "Z")) s1 (fun _ _ h => by rw [hh3]; exact h) (g := (mkF m 27 #[.val (.ref a), .val (.ref b), .val (.int (Int32.ofNat o)), .val (.int (Int32.ofNat len)), .val .null, .unset] [])) rfl (hb hbytes d27)
  have hh5 := q5.trans hh3
  have c6 : Steps p.tables e below (s₁.setTop (entryFrame m #[.ref a, .ref b, .int (Int32.ofNat o), .int (Int32.ofNat len), .null] 6)) (T5.setTop (mkF m 30 #[.val (.ref a), .val (.ref b), .val (.int (Int32.ofNat o)), .val (.int (Int32.ofNat len)), .val .null, .unset] [.int z])) := c4.trans (st5 _ (Steps.refl _))
  have c7 : Steps p.tables e below (s₁.setTop (entryFrame m #[.ref a, .ref b, .int (Int32.ofNat o), .int (Int32.ofNat len), .null] 6)) (T5.setTop (mkF m 36 #[.val (.ref a), .val (.ref b), .val (.int (Int32.ofNat o)), .val (.int (Int32.ofNat len)), .val .null, .unset] [.int (Int32.ofNat len), .int (Int32.ofNat o), .ref b])) := c6.trans (by
    refine XS.ifNo X5.here hexec rfl (hb hbytes d30) rfl (i0_eq_f hz) ?_
    refine XS.aloadN X5.here hexec rfl (hb hbytes d33) rfl rfl ?_
    refine XS.iloadN X5.here hexec rfl (hb hbytes d34) rfl ?_
    refine XS.iloadN X5.here hexec rfl (hb hbytes d35) rfl ?_
    exact Steps.refl _)
  obtain ⟨v8, T8, X8, E8, g8⟩ := X5.callS hexec (Cmp3.law l b A o len) hown (wks W (staticW "java/lang/String" 177 Cmp3.yN)) (wk W Cmp3.tab) (W := 0) (Nat.le_of_ble_eq_true rfl) (Nat.le_of_ble_eq_true rfl) (Nat.le_refl _) (by show 0 + len ≤ len; omega) (g := (mkF m 36 #[.val (.ref a), .val (.ref b), .val (.int (Int32.ofNat o)), .val (.int (Int32.ofNat len)), .val .null, .unset] [.int (Int32.ofNat len), .int (Int32.ofNat o), .ref b])) rfl (by rw [hml]; rfl) c7 (argsL := [.ref b, .int (Int32.ofNat o), .int (Int32.ofNat len)]) (rest := []) rfl rfl (by show 2 * 0 + 0 ≤ _; decide) (hb hbytes d36) (⟨rfl, hA.mv X5.warmed.alike hh5, l1, l2, hp⟩)
  obtain ⟨e8, z8⟩ := E8
  obtain ⟨rfl, N, n1, n2, n3, n4, n5, n6⟩ := NewArr.mv _ T5 s _ _ hh5.symm (Vm.Alike.refl _) rfl e8
  rw [hh5] at z8
  have hB1 := hB.keep X8.warmed.alike (n6 _ _ hB.1)
  have hne : s.heap.size ≠ a := (Nat.ne_of_lt (Array.getElem?_eq_some_iff.mp hB.1).1).symm
  have c9 : Steps p.tables e below (s₁.setTop (entryFrame m #[.ref a, .ref b, .int (Int32.ofNat o), .int (Int32.ofNat len), .null] 6)) (T8.setTop (mkF m 39 #[.val (.ref a), .val (.ref b), .val (.int (Int32.ofNat o)), .val (.int (Int32.ofNat len)), .val .null, .unset] [.ref s.heap.size])) := g8
  have c10 : Steps p.tables e below (s₁.setTop (entryFrame m #[.ref a, .ref b, .int (Int32.ofNat o), .int (Int32.ofNat len), .null] 6)) (T8.setTop (mkF m 45 #[.val (.ref a), .val (.ref b), .val (.int (Int32.ofNat o)), .val (.int (Int32.ofNat len)), .val .null, .val (.ref s.heap.size)] [.int (Int32.ofNat N.slots.size), .ref s.heap.size, .ref a])) := by
    have hc : Steps p.tables e below (s₁.setTop (entryFrame m #[.ref a, .ref b, .int (Int32.ofNat o), .int (Int32.ofNat len), .null] 6)) (T8.setTop (mkF m 45 #[.val (.ref a), .val (.ref b), .val (.int (Int32.ofNat o)), .val (.int (Int32.ofNat len)), .val .null, .val (.ref s.heap.size)] [.int (Int32.ofNat len), .ref s.heap.size, .ref a])) := c9.trans (by
      refine XS.astore X8.here hexec rfl (hb hbytes d39) rfl rfl rfl ?_
      refine XS.aloadN X8.here hexec rfl (hb hbytes d41) rfl rfl ?_
      refine XS.aload X8.here hexec rfl (hb hbytes d42) rfl rfl ?_
      refine XS.iloadN X8.here hexec rfl (hb hbytes d44) rfl ?_
      exact Steps.refl _)
    rw [n4]; exact hc
  obtain ⟨v11, T11, X11, E11, g11⟩ := X8.callS hexec (CodL.law l s.heap.size N) hown (wks W (staticW "java/lang/String" 47 CodL.yN)) (wk W CodL.tab) (W := 1) (Nat.le_of_ble_eq_true rfl) (Nat.le_of_ble_eq_true rfl) (Nat.le_refl _) (by show 0 + len + 0 ≤ len; omega) (g := (mkF m 45 #[.val (.ref a), .val (.ref b), .val (.int (Int32.ofNat o)), .val (.int (Int32.ofNat len)), .val .null, .val (.ref s.heap.size)] [.int (Int32.ofNat N.slots.size), .ref s.heap.size, .ref a])) rfl (by rw [hml]; rfl) c10 (argsL := [.ref s.heap.size, .int (Int32.ofNat N.slots.size)]) (rest := [.ref a]) rfl rfl (by show 2 * 0 + (1 + 0) ≤ _; decide) (hb hbytes d45) (⟨rfl, n1⟩)
  obtain ⟨rfl, q11⟩ := E11
  have hB11 := hB1.mv (X8.warmed.alike.symm.trans X11.warmed.alike) q11
  have c12 : Steps p.tables e below (s₁.setTop (entryFrame m #[.ref a, .ref b, .int (Int32.ofNat o), .int (Int32.ofNat len), .null] 6)) (T11.setTop (mkF m 48 #[.val (.ref a), .val (.ref b), .val (.int (Int32.ofNat o)), .val (.int (Int32.ofNat len)), .val .null, .val (.ref s.heap.size)] [.int 0, .ref a])) := g11
  obtain ⟨T13, X13, p13, bl13, sl13, st13⟩ := X11.finit hexec hown (wk W (.fieldLink "java/lang/String" 15 "java/lang/String" "coder" "B")) (Or.inr ⟨_, (wk W (.laysFinal "java/lang/String" "java/lang/String" "coder" "B"))⟩) (Or.inl ⟨rfl, hnm⟩) f2 (Or.inl rfl) hB11 (t := .byte) (by decide +kernel) rfl (g := (mkF m 48 #[.val (.ref a), .val (.ref b), .val (.int (Int32.ofNat o)), .val (.int (Int32.ofNat len)), .val .null, .val (.ref s.heap.size)] [.int 0, .ref a])) rfl (rest := []) rfl (hb hbytes d48)
  have c14 : Steps p.tables e below (s₁.setTop (entryFrame m #[.ref a, .ref b, .int (Int32.ofNat o), .int (Int32.ofNat len), .null] 6)) (T13.setTop (mkF m 54 #[.val (.ref a), .val (.ref b), .val (.int (Int32.ofNat o)), .val (.int (Int32.ofNat len)), .val .null, .val (.ref s.heap.size)] [.ref s.heap.size, .ref a])) := (c12.trans (st13 _ (Steps.refl _))).trans (by
    refine XS.aloadN X13.here hexec rfl (hb hbytes d51) rfl rfl ?_
    refine XS.aload X13.here hexec rfl (hb hbytes d52) rfl rfl ?_
    exact Steps.refl _)
  obtain ⟨T15, X15, p15, bl15, sl15, st15⟩ := X13.finit hexec hown (wk W (.fieldLink "java/lang/String" 9 "java/lang/String" "value" "[B")) (Or.inr ⟨_, (wk W (.laysFinal "java/lang/String" "java/lang/String" "value" "[B"))⟩) (Or.inl ⟨rfl, hnm⟩) f1 (Or.inl rfl) bl13 (t := (.array .byte)) (by decide +kernel) rfl (g := (mkF m 54 #[.val (.ref a), .val (.ref b), .val (.int (Int32.ofNat o)), .val (.int (Int32.ofNat len)), .val .null, .val (.ref s.heap.size)] [.ref s.heap.size, .ref a])) rfl (rest := []) rfl (hb hbytes d54)
  have c16 : Steps p.tables e below (s₁.setTop (entryFrame m #[.ref a, .ref b, .int (Int32.ofNat o), .int (Int32.ofNat len), .null] 6)) (T15.setTop (mkF m 57 #[.val (.ref a), .val (.ref b), .val (.int (Int32.ofNat o)), .val (.int (Int32.ofNat len)), .val .null, .val (.ref s.heap.size)] [])) := c14.trans (st15 _ (Steps.refl _))
  have ap := apart (Or.inr ⟨_, (wk W (.laysFinal "java/lang/String" "java/lang/String" "value" "[B"))⟩) (Or.inr ⟨_, (wk W (.laysFinal "java/lang/String" "java/lang/String" "coder" "B"))⟩) f1 f2 (t₁ := .array .byte) (t₂ := .byte) (by decide +kernel) (by decide +kernel) (by decide)
  have al := X8.warmed.alike.symm.trans X15.warmed.alike
  have n7 : T11.heap[s.heap.size]? = some N := by rw [q11]; exact n1.1
  exact ⟨T15, none, _, _, _, X15, by simp, rfl, by omega, (fun _ => rfl), ⟨rfl, _, N, bl15, ((Same.refl D _).set _ (by simp)).set _ (by simp), sl15, (Cell.slots_setSlot_ne _ ap).trans sl13, n1.keep al (p15.other hne (p13.other hne n7)), n2, by rw [al.findClass]; exact n3, n4, n5, fun y c h1 h2 => p15.other h1 (p13.other h1 (by rw [q11]; exact n6 y c h2)), by rw [p15.2.2, p13.2.2, q11]; exact z8⟩, fun fs hl => c16.trans (X15.returnOut hexec hret (hb hbytes d57) hl)⟩
end New4
namespace New1
def yN : MethodName := ⟨"java/lang/String", "<init>", "([C)V"⟩
abbrev yB : ByteArray := jdk_42_method_3_code
theorem d0 : decode yB 0 = .ok (.aload_n 0, 1) := by decide +kernel
theorem d1 : decode yB 1 = .ok (.aload_n 1, 1) := by decide +kernel
theorem d2 : decode yB 2 = .ok (.iconst 0, 1) := by decide +kernel
theorem d3 : decode yB 3 = .ok (.aload_n 1, 1) := by decide +kernel
theorem d4 : decode yB 4 = .ok (.arraylength, 1) := by decide +kernel
theorem d5 : decode yB 5 = .ok (.aconst_null, 1) := by decide +kernel
theorem d6 : decode yB 6 = .ok (.invokespecial 27, 3) := by decide +kernel
theorem d9 : decode yB 9 = .ok (.return_, 1) := by decide +kernel
def site : List Cond := [New4.tab] ++ initW "java/lang/String" 27 New4.yN
def tab : Cond := tabOf yN yB 2 none site
def P (a : Addr) (D : Cell) (fV fC : Field) (b : Addr) (A : Cell) (z : Int32) (args : Array Value) (s : State) : Prop := args = #[.ref a, .ref b] ∧ Blank "java/lang/String" a D s ∧ Found "java/lang/String" "value" "[B" fV s ∧ Found "java/lang/String" "coder" "B" fC s ∧ Ch b A s ∧ StaticIs s "java/lang/String" "COMPACT_STRINGS" "Z" (.int z) ∧ ¬ z = 0 ∧ 0 < A.slots.size ∧ A.slots.size ≤ 536870912 ∧ ∀ i, i < A.slots.size → ¬ 255 < cv A i
def E (a : Addr) (D : Cell) (fV fC : Field) (A : Cell) (r : Option Value) (s u : State) : Prop := Got a D fV fC A 0 A.slots.size r s u
/-- new String(chars), not empty, no char above 255: a Latin-1 String of their low bytes -/
theorem law (l : Launch) (a : Addr) (D : Cell) (fV fC : Field) (b : Addr) (A : Cell) (z : Int32) : Law l yN 2 1 3 52 yB 2 none site (P a D fV fC b A z) (E a D fV fC A) [⟨a, fC.slot⟩, ⟨a, fV.slot⟩] 1 A.slots.size := by
  refine Law.of_walk (plainFor_of_name (by decide +kernel)) (by decide +kernel) (by decide +kernel) (by decide) (fun _ _ h => by rw [h.1]; rfl) (fun _ U U' hal hh h => ⟨h.1, h.2.1.mv hal hh, h.2.2.1.al hal, h.2.2.2.1.al hal, h.2.2.2.2.1.mv hal hh, h.2.2.2.2.2.1.there hal hh, h.2.2.2.2.2.2⟩) (fun r U U' V V' h1 hal h2 h => Got.mv r U U' V V' h1 hal h2 h) ?_
  intro p e s m args below meth c s₁ X0 hexec hbytes hml hret hlk hnm hown hh0 W hP
  obtain ⟨rfl, hB, f1, f2, hA, s1, hz, l0, l2, hp⟩ := hP
  have c1 : Steps p.tables e below (s₁.setTop (entryFrame m #[.ref a, .ref b] 2)) (s₁.setTop (mkF m 0 #[.val (.ref a), .val (.ref b)] [])) := entry rfl
  have c2 : Steps p.tables e below (s₁.setTop (entryFrame m #[.ref a, .ref b] 2)) (s₁.setTop (mkF m 6 #[.val (.ref a), .val (.ref b)] [.null, .int (Int32.ofNat A.slots.size), .int 0, .ref b, .ref a])) := c1.trans (by
    refine XS.aloadN X0.here hexec rfl (hb hbytes d0) rfl rfl ?_
    refine XS.aloadN X0.here hexec rfl (hb hbytes d1) rfl rfl ?_
    refine iconstV X0.here hexec rfl 0 (hb hbytes d2) (by decide) ?_
    refine XS.aloadN X0.here hexec rfl (hb hbytes d3) rfl rfl ?_
    refine X0.alen hexec (hA.1.mv X0.warmed.alike hh0) rfl rfl (hb hbytes d4) ?_
    refine XS.aconstNull X0.here hexec rfl (hb hbytes d5) ?_
    exact Steps.refl _)
  obtain ⟨v3, T3, X3, E3, g3⟩ := X0.callN hexec (New4.law l a D fV fC b A z 0 A.slots.size) rfl hown (wks W (initW "java/lang/String" 27 New4.yN)) (W New4.tab (by simp only [site, List.mem_cons, List.mem_append, true_or, or_true])) (W := 0) (Nat.le_of_ble_eq_true rfl) (Nat.le_of_ble_eq_true rfl) (Nat.le_refl _) (by show 0 + A.slots.size ≤ A.slots.size; omega) (g := (mkF m 6 #[.val (.ref a), .val (.ref b)] [.null, .int (Int32.ofNat A.slots.size), .int (Int32.ofNat 0), .ref b, .ref a])) rfl (by rw [hml]; rfl) c2 (argsL := [.ref b, .int (Int32.ofNat 0), .int (Int32.ofNat A.slots.size), .null]) (rest := []) rfl rfl (by show 2 * 0 + 0 ≤ _; decide) (hb hbytes d6) (⟨rfl, hB.mv X0.warmed.alike hh0, f1.al X0.warmed.alike, f2.al X0.warmed.alike, hA.mv X0.warmed.alike hh0, s1.there X0.warmed.alike hh0, hz, l0, by omega, l2, fun i hi => by rw [Nat.zero_add]; exact hp i hi⟩)
  have e0 := Got.mv _ s₁ s _ _ hh0.symm (Vm.Alike.refl _) rfl E3
  obtain rfl := e0.1
  have c4 : Steps p.tables e below (s₁.setTop (entryFrame m #[.ref a, .ref b] 2)) (T3.setTop (mkF m 9 #[.val (.ref a), .val (.ref b)] [])) := g3
  exact ⟨T3, none, _, _, _, X3, by simp, rfl, by omega, (fun _ => rfl), e0, fun fs hl => c4.trans (X3.returnOut hexec hret (hb hbytes d9) hl)⟩
theorem pays {l : Launch} {R : Room} {p : Program} {e : Env} {below : List Frame} {s : State} {sargs : Array Value} {len W : Nat} (a : Addr) (D : Cell) (fV fC : Field) (b : Addr) (A : Cell) (z : Int32) (htab : tab.before sargs s = true) (hfr : 4 ≤ R.frames) (hlo : W + 65 ≤ R.locals) :
    Back l R p e below s sargs yN len W (fun A₁ a₁ => A₁.cells + 1 ≤ R.cells ∧ A₁.slots + A.slots.size ≤ R.slots ∧ P a D fV fC b A z a₁ A₁.U) (fun A₁ _ v₁ B₁ => E a D fV fC A v₁ A₁.U B₁.U ∧ B₁.locs = A₁.locs ++ [⟨a, fC.slot⟩, ⟨a, fV.slot⟩] ∧ B₁.cells = A₁.cells + 1 ∧ B₁.slots = A₁.slots + A.slots.size) :=
  (law l a D fV fC b A z).pays htab hfr (by omega)
end New1
end StrChars
namespace StrChars.Road
open Jvm Sem ClassFile Op Lib Jvm.Stand Jvm.Free Jvm.Free.XT
open Jvm.Lib.Cold (StaticIs)
abbrev ST : String := "java/lang/String"
/-- every table word that New1's law asks, flat -/
abbrev words : List Jvm.Cond := [.code New1.yN New1.yB 2 none, .initialized ST, .methodLink ST 27 New4.yN, .instanceMethod New4.yN,
  .code New4.yN New4.yB 6 none, .fieldLink ST 38 ST "COMPACT_STRINGS" "Z", .laysFinal ST ST "value" "[B", .fieldLink ST 9 ST "value" "[B", .laysFinal ST ST "coder" "B", .fieldLink ST 15 ST "coder" "B",
  .methodLink ST 1 Lib.objectInit, .instanceMethod Lib.objectInit, .code Lib.objectInit ⟨#[0xb1]⟩ 1 none, .methodLink ST 177 Cmp3.yN, .static Cmp3.yN, .methodLink ST 47 CodL.yN, .static CodL.yN,
  .code Cmp3.yN Cmp3.yB 6 (some (.array .byte)), .initialized U16, .arrayClass .byte, .methodLink U16 115 Cmp5.yN, .static Cmp5.yN, .code Cmp5.yN Cmp5.yB 7 (some .int), .code CodL.yN CodL.yB 2 (some .byte)]
theorem tab_of {a : Array Value} {s : State} (h : ∀ w ∈ words, w.before a s = true) : New1.tab.before a s = true := by
  have h5 : Cmp5.tab.before a s = true := unparts (wk h (.code Cmp5.yN Cmp5.yB 7 (some .int))) (wks h (.initialized Cmp5.yN.cls :: Cmp5.site))
  have hc : CodL.tab.before a s = true := unparts (wk h (.code CodL.yN CodL.yB 2 (some .byte))) (wks h (.initialized CodL.yN.cls :: CodL.site))
  have q5 : ∀ w ∈ Cmp5.tab :: words, w.before a s = true := fun w hw => (List.mem_cons.mp hw).elim (fun e => e ▸ h5) (h w)
  have h3 : Cmp3.tab.before a s = true := unparts (wk q5 (.code Cmp3.yN Cmp3.yB 6 (some (.array .byte)))) (wks q5 (.initialized Cmp3.yN.cls :: Cmp3.site))
  have q3 : ∀ w ∈ Cmp3.tab :: CodL.tab :: words, w.before a s = true := fun w hw => (List.mem_cons.mp hw).elim (fun e => e ▸ h3) fun hw => (List.mem_cons.mp hw).elim (fun e => e ▸ hc) (h w)
  have h4 : New4.tab.before a s = true := unparts (wk q3 (.code New4.yN New4.yB 6 none)) (wks q3 (.initialized New4.yN.cls :: New4.site))
  have q4 : ∀ w ∈ New4.tab :: words, w.before a s = true := fun w hw => (List.mem_cons.mp hw).elim (fun e => e ▸ h4) (h w)
  exact unparts (wk q4 (.code New1.yN New1.yB 2 none)) (wks q4 (.initialized New1.yN.cls :: New1.site))
/-- the words ride from the start Z to the walk's own state -/
theorem moved {Z s : State} {a0 args : Array Value} (hZ : Z.Warmed39 s.vm) (hw : ∀ d ∈ words, d.before a0 Z = true) : ∀ d ∈ words, d.before args s = true := fun d hd => by
  have q := hw d hd
  have t : ∀ d ∈ words, d = .arrayClass .byte ∨ (d.onTables && d.keepsFace) = true := by decide +kernel
  rcases t d hd with rfl | t
  · exact RoadKit.mvA hZ q
  · exact RoadKit.mv hZ q t
/-- WHAT COMES BACK, over the tables of the start Z: h the heap at the call, h' behind it -/
def Q (Z : State) (x : Addr) (A : Cell) (h : Heap) (v : Option Value) (h' : Heap) (L : List Loc) : Prop := v = none ∧ (∀ y ∈ L, y.base = x) ∧ RoadKit.Keep h h' [x] ∧ h'.size = h.size + 1 ∧ RoadKit.Exa Z h' x ST ∧ RoadKit.Fld Z h' x ST "value" "[B" (.ref h.size) ∧ RoadKit.Fld Z h' x ST "coder" "B" (.int 0) ∧
  (∃ V : Cell, RoadKit.Arr Z h' h.size V .byte ∧ V.vm = .none ∧ Z.vm.findClass "[B" = some V.cls ∧ V.slots.size = A.slots.size ∧ ∀ j, j < A.slots.size → V.slots[j]? = some (.int (lo8 (cv A j)))) ∧
  ∀ (O n d : String) (w : Value), RoadKit.Fld Z h x O n d w → RoadKit.slotOf Z O n d ≠ RoadKit.slotOf Z ST "value" "[B" → RoadKit.slotOf Z O n d ≠ RoadKit.slotOf Z ST "coder" "B" → RoadKit.Fld Z h' x O n d w
/-- **new String(chars) AT A CALL, IN THE ROAD'S FORM**: for specialBack behind newO: x the fresh String, b the char[] with the cell A -/
theorem back {p : Program} {l : Launch} {e : Env} {R : Room} {s : State} {args : Array Value} {below : List Frame} {len W : Nat} {Z : State} {a0 : Array Value} {h : Heap} (hZ : Z.Warmed39 s.vm) (hw : ∀ d ∈ words, d.before a0 Z = true) {kI : Nat} (wi : (Jvm.Cond.instantiable ST kI).before a0 Z = true)
    {x b : Addr} {A : Cell} {z : Int32} {v0 c0 : Value} (E : RoadKit.Exa Z h x ST) (V : RoadKit.Fld Z h x ST "value" "[B" v0) (C : RoadKit.Fld Z h x ST "coder" "B" c0) (K : RoadKit.Arr Z h b A .char) (hty : Typed .char A) (S : RoadKit.Sta Z h ST "COMPACT_STRINGS" "Z" (.int z)) (hz : ¬ z = 0)
    (l0 : 0 < A.slots.size) (l2 : A.slots.size ≤ 536870912) (hp : ∀ i, i < A.slots.size → ¬ 255 < cv A i) (hfr : 4 ≤ R.frames) (hlo : W + 65 ≤ R.locals) :
    Back l R p e below s args New1.yN len W (fun P a => a = #[.ref x, .ref b] ∧ P.U.heap = h ∧ P.cells + 1 ≤ R.cells ∧ P.slots + A.slots.size ≤ R.slots)
      (fun P _ v B => ∃ L, Q Z x A h v B.U.heap L ∧ B.locs = P.locs ++ L ∧ B.cells = P.cells + 1 ∧ B.slots = P.slots + A.slots.size) := by
  intro m meth c P g ig mk a X hg hsize hdg hW hn hp'
  obtain ⟨rfl, rfl, r1, r2⟩ := hp'
  have al : Z.vm.Alike P.U.vm := hZ.alike.trans X.warmed.alike
  obtain ⟨D, cfV, kV, iV, fV, hD, gV, stV, knV, obV, asV, slV⟩ := id V
  obtain ⟨D', cfC, kC, iC, fC, hD', gC, stC, -, -, asC, slC⟩ := id C
  cases hD.symm.trans hD'
  obtain ⟨D2, kD, e1, e2, e3, e4, e5⟩ := id E
  cases hD.symm.trans e1
  obtain ⟨c2, k2, i1, i2, i3, -⟩ := Cond.instantiable_spec wi
  cases e2.symm.trans i1
  cases e3.symm.trans i2
  obtain ⟨kU, u1, u2⟩ := al.2.2 _ _ e3
  have hB : Blank ST x D P.U := ⟨hD, ⟨knV, fun q hq => by rw [hq] at obV; cases obV⟩, by rw [al.findClass]; exact e2, kU, u1, by rw [u2]; exact i3, by rw [u2]; exact e5 i3⟩
  have F1 : Found ST "value" "[B" fV P.U := ⟨SBG.found_only al ⟨cfV, kV, iV, gV⟩, stV⟩
  have F2 : Found ST "coder" "B" fC P.U := ⟨SBG.found_only al ⟨cfC, kC, iC, gC⟩, stC⟩
  have hA : Ch b A P.U := ⟨⟨K.1, State.isArrayOf_alike al K.2.1, K.2.2, by omega⟩, hty⟩
  have hS : StaticIs P.U ST "COMPACT_STRINGS" "Z" (.int z) := by
    obtain ⟨cfS, iS, kS, fS, st, cS, t1, t2, t3, t4, t5, t6, t7⟩ := S
    exact StaticIs.there (s := { Z with heap := P.U.heap }) ⟨cfS, iS, kS, fS, st, cS, t1, t2, t3, t4, t5, (fun q => by rw [q] at t6; cases t6), t7⟩ al rfl
  obtain ⟨v, B, X', ⟨⟨hv, E', V', q1, q2, q3, q4, q5, q6, q7, q8, q9, q10, q11⟩, hl, hc, hs⟩, st⟩ := New1.pays x D fV fC b A z (tab_of (moved hZ hw)) hfr hlo m meth c P g ig mk _ X hg hsize hdg hW hn ⟨r1, r2, rfl, hB, F1, F2, hA, hS, hz, l0, l2, hp⟩
  have al' : Z.vm.Alike B.U.vm := hZ.alike.trans X'.warmed.alike
  have hsz : E'.slots.size = D.slots.size := by
    obtain ⟨-, -, -, kB, w1, w2, w3⟩ := q1
    obtain ⟨kB', y1, y2⟩ := al'.2.2 _ _ e3
    rw [q2.2.1] at w1
    cases w1.symm.trans y1
    rw [w3, e5 i3, y2]
  refine ⟨v, B, X', ⟨_, ⟨hv, ?_, ⟨by omega, fun y cy hy hn' => q10 y cy (by simpa using hn') hy, fun y cy hy => ?_⟩, q11, ⟨E', _, q1.1, by rw [q2.2.1]; exact e2, by rw [q2.2.1]; exact e3, by rw [q2.1]; exact obV, fun _ => by rw [hsz]; exact e5 i3⟩,
    ⟨E', cfV, kV, iV, fV, q1.1, gV, stV, by rw [q2.1]; exact knV, by rw [q2.1]; exact obV, by rw [q2.2.1]; exact asV, q3⟩, ⟨E', cfC, kC, iC, fC, q1.1, gC, stC, by rw [q2.1]; exact knV, by rw [q2.1]; exact obV, by rw [q2.2.1]; exact asC, q4⟩,
    ⟨V', ⟨q5.1, State.isArrayOf_alike al'.symm q5.2.1, q5.2.2.1⟩, q6, by rw [← al'.findClass]; exact q7, q8, fun j hj => by have := q9 j hj; rwa [Nat.zero_add] at this⟩, fun O n d w F n1 n2 => ?_⟩, hl, hc, hs⟩, st⟩
  · intro y hy
    simp only [List.mem_cons, List.not_mem_nil, or_false] at hy
    rcases hy with rfl | rfl <;> rfl
  · by_cases q : y = x
    · subst q
      cases hD.symm.trans hy
      exact ⟨E', q1.1, q2.2.1, q2.1, hsz⟩
    · exact ⟨cy, q10 y cy q hy, rfl, rfl, rfl⟩
  · obtain ⟨D3, cf, k, i, f, g1, g2, g3, g4, g5, g6, g7⟩ := F
    cases hD.symm.trans g1
    simp only [RoadKit.slotOf, g2, gV, gC, Option.map_some, Option.getD_some] at n1 n2
    exact ⟨E', cf, k, i, f, q1.1, g2, g3, by rw [q2.1]; exact g4, by rw [q2.1]; exact g5, by rw [q2.2.1]; exact g6, by rw [q2.2.2 f.slot (by simp [n1, n2])]; exact g7⟩
end StrChars.Road
namespace StrChars.Road
open Jvm Sem ClassFile Op Lib Jvm.Stand Jvm.Free Jvm.Free.XT
/-- WHAT COMES BACK, the byte[] as a list of values -/
def QA (Z : State) (x : Addr) (zn : Int32) (cs : List Int32) (h : Heap) (v : Option Value) (h' : Heap) (L : List Loc) : Prop := v = none ∧ (∀ y ∈ L, y.base = x) ∧ RoadKit.Keep h h' [x] ∧ h'.size = h.size + 1 ∧ RoadKit.Exa Z h' x ST ∧ RoadKit.Fld Z h' x ST "value" "[B" (.ref h.size) ∧ RoadKit.Fld Z h' x ST "coder" "B" (.int 0) ∧
  (∃ kb, Z.vm.findClass "[B" = some kb ∧ RoadKit.Arv Z h' h.size kb .byte zn (cs.map fun c => .int (lo8 c)) (.int 0)) ∧
  ∀ (O n d : String) (w : Value), RoadKit.Fld Z h x O n d w → RoadKit.slotOf Z O n d ≠ RoadKit.slotOf Z ST "value" "[B" → RoadKit.slotOf Z O n d ≠ RoadKit.slotOf Z ST "coder" "B" → RoadKit.Fld Z h' x O n d w
/-- **new String(chars) AT A CALL, THE ARRAYS AS LISTS**: the char[] at b holds cs, not empty, no char above 255 -/
theorem backArv {p : Program} {l : Launch} {e : Env} {R : Room} {s : State} {args : Array Value} {below : List Frame} {len W : Nat} {Z : State} {a0 : Array Value} {h : Heap} (hZ : Z.Warmed39 s.vm) (hw : ∀ d ∈ words, d.before a0 Z = true) {kI : Nat} (wi : (Jvm.Cond.instantiable ST kI).before a0 Z = true)
    {x b : Addr} {k : ClassId} {zn z : Int32} {cs : List Int32} {dv v0 c0 : Value} (E : RoadKit.Exa Z h x ST) (V : RoadKit.Fld Z h x ST "value" "[B" v0) (C : RoadKit.Fld Z h x ST "coder" "B" c0) (K : RoadKit.Arv Z h b k .char zn (cs.map Value.int) dv) (S : RoadKit.Sta Z h ST "COMPACT_STRINGS" "Z" (.int z)) (hz : ¬ z = 0)
    (hlen : zn.toNatClampNeg = cs.length) (h0 : 0 < cs.length) (hbig : cs.length ≤ 536870912) (hall : ∀ c ∈ cs, ¬ 255 < c) (hfr : 4 ≤ R.frames) (hlo : W + 65 ≤ R.locals) :
    Back l R p e below s args New1.yN len W (fun P a => a = #[.ref x, .ref b] ∧ P.U.heap = h ∧ P.cells + 1 ≤ R.cells ∧ P.slots + cs.length ≤ R.slots)
      (fun P _ v B => ∃ L, QA Z x zn cs h v B.U.heap L ∧ B.locs = P.locs ++ L ∧ B.cells = P.cells + 1 ∧ B.slots = P.slots + cs.length) := by
  obtain ⟨A, K1, K2, K3, K4, K5, K6⟩ := K
  have e : A.slots.size = cs.length := K3.trans hlen
  have hat : ∀ (i : Nat) (hi : i < cs.length), A.slots[i]? = some (.int cs[i]) := fun i hi => by rw [K5 i (by omega)]; simp [List.getD_eq_getElem?_getD, hi]
  have hcv : ∀ (i : Nat) (hi : i < cs.length), cv A i = cs[i] := fun i hi => by unfold cv; rw [hat i hi]
  have hty : Typed .char A := fun i v hv => by
    have hi : i < A.slots.size := (Array.getElem?_eq_some_iff.mp hv).1
    have q := K5 i hi
    rw [hv] at q
    rw [Option.some.inj q]
    exact K6 i hi
  refine Back.mono (back hZ hw wi E V C K1 hty S hz (by omega) (by omega) (fun i hi => by rw [hcv i (by omega)]; exact hall _ (List.getElem_mem _)) hfr hlo) (fun P a hp => ⟨hp.1, hp.2.1, hp.2.2.1, by rw [e]; exact hp.2.2.2⟩) (fun P a v B hp hq => ?_)
  obtain ⟨L, ⟨q1, q2, q3, q4, q5, q6, q7, ⟨V', v1, v2, v3, v4, v5⟩, q9⟩, hl, hc, hs⟩ := hq
  refine ⟨L, ⟨q1, q2, q3, q4, q5, q6, q7, ⟨V'.cls, v3, V', v1, rfl, by rw [v4, e, hlen], K4, fun i hi => ?_, fun i hi => ?_⟩, q9⟩, hl, hc, by rw [hs, e]⟩
  · have hi' : i < cs.length := by omega
    rw [v5 i (by omega), hcv i hi']; simp [List.getD_eq_getElem?_getD, hi']
  · have hi' : i < cs.length := by omega
    simp only [List.getD_eq_getElem?_getD, List.getElem?_map, List.getElem?_eq_getElem hi', Option.map_some, Option.getD_some]
    exact fits_lo8 _
end StrChars.Road
namespace StrChars.Road
open Jvm Sem ClassFile Op Lib Jvm.Stand Jvm.Free Jvm.Free.XT
/-- WHAT COMES BACK, in the writer's own shape -/
def QV (Z : State) (x : Addr) (N : Int32) (bs : List Int32) (h : Heap) (n0 : Nat) (v : Option Value) (h' : Heap) (L : List Loc) : Prop := v = none ∧ RoadKit.Fr n0 L ∧ RoadKit.Keep h h' [x] ∧ RoadKit.Exa Z h' x ST ∧ RoadKit.Fld Z h' x ST "coder" "B" (.int 0) ∧
  ∃ (t : Addr) (kb : ClassId), n0 ≤ t ∧ h.size ≤ t ∧ ¬ t = x ∧ RoadKit.Fld Z h' x ST "value" "[B" (.ref t) ∧ RoadKit.Arv Z h' t kb .byte N (bs.map Value.int) (.int 0)
/-- **new String(chars) AT A CALL, FOR THE WRITER**: a char[] of n known ints, each 0 to 255 -/
theorem backV {p : Program} {l : Launch} {e : Env} {R : Room} {s : State} {args : Array Value} {below : List Frame} {len W : Nat} {Z : State} {a0 : Array Value} {h : Heap} (hZ : Z.Warmed39 s.vm) (hw : ∀ d ∈ words, d.before a0 Z = true) {kI : Nat} (wi : (Jvm.Cond.instantiable ST kI).before a0 Z = true)
    {x b : Addr} {kC : ClassId} {cs bs : List Int32} {d v0 c0 : Value} {z N : Int32} {n n0 : Nat} (hx0 : n0 ≤ x) (hh0 : n0 ≤ h.size) (E : RoadKit.Exa Z h x ST) (V : RoadKit.Fld Z h x ST "value" "[B" v0) (C : RoadKit.Fld Z h x ST "coder" "B" c0) (K : RoadKit.Arv Z h b kC .char N (cs.map Value.int) d) (S : RoadKit.Sta Z h ST "COMPACT_STRINGS" "Z" (.int z)) (hz : ¬ z = 0)
    (hn : cs.length = n) (hN : N = Int32.ofNat n) (l0 : 0 < n) (l2 : n ≤ 4000) (hp : ∀ c ∈ cs, ¬ c < 0 ∧ ¬ (255 : Int32) < c) (hb : bs = cs.map (fun c => c.toInt8.toInt32)) (hfr : 4 ≤ R.frames) (hlo : W + 65 ≤ R.locals) :
    Back l R p e below s args (⟨"java/lang/String", "<init>", "([C)V"⟩ : MethodName) len W (fun P a => a = #[.ref x, .ref b] ∧ P.U.heap = h ∧ P.cells + 1 ≤ R.cells ∧ P.slots + n ≤ R.slots)
      (fun P _ v B => ∃ L, QV Z x N bs h n0 v B.U.heap L ∧ B.locs = P.locs ++ L ∧ B.cells = P.cells + 1 ∧ B.slots = P.slots + n) := by
  subst hn hN hb
  refine Back.mono (backArv hZ hw wi E V C K S hz (n32 (by omega)) l0 (by omega) (fun c hc => (hp c hc).2) hfr hlo) (fun P a hp => hp) (fun P a v B hp hq => ?_)
  obtain ⟨L, ⟨q1, q2, q3, q4, q5, q6, q7, ⟨kb, v1, v2⟩, q9⟩, hl, hc, hs⟩ := hq
  exact ⟨L, ⟨q1, fun y hy => by rw [q2 y hy]; exact hx0, q3, q5, q7, h.size, kb, hh0, Nat.le_refl _, Nat.ne_of_gt E.lt, q6, by rw [List.map_map]; exact v2⟩, hl, hc, hs⟩
end StrChars.Road
end Jvm.Pilot.@@N@@
namespace Jvm.Pilot.@@N@@
open Jvm Jvm.ClassFile Sem Op Lib Jvm.Free Jvm.Stand Jvm.LawKit Jvm.RoadKit Bundle Jvm.Pilot.@@N@@.Jvm.D
def own_Txt (Z : State) (h : Heap) (x : Addr) (cs : List Int32) : Prop := ∃ (t : Addr) (kb : ClassId), Exa Z h x "java/lang/String" ∧ Fld Z h x "java/lang/String" "value" "[B" (.ref t) ∧ Fld Z h x "java/lang/String" "coder" "B" (.int 0) ∧ Arv Z h t kb .byte (Int32.ofNat cs.length) ((cs.map StrChars.lo8).map Value.int) (.int 0) ∧ (∀ c ∈ cs, ¬ c < 0 ∧ ¬ (255 : Int32) < c) ∧ cs.length ≤ 4000
theorem own_Txt.ext {Z : State} {h h' : Heap} {x : Addr} {cs : List Int32} (F : own_Txt Z h x cs) (E : Ext h h') : own_Txt Z h' x cs := by
  obtain ⟨t, kb, f1, f2, f3, f4, f5, f6⟩ := F
  exact ⟨t, kb, f1.ext E, f2.ext E, f3.ext E, f4.ext E, f5, f6⟩
theorem own_Txt.exa {Z : State} {h : Heap} {x : Addr} {cs : List Int32} (F : own_Txt Z h x cs) : Exa Z h x "java/lang/String" := by obtain ⟨t, kb, f1, -⟩ := F; exact f1
theorem own_Txt.lt {Z : State} {h : Heap} {x : Addr} {cs : List Int32} (F : own_Txt Z h x cs) : x < h.size := F.exa.lt
theorem own_up (cs : List Int32) (h : ∀ c ∈ cs, ¬ c < 0 ∧ ¬ (255 : Int32) < c) : ∀ c ∈ cs, ¬ c < 0 ∧ ¬ (65535 : Int32) < c := fun c hc => ⟨(h c hc).1, fun q => (h c hc).2 (by rw [Int32.lt_iff_toInt_lt] at q ⊢; exact Int.lt_trans (by decide) q)⟩
theorem own_w_backV {a0 : Array Value} {Z : State} (hw : ∀ d ∈ tables_1, d.before a0 Z = true) : ∀ d ∈ StrChars.Road.words, d.before a0 Z = true := fun d hd => hw d ((by decide +kernel : ∀ d ∈ StrChars.Road.words, d ∈ tables_1) d hd)
theorem own_newS {p : Program} {l : Launch} {e : Env} {R : Room} {s : State} {m : MethodId} {args : Array Value} {below : List Frame} {meth : Method} {c : Code} {T : State} {locs : List Loc} {cells slots : Nat} {pc : Nat} {Ls : Array Slot} {Z : State} {a0 : Array Value} {h : Heap} (X : Stand p l e R s m args below meth c T locs cells slots) (hx : p.tables.exec = Jvm.exec) (hZ : Z.Warmed39 s.vm) (eT : T.heap = h) (hw : ∀ d ∈ tables_1, d.before a0 Z = true) (wi : (Jvm.Cond.instantiable "java/lang/String" 4).before a0 Z = true) {own : String} {index : Nat} (hown : s.vm.findClass own = some m.cls) {x b : Addr} {cs : List Int32} {v0 c0 : Value} {n0 n : Nat} (hn : cs.length = n) (hx0 : n0 ≤ x) (hh0 : n0 ≤ h.size) (E : Exa Z h x "java/lang/String") (V : Fld Z h x "java/lang/String" "value" "[B" v0) (Cd : Fld Z h x "java/lang/String" "coder" "B" c0) (K : Own.CA Z h b .char cs) {z : Int32} (SC : Sta Z h "java/lang/String" "COMPACT_STRINGS" "Z" (.int z)) (hz : ¬ z = 0)
    (l0 : 0 < n) (l2 : n ≤ 4000) (hp : ∀ c ∈ cs, ¬ c < 0 ∧ ¬ (255 : Int32) < c) {bytes : ByteArray} {maxL : Nat} (w1 : (Jvm.Cond.methodLink own index (⟨"java/lang/String", "<init>", "([C)V"⟩ : MethodName)).before a0 Z = true) (w2 : (Jvm.Cond.instanceMethod (⟨"java/lang/String", "<init>", "([C)V"⟩ : MethodName)).before a0 Z = true) (w4 : (Jvm.Cond.code (⟨"java/lang/String", "<init>", "([C)V"⟩ : MethodName) bytes maxL none).before a0 Z = true)
    (rest : List Value) (W : Nat) (hfr : 4 ≤ R.frames) (hlo : W + 65 ≤ R.locals) (hcR : cells + 1 ≤ R.cells) (hsR : slots + n ≤ R.slots) (hsz : Ls.size = c.maxLocals) (hlen : ∀ sig, parseMethodDescriptor "([C)V" = some sig → ([.ref b] : List Value).length = sig.parameters.length) (hW : (rest.map fun v => v.category).sum ≤ W) (hd : decode c.code pc = .ok (.invokespecial index, 3)) :
    ∃ (T' : State) (h' : Heap) (L M : List Loc), Stand p l e R s m args below meth c T' M (cells + 1) (slots + n) ∧ T'.heap = h' ∧ (∀ n0, Fr n0 locs → Fr n0 L → Fr n0 M) ∧ Fr n0 L ∧ Keep h h' [x] ∧ own_Txt Z h' x cs ∧ ∀ t, Steps p.tables e below (T'.setTop (mkF m (pc + 3) Ls rest)) t → Steps p.tables e below (T.setTop (mkF m pc Ls (.ref b :: .ref x :: rest))) t := by
  obtain ⟨kC, K, hK⟩ := K
  obtain ⟨T', h', v, L, M, X', e', hM, ⟨rfl, q1, q2, q3, q4, t, kb, -, -, -, q5, q6⟩, st⟩ := Own.callIB (y := (⟨"java/lang/String", "<init>", "([C)V"⟩ : MethodName)) X hx hZ eT rfl x [.ref b] rest W (StrChars.Road.backV (W := W) hZ (own_w_backV hw) (kI := 4) wi (cs := cs) (bs := cs.map (fun c => c.toInt8.toInt32)) (n := n) (N := Int32.ofNat cs.length) hx0 hh0 E V Cd K SC hz hn (by rw [hn]) l0 l2 hp rfl hfr hlo) hown w1 w2 w4 (by decide) hcR hsR hsz hlen rfl hW hd
  exact ⟨T', h', L, M, X', e', hM, q1, q2, ⟨t, kb, q3, q5, q4, q6, hp, by omega⟩, st⟩
def own_EL : List (String × Nat) := [("java/lang/String", 7), ("com/example/cyclewarden/cyclewarden/core/Wait", 7), ("com/example/cyclewarden/cyclewarden/core/Wait", 15), ("com/example/cyclewarden/cyclewarden/core/Wait", 17)]
theorem own_hEL {a0 : Array Value} {Z : State} (hw : ∀ d ∈ tables_1, d.before a0 Z = true) : EW Z a0 own_EL := (EW.cons (text := "") (hw _ (List.mem_of_getElem? (i := 75) rfl)) (by decide) (EW.cons (text := "site") (hw _ (List.mem_of_getElem? (i := 45) rfl)) (by decide) (EW.cons (text := "waiter") (hw _ (List.mem_of_getElem? (i := 52) rfl)) (by decide) (EW.cons (text := "holder") (hw _ (List.mem_of_getElem? (i := 53) rfl)) (by decide) EW.nil))))
theorem own_wS {a0 : Array Value} {Z : State} (hw : ∀ d ∈ tables_1, d.before a0 Z = true) : ∀ a ∈ Bundle.stringAtoms, a.before a0 Z = true := fun d hd => hw d ((by decide +kernel : ∀ d ∈ Bundle.stringAtoms, d ∈ tables_1) d hd)

theorem d2_0 : decode jdk_42_method_149_code 0 = .ok (.aload_n 0, 1) := by decide +kernel
theorem d2_1 : decode jdk_42_method_149_code 1 = .ok (.invokespecial 1, 3) := by decide +kernel
theorem d2_4 : decode jdk_42_method_149_code 4 = .ok (.iload_n 3, 1) := by decide +kernel
theorem d2_5 : decode jdk_42_method_149_code 5 = .ok (.ifCond .ne 22, 3) := by decide +kernel
theorem d2_8 : decode jdk_42_method_149_code 8 = .ok (.aload_n 0, 1) := by decide +kernel
theorem d2_9 : decode jdk_42_method_149_code 9 = .ok (.ldc 7, 2) := by decide +kernel
theorem d2_11 : decode jdk_42_method_149_code 11 = .ok (.getfield 9, 3) := by decide +kernel
theorem d2_14 : decode jdk_42_method_149_code 14 = .ok (.putfield 9, 3) := by decide +kernel
theorem d2_17 : decode jdk_42_method_149_code 17 = .ok (.aload_n 0, 1) := by decide +kernel
theorem d2_18 : decode jdk_42_method_149_code 18 = .ok (.ldc 7, 2) := by decide +kernel
theorem d2_20 : decode jdk_42_method_149_code 20 = .ok (.getfield 15, 3) := by decide +kernel
theorem d2_23 : decode jdk_42_method_149_code 23 = .ok (.putfield 15, 3) := by decide +kernel
theorem d2_26 : decode jdk_42_method_149_code 26 = .ok (.return_, 1) := by decide +kernel
theorem d2_27 : decode jdk_42_method_149_code 27 = .ok (.getstatic 38, 3) := by decide +kernel
theorem d2_30 : decode jdk_42_method_149_code 30 = .ok (.ifCond .eq 28, 3) := by decide +kernel
theorem d2_33 : decode jdk_42_method_149_code 33 = .ok (.aload_n 1, 1) := by decide +kernel
theorem d2_34 : decode jdk_42_method_149_code 34 = .ok (.iload_n 2, 1) := by decide +kernel
theorem d2_35 : decode jdk_42_method_149_code 35 = .ok (.iload_n 3, 1) := by decide +kernel
theorem d2_36 : decode jdk_42_method_149_code 36 = .ok (.invokestatic 177, 3) := by decide +kernel
theorem d2_39 : decode jdk_42_method_149_code 39 = .ok (.astore 5, 2) := by decide +kernel
theorem d2_41 : decode jdk_42_method_149_code 41 = .ok (.aload_n 0, 1) := by decide +kernel
theorem d2_42 : decode jdk_42_method_149_code 42 = .ok (.aload 5, 2) := by decide +kernel
theorem d2_44 : decode jdk_42_method_149_code 44 = .ok (.iload_n 3, 1) := by decide +kernel
theorem d2_45 : decode jdk_42_method_149_code 45 = .ok (.invokestatic 47, 3) := by decide +kernel
theorem d2_48 : decode jdk_42_method_149_code 48 = .ok (.putfield 15, 3) := by decide +kernel
theorem d2_51 : decode jdk_42_method_149_code 51 = .ok (.aload_n 0, 1) := by decide +kernel
theorem d2_52 : decode jdk_42_method_149_code 52 = .ok (.aload 5, 2) := by decide +kernel
theorem d2_54 : decode jdk_42_method_149_code 54 = .ok (.putfield 9, 3) := by decide +kernel
theorem d2_57 : decode jdk_42_method_149_code 57 = .ok (.return_, 1) := by decide +kernel
theorem d2_58 : decode jdk_42_method_149_code 58 = .ok (.aload_n 0, 1) := by decide +kernel
theorem d2_59 : decode jdk_42_method_149_code 59 = .ok (.iconst 1, 1) := by decide +kernel
theorem d2_60 : decode jdk_42_method_149_code 60 = .ok (.putfield 15, 3) := by decide +kernel
theorem d2_63 : decode jdk_42_method_149_code 63 = .ok (.aload_n 0, 1) := by decide +kernel
theorem d2_64 : decode jdk_42_method_149_code 64 = .ok (.aload_n 1, 1) := by decide +kernel
theorem d2_65 : decode jdk_42_method_149_code 65 = .ok (.iload_n 2, 1) := by decide +kernel
theorem d2_66 : decode jdk_42_method_149_code 66 = .ok (.iload_n 3, 1) := by decide +kernel
theorem d2_67 : decode jdk_42_method_149_code 67 = .ok (.invokestatic 180, 3) := by decide +kernel
theorem d2_70 : decode jdk_42_method_149_code 70 = .ok (.putfield 9, 3) := by decide +kernel
theorem d2_73 : decode jdk_42_method_149_code 73 = .ok (.return_, 1) := by decide +kernel
theorem pn_0 : plainName "java/lang/String" = true := by first | (simp [plainName, overriddenIn]; done) | decide +kernel
theorem ef_2n4 (m : MethodId) (o0 : Addr) (o1 : Addr) (p2 : Int32) (p3 : Int32) : entryFrame m #[(.ref o0), (.ref o1), (.int p2), (.int p3), .null] 6 = mkF m 0 #[.val (.ref o0), .val (.ref o1), .val (.int p2), .val (.int p3), .val .null, .unset] [] := by first | (simp [entryFrame, mkF, argsToLocals, Value.category]; done) | rfl
set_option maxRecDepth 65536 in
set_option maxHeartbeats 40000000 in
theorem cE4 (l : Launch) (Z : State) (a0 : Array Value) (hw : ∀ d ∈ tables_1, d.before a0 Z = true) (o0 : Addr) (o1 : Addr) (n0 : Nat) (old : Value) (h0 : Heap) (Z0 : n0 ≤ h0.size) (E0 : Exa Z h0 o0 "java/lang/String") (F0 : Fld Z h0 o0 "java/lang/String" "value" "[B" .null) (F1 : Fld Z h0 o0 "java/lang/String" "coder" "B" old) (g0 : n0 ≤ o0) : Own.ConH l Z own_EL (⟨"java/lang/String", "<init>", "([CIILjava/lang/Void;)V"⟩ : MethodName) jdk_42_method_149_code 6 none ({ frames := 1, cells := 4, slots := 8, locals := 12 } : Room) #[(.ref o0), (.ref o1), (.int (0 : Int32)), (.int (0 : Int32)), .null] h0 (fun v h L => v = none ∧ Fr n0 L ∧ Keep h0 h [o0] ∧ own_Txt Z h o0 []) := by
  intro ws
  refine MetFree.of_bodySF (plainFor_of_name pn_0) hisR ?_
  intro p e s m args below meth c s₁ Bd hml0 hP hK
  obtain ⟨rfl, hZ, hh, hH⟩ := hP
  have hx := Bd.exec
  have hby := Bd.bytes
  have hml : c.maxLocals = 6 := hml0
  have hown : s.vm.findClass "java/lang/String" = some m.cls := findClass_of_methodNamed Bd.named
  have hnm := (name_of_methodNamed Bd.named Bd.method).1
  have X0 : Stand p l e ({ frames := 1, cells := 4, slots := 8, locals := 12 } : Room) (s.setVm s.vm) m #[(.ref o0), (.ref o1), (.int (0 : Int32)), (.int (0 : Int32)), .null] below meth c s₁ [] 0 0 := Stand.of_body Bd
  have e0 : s₁.heap = h0 := by rw [← hh, Bd.state]; rfl
  have D0 : Own.Wd s Z own_EL "java/lang/String" m.cls s.vm h0 := by rw [← hh]; exact Own.Wd.start hZ hown (by rw [hh]; exact hH)
  have K0 : ∀ t, Steps p.tables e below (s₁.setTop (mkF m 0 #[.val (.ref o0), .val (.ref o1), .val (.int (0 : Int32)), .val (.int (0 : Int32)), .val .null, .unset] [])) t → Steps p.tables e below (s₁.setTop (entryFrame m #[(.ref o0), (.ref o1), (.int (0 : Int32)), (.int (0 : Int32)), .null] 6)) t := fun t k => castTop (ef_2n4 m o0 o1 (0 : Int32) (0 : Int32)) k
  generalize s₁.setTop (entryFrame m #[(.ref o0), (.ref o1), (.int (0 : Int32)), (.int (0 : Int32)), .null] 6) = B0 at K0 ⊢
  show Own.FinH p e below B0 s Z own_EL (({ frames := 1, cells := 4, slots := 8, locals := 12 } : Room)).cells (({ frames := 1, cells := 4, slots := 8, locals := 12 } : Room)).slots (fun v h L => v = none ∧ Fr n0 L ∧ Keep h0 h [o0] ∧ own_Txt Z h o0 [])
  have S0 := Own.safe_null (EL := own_EL) D0.hZ.alike E0 F0
  have K1 : ∀ t, Steps p.tables e below (s₁.setTop (mkF m 1 #[.val (.ref o0), .val (.ref o1), .val (.int (0 : Int32)), .val (.int (0 : Int32)), .val .null, .unset] [(.ref o0)])) t → Steps p.tables e below B0 t := fun t k => K0 t (by
    refine Own.aloadN X0 hx (hb hby d2_0) rfl rfl ?_
    exact k)
  obtain ⟨T2, X2, e2, st2⟩ := Own.initO (Ls := #[.val (.ref o0), .val (.ref o1), .val (.int (0 : Int32)), .val (.int (0 : Int32)), .val .null, .unset]) (S := []) (a := o0) X0 hx D0.hZ e0 D0.hown (hw _ (List.mem_of_getElem? (i := 11) rfl)) (hw _ (List.mem_of_getElem? (i := 12) rfl)) (hw _ (List.mem_of_getElem? (i := 13) rfl)) (by rw [hml]; rfl) (hb hby d2_1) (by decide) 0 (Nat.le_of_eq rfl) (by decide)
  have K3 : ∀ t, Steps p.tables e below (T2.setTop (mkF m 4 #[.val (.ref o0), .val (.ref o1), .val (.int (0 : Int32)), .val (.int (0 : Int32)), .val .null, .unset] [])) t → Steps p.tables e below B0 t := fun t k => K1 t (st2 t k)
  have K4 : ∀ t, Steps p.tables e below (T2.setTop (mkF m 5 #[.val (.ref o0), .val (.ref o1), .val (.int (0 : Int32)), .val (.int (0 : Int32)), .val .null, .unset] [(.int (0 : Int32))])) t → Steps p.tables e below B0 t := fun t k => K3 t (by
    refine Own.iloadN X2 hx (hb hby d2_4) rfl ?_
    exact k)
  have K5 : ∀ t, Steps p.tables e below (T2.setTop (mkF m 9 #[.val (.ref o0), .val (.ref o1), .val (.int (0 : Int32)), .val (.int (0 : Int32)), .val .null, .unset] [(.ref o0)])) t → Steps p.tables e below B0 t := fun t k => K4 t (by
    refine Own.ifNo X2 hx (hb hby d2_5) ((if0 _ _).trans (teq (by decide : (0 : Int32) = (0 : Int32))).2) ?_
    refine Own.aloadN X2 hx (hb hby d2_8) rfl rfl ?_
    exact k)
  obtain ⟨vm6, T6, h6, a6, b6, k6, X6, e6, E6, D6, sf6, ex6, fv6, fc6, av6, ne6, st6⟩ := Own.ldcT (Ls := #[.val (.ref o0), .val (.ref o1), .val (.int (0 : Int32)), .val (.int (0 : Int32)), .val .null, .unset]) (S := [(.ref o0)]) X2 hx (own_hEL hw) D0 e2 "" (hw _ (List.mem_of_getElem? (i := 75) rfl)) (own_wS hw) (by decide) [] (by decide) (by rfl) 0 (by decide) (by decide) (by decide) (by decide) (by decide) (hb hby d2_9)
  have S7 := sf6 o0 E0.lt S0
  have X6 : Stand p l e ({ frames := 1, cells := 4, slots := 8, locals := 12 } : Room) (s.setVm vm6) m #[(.ref o0), (.ref o1), (.int (0 : Int32)), (.int (0 : Int32)), .null] below meth c T6 [] 2 4 := X6
  have m8 : h0.size ≤ h6.size := E6.1
  have ca6 : Own.CA Z h6 b6 .byte (([] : List Int32).map fun c => c.toInt8.toInt32) := ⟨k6, by simpa using av6, by simp⟩
  have K9 : ∀ t, Steps p.tables e below (T6.setTop (mkF m 11 #[.val (.ref o0), .val (.ref o1), .val (.int (0 : Int32)), .val (.int (0 : Int32)), .val .null, .unset] [(.ref a6), (.ref o0)])) t → Steps p.tables e below B0 t := fun t k => K5 t (st6 t k)
  obtain ⟨T10, X10, e10, st10⟩ := Own.getF (Ls := #[.val (.ref o0), .val (.ref o1), .val (.int (0 : Int32)), .val (.int (0 : Int32)), .val .null, .unset]) X6 hx D6.hZ e6 D6.hown (host := "") (Or.inl (hw _ (List.mem_of_getElem? (i := 28) rfl))) Via.refl fv6 (S := [(.ref o0)]) (hb hby d2_11)
  have K11 : ∀ t, Steps p.tables e below (T10.setTop (mkF m 14 #[.val (.ref o0), .val (.ref o1), .val (.int (0 : Int32)), .val (.int (0 : Int32)), .val .null, .unset] [(.ref b6), (.ref o0)])) t → Steps p.tables e below B0 t := fun t k => K9 t (st10 t k)
  have f12 := (F0.ext E6)
  have f13 := (E0.ext E6)
  obtain ⟨T14, h14, L14, X14, e14, n14, W14, F14, st14⟩ := Own.putF (Ls := #[.val (.ref o0), .val (.ref o1), .val (.int (0 : Int32)), .val (.int (0 : Int32)), .val .null, .unset]) (S := []) (v := (.ref b6)) X10 hx D6.hZ e10 D6.hown (host := "") (Or.inl (hw _ (List.mem_of_getElem? (i := 28) rfl))) Via.refl f12 f13 (Or.inr ⟨(hw _ (List.mem_of_getElem? (i := 29) rfl)), rfl, hnm⟩) (hw _ (List.mem_of_getElem? (i := 2) rfl)) (ty := (.array .byte)) (by decide) rfl rfl (hb hby d2_14)
  have N14 : Fr n0 L14 := n14 n0 (Fr.nil _) g0
  have m15 : h6.size ≤ h14.size := Nat.le_of_eq W14.size.symm
  have S16 := Safe.wr W14 S7 D6.H S7
  have D15 := D6.wr W14 S7
  have K17 : ∀ t, Steps p.tables e below (T14.setTop (mkF m 17 #[.val (.ref o0), .val (.ref o1), .val (.int (0 : Int32)), .val (.int (0 : Int32)), .val .null, .unset] [])) t → Steps p.tables e below B0 t := fun t k => K11 t (st14 t k)
  have K18 : ∀ t, Steps p.tables e below (T14.setTop (mkF m 18 #[.val (.ref o0), .val (.ref o1), .val (.int (0 : Int32)), .val (.int (0 : Int32)), .val .null, .unset] [(.ref o0)])) t → Steps p.tables e below B0 t := fun t k => K17 t (by
    refine Own.aloadN X14 hx (hb hby d2_17) rfl rfl ?_
    exact k)
  obtain ⟨vm19, T19, h19, a19, b19, k19, X19, e19, E19, D19, sf19, ex19, fv19, fc19, av19, ne19, st19⟩ := Own.ldcT (Ls := #[.val (.ref o0), .val (.ref o1), .val (.int (0 : Int32)), .val (.int (0 : Int32)), .val .null, .unset]) (S := [(.ref o0)]) X14 hx (own_hEL hw) D15 e14 "" (hw _ (List.mem_of_getElem? (i := 75) rfl)) (own_wS hw) (by decide) [] (by decide) (by rfl) 0 (by decide) (by decide) (by decide) (by decide) (by decide) (hb hby d2_18)
  have S20 := sf19 o0 (f13.wr W14).lt S16
  have X19 : Stand p l e ({ frames := 1, cells := 4, slots := 8, locals := 12 } : Room) (s.setVm vm19) m #[(.ref o0), (.ref o1), (.int (0 : Int32)), (.int (0 : Int32)), .null] below meth c T19 L14 4 8 := X19
  have m21 : h14.size ≤ h19.size := E19.1
  have ca19 : Own.CA Z h19 b19 .byte (([] : List Int32).map fun c => c.toInt8.toInt32) := ⟨k19, by simpa using av19, by simp⟩
  have K22 : ∀ t, Steps p.tables e below (T19.setTop (mkF m 20 #[.val (.ref o0), .val (.ref o1), .val (.int (0 : Int32)), .val (.int (0 : Int32)), .val .null, .unset] [(.ref a19), (.ref o0)])) t → Steps p.tables e below B0 t := fun t k => K18 t (st19 t k)
  obtain ⟨T23, X23, e23, st23⟩ := Own.getF (Ls := #[.val (.ref o0), .val (.ref o1), .val (.int (0 : Int32)), .val (.int (0 : Int32)), .val .null, .unset]) X19 hx D19.hZ e19 D19.hown (host := "") (Or.inl (hw _ (List.mem_of_getElem? (i := 26) rfl))) Via.refl fc19 (S := [(.ref o0)]) (hb hby d2_20)
  have K24 : ∀ t, Steps p.tables e below (T23.setTop (mkF m 23 #[.val (.ref o0), .val (.ref o1), .val (.int (0 : Int32)), .val (.int (0 : Int32)), .val .null, .unset] [(.int (0 : Int32)), (.ref o0)])) t → Steps p.tables e below B0 t := fun t k => K22 t (st23 t k)
  have f25 := (((F1.ext E6).other W14 (Or.inr (slot_ne (Or.inr (hw _ (List.mem_of_getElem? (i := 27) rfl))) (Or.inr (hw _ (List.mem_of_getElem? (i := 29) rfl))) (by decide) (t := .byte) (t' := (.array .byte)) (by decide) (by decide)))).ext E19)
  have f26 := ((f13.wr W14).ext E19)
  obtain ⟨T27, h27, L27, X27, e27, n27, W27, F27, st27⟩ := Own.putF (Ls := #[.val (.ref o0), .val (.ref o1), .val (.int (0 : Int32)), .val (.int (0 : Int32)), .val .null, .unset]) (S := []) (v := (.int (0 : Int32))) X23 hx D19.hZ e23 D19.hown (host := "") (Or.inl (hw _ (List.mem_of_getElem? (i := 26) rfl))) Via.refl f25 f26 (Or.inr ⟨(hw _ (List.mem_of_getElem? (i := 27) rfl)), rfl, hnm⟩) (hw _ (List.mem_of_getElem? (i := 2) rfl)) (ty := .byte) (by decide) rfl rfl (hb hby d2_23)
  have N27 : Fr n0 L27 := n27 n0 N14 g0
  have m28 : h19.size ≤ h27.size := Nat.le_of_eq W27.size.symm
  have S29 := Safe.wr W27 S20 D19.H S20
  have D28 := D19.wr W27 S20
  have K30 : ∀ t, Steps p.tables e below (T27.setTop (mkF m 26 #[.val (.ref o0), .val (.ref o1), .val (.int (0 : Int32)), .val (.int (0 : Int32)), .val .null, .unset] [])) t → Steps p.tables e below B0 t := fun t k => K24 t (st27 t k)
  have f31 := (f26.wr W27)
  have f32 := ((F14.ext E19).other W27 (Or.inr (slot_ne (Or.inr (hw _ (List.mem_of_getElem? (i := 29) rfl))) (Or.inr (hw _ (List.mem_of_getElem? (i := 27) rfl))) (by decide) (t := (.array .byte)) (t' := .byte) (by decide) (by decide))))
  have f33 := (((ca6.other W14 (Ne.symm (ne6 o0 S7).2)).ext E19).other W27 (Ne.symm (ne6 o0 S7).2))
  have kp := (((((Keep.refl h0 [o0]).ext E6).wr W14 (Or.inl (List.mem_of_getElem? (i := 0) rfl))).ext E19).wr W27 (Or.inl (List.mem_of_getElem? (i := 0) rfl)))
  obtain ⟨kA, vA, -⟩ := f33
  exact Own.finHV X27 hx (own_hEL hw) e27 D28 (BodyLoose.notSynchronized Bd) Bd.returns (hb hby d2_26) K30 (by decide) (by decide) (by rw [e27]; exact ⟨rfl, N27, kp, ⟨_, kA, f31, f32, F27, vA, (fun c hc => absurd hc List.not_mem_nil), by decide⟩⟩)

theorem d1_0 : decode jdk_42_method_3_code 0 = .ok (.aload_n 0, 1) := by decide +kernel
theorem d1_1 : decode jdk_42_method_3_code 1 = .ok (.aload_n 1, 1) := by decide +kernel
theorem d1_2 : decode jdk_42_method_3_code 2 = .ok (.iconst 0, 1) := by decide +kernel
theorem d1_3 : decode jdk_42_method_3_code 3 = .ok (.aload_n 1, 1) := by decide +kernel
theorem d1_4 : decode jdk_42_method_3_code 4 = .ok (.arraylength, 1) := by decide +kernel
theorem d1_5 : decode jdk_42_method_3_code 5 = .ok (.aconst_null, 1) := by decide +kernel
theorem d1_6 : decode jdk_42_method_3_code 6 = .ok (.invokespecial 27, 3) := by decide +kernel
theorem d1_9 : decode jdk_42_method_3_code 9 = .ok (.return_, 1) := by decide +kernel
theorem pd_0 : parseMethodDescriptor "([CIILjava/lang/Void;)V" = some ⟨[(.array .char), .int, .int, (.object "java/lang/Void")], none⟩ := by decide +kernel
theorem ef_1 (m : MethodId) (o0 : Addr) (o1 : Addr) : entryFrame m #[(.ref o0), (.ref o1)] 2 = mkF m 0 #[.val (.ref o0), .val (.ref o1)] [] := by first | (simp [entryFrame, mkF, argsToLocals, Value.category]; done) | rfl
set_option maxRecDepth 65536 in
set_option maxHeartbeats 40000000 in
theorem cE1 (l : Launch) (Z : State) (a0 : Array Value) (hw : ∀ d ∈ tables_1, d.before a0 Z = true) (o0 : Addr) (o1 : Addr) (n0 : Nat) (old : Value) (h0 : Heap) (Z0 : n0 ≤ h0.size) (E0 : Exa Z h0 o0 "java/lang/String") (F0 : Fld Z h0 o0 "java/lang/String" "value" "[B" .null) (F1 : Fld Z h0 o0 "java/lang/String" "coder" "B" old) (g0 : n0 ≤ o0) (VA : Own.CA Z h0 o1 .char []) : Own.ConH l Z own_EL (⟨"java/lang/String", "<init>", "([C)V"⟩ : MethodName) jdk_42_method_3_code 2 none ({ frames := 2, cells := 4, slots := 8, locals := 29 } : Room) #[(.ref o0), (.ref o1)] h0 (fun v h L => v = none ∧ Fr n0 L ∧ Keep h0 h [o0] ∧ own_Txt Z h o0 []) := by
  intro ws
  refine MetFree.of_bodySF (plainFor_of_name pn_0) hisR ?_
  intro p e s m args below meth c s₁ Bd hml0 hP hK
  obtain ⟨rfl, hZ, hh, hH⟩ := hP
  have hx := Bd.exec
  have hby := Bd.bytes
  have hml : c.maxLocals = 2 := hml0
  have hown : s.vm.findClass "java/lang/String" = some m.cls := findClass_of_methodNamed Bd.named
  have hnm := (name_of_methodNamed Bd.named Bd.method).1
  have X0 : Stand p l e ({ frames := 2, cells := 4, slots := 8, locals := 29 } : Room) (s.setVm s.vm) m #[(.ref o0), (.ref o1)] below meth c s₁ [] 0 0 := Stand.of_body Bd
  have e0 : s₁.heap = h0 := by rw [← hh, Bd.state]; rfl
  have D0 : Own.Wd s Z own_EL "java/lang/String" m.cls s.vm h0 := by rw [← hh]; exact Own.Wd.start hZ hown (by rw [hh]; exact hH)
  have K0 : ∀ t, Steps p.tables e below (s₁.setTop (mkF m 0 #[.val (.ref o0), .val (.ref o1)] [])) t → Steps p.tables e below (s₁.setTop (entryFrame m #[(.ref o0), (.ref o1)] 2)) t := fun t k => castTop (ef_1 m o0 o1) k
  generalize s₁.setTop (entryFrame m #[(.ref o0), (.ref o1)] 2) = B0 at K0 ⊢
  show Own.FinH p e below B0 s Z own_EL (({ frames := 2, cells := 4, slots := 8, locals := 29 } : Room)).cells (({ frames := 2, cells := 4, slots := 8, locals := 29 } : Room)).slots (fun v h L => v = none ∧ Fr n0 L ∧ Keep h0 h [o0] ∧ own_Txt Z h o0 [])
  have K1 : ∀ t, Steps p.tables e below (s₁.setTop (mkF m 4 #[.val (.ref o0), .val (.ref o1)] [(.ref o1), (.int (0 : Int32)), (.ref o1), (.ref o0)])) t → Steps p.tables e below B0 t := fun t k => K0 t (by
    refine Own.aloadN X0 hx (hb hby d1_0) rfl rfl ?_
    refine Own.aloadN X0 hx (hb hby d1_1) rfl rfl ?_
    refine Own.iconst X0 hx (0 : Int32) (hb hby d1_2) rfl ?_
    refine Own.aloadN X0 hx (hb hby d1_3) rfl rfl ?_
    exact k)
  obtain ⟨cq2, Aq2, lq2⟩ := Own.CA.len VA
  have K3 : ∀ t, Steps p.tables e below (s₁.setTop (mkF m 6 #[.val (.ref o0), .val (.ref o1)] [.null, (.int (0 : Int32)), (.int (0 : Int32)), (.ref o1), (.ref o0)])) t → Steps p.tables e below B0 t := fun t k => K1 t (by
    refine Own.arraylength X0 hx (0 : Int32) D0.hZ e0 Aq2 lq2 (hb hby d1_4) ?_
    refine Own.aconstNull X0 hx (hb hby d1_5) ?_
    exact k)
  obtain ⟨vm4, T4, h4, v4, J4, L4, X4, e4, D4, mm4, n4, hQ4, st4⟩ := Own.callIW (Ls := #[.val (.ref o0), .val (.ref o1)]) X0 hx (own_hEL hw) D0 e0 rfl o0 [(.ref o1), (.int (0 : Int32)), (.int (0 : Int32)), .null] [] (cE4 l Z a0 hw o0 o1 n0 old h0 (Nat.le_trans Z0 (Nat.le_refl _)) E0 F0 F1 g0) (hw _ (List.mem_of_getElem? (i := 7) rfl)) (hw _ (List.mem_of_getElem? (i := 8) rfl)) (hw _ (List.mem_of_getElem? (i := 3) rfl)) (hw _ (List.mem_of_getElem? (i := 10) rfl)) (by decide) 0 (by decide) (by decide) (by decide) (by decide) (by rw [hml]; rfl) (lenOf pd_0 rfl) rfl (Nat.le_of_eq rfl) (hb hby d1_6)
  have X4 : Stand p l e ({ frames := 2, cells := 4, slots := 8, locals := 29 } : Room) (s.setVm vm4) m #[(.ref o0), (.ref o1)] below meth c T4 L4 4 8 := X4
  obtain ⟨rfl, NN4, K4, t4⟩ := hQ4
  have N4 : Fr n0 L4 := n4 n0 (Fr.nil _) NN4
  have m5 : h0.size ≤ h4.size := K4.1
  have K6 : ∀ t, Steps p.tables e below (T4.setTop (mkF m 9 #[.val (.ref o0), .val (.ref o1)] [])) t → Steps p.tables e below B0 t := fun t k => K3 t (st4 t k)
  have kp := ((Keep.refl h0 [o0]).trans K4 (allS (Or.inl (List.mem_of_getElem? (i := 0) rfl)) all0))
  exact Own.finHV X4 hx (own_hEL hw) e4 D4 (BodyLoose.notSynchronized Bd) Bd.returns (hb hby d1_9) K6 (by decide) (by decide) (by rw [e4]; exact ⟨rfl, N4, kp, t4⟩)

theorem own_mask (x : Int32) (n : Nat) (y : Int32) (hy : y.toBitVec = BitVec.ofNat 32 (2 ^ n - 1)) (hn : n ≤ 30) : (x &&& y).toInt = x.toInt % 2 ^ n := by
  have hp : 2 ^ n ≤ 2 ^ 30 := Nat.pow_le_pow_right (by omega) hn
  have hp0 : 0 < 2 ^ n := Nat.two_pow_pos n
  have h2 : (x.toBitVec &&& y.toBitVec).toNat = x.toBitVec.toNat % 2 ^ n := by
    rw [BitVec.toNat_and, hy, BitVec.toNat_ofNat, Nat.mod_eq_of_lt (by omega)]
    exact Nat.and_two_pow_sub_one_eq_mod _ n
  have h1 : (x &&& y).toInt = ((x.toBitVec &&& y.toBitVec).toNat : Int) := by
    show (x &&& y).toBitVec.toInt = _
    rw [Int32.toBitVec_and]
    have : (x.toBitVec &&& y.toBitVec).toNat < 2 ^ n := by rw [h2]; exact Nat.mod_lt _ hp0
    rw [BitVec.toInt_eq_toNat_cond, if_pos (by omega)]
  have h3 : x.toInt = x.toBitVec.toInt := rfl
  have h4 : ((2 : Int) ^ n) = ((2 ^ n : Nat) : Int) := by simp
  have h5 : (2 ^ 32 : Nat) % 2 ^ n = 0 := Nat.mod_eq_zero_of_dvd (Nat.pow_dvd_pow 2 (by omega))
  rw [h1, h2, h3, BitVec.toInt_eq_toNat_cond, h4]
  split
  · exact Int.natCast_emod _ _
  · rw [Int.natCast_emod, Int.sub_emod]
    have : ((2 ^ 32 : Nat) : Int) % ((2 ^ n : Nat) : Int) = 0 := by rw [← Int.natCast_emod, h5]; rfl
    rw [this, Int.sub_zero, Int.emod_emod_of_dvd _ (Int.dvd_refl _)]
theorem own_nat {x : Int32} {n : Nat} (h0 : 0 ≤ x.toInt) (h1 : x.toInt < n) (hn : n < 2 ^ 31) : ∃ i : Nat, i < n ∧ x = Int32.ofNat i := by
  refine ⟨x.toInt.toNat, by omega, ?_⟩
  rw [← Int32.toInt_inj, Int32.toInt_ofNat_small (by omega)]; omega
theorem own_rem (k u : Int32) (hu : 0 < u.toInt) : 0 ≤ ((k &&& 2147483647) % u).toInt ∧ ((k &&& 2147483647) % u).toInt < u.toInt := by
  have h0 : 0 ≤ (k &&& 2147483647).toInt := by
    have : ¬ (k &&& 2147483647) < 0 := by
      rw [Jvm.Free.XT.and_neg32]; exact fun q => absurd q.2 (by decide)
    rw [Int32.lt_iff_toInt_lt] at this
    exact Int.not_lt.mp this
  rw [Int32.toInt_mod]
  exact ⟨Int.tmod_nonneg _ h0, Int.tmod_lt_of_pos _ hu⟩

theorem own_nar {x : Int32} (h0 : 0 ≤ x.toInt) (h1 : x.toInt < 65536) : nar .char x = x := by
  show x.toUInt32.toUInt16.toUInt32.toInt32 = x
  rw [← Int32.toBitVec_inj]
  show (x.toBitVec.setWidth 16).setWidth 32 = x.toBitVec
  have h3 : x.toInt = x.toBitVec.toInt := rfl
  rw [h3, BitVec.toInt_eq_toNat_cond] at h0 h1
  have h4 := x.toBitVec.isLt
  apply BitVec.eq_of_toNat_eq
  rw [BitVec.toNat_setWidth, BitVec.toNat_setWidth]
  split at h0
  · rw [if_pos (by assumption)] at h1; omega
  · omega
theorem own_lt0 {x : Int32} (h0 : 0 ≤ x.toInt) (h1 : x.toInt ≤ 255) : ¬ x < 0 ∧ ¬ (255 : Int32) < x := by
  rw [Int32.lt_iff_toInt_lt, Int32.lt_iff_toInt_lt, show (0 : Int32).toInt = 0 by decide, show (255 : Int32).toInt = 255 by decide]; omega

def own_ok (c : Int32) : Prop := ¬ c < 0 ∧ ¬ (255 : Int32) < c
theorem own_narb {c : Int32} (h : own_ok c) : nar .char c = c := by
  obtain ⟨h1, h2⟩ := h
  rw [Int32.lt_iff_toInt_lt, show (0 : Int32).toInt = 0 by decide] at h1
  rw [Int32.lt_iff_toInt_lt, show (255 : Int32).toInt = 255 by decide] at h2
  exact own_nar (by omega) (by omega)
theorem own_okn {c : Int32} : own_ok c ↔ c.toBitVec.toNat < 256 := by
  unfold own_ok
  rw [Int32.lt_iff_toInt_lt, Int32.lt_iff_toInt_lt, show (0 : Int32).toInt = 0 by decide, show (255 : Int32).toInt = 255 by decide]
  have h3 : c.toInt = c.toBitVec.toInt := rfl
  have h4 := c.toBitVec.isLt
  rw [h3, BitVec.toInt_eq_toNat_cond]
  split <;> omega
theorem own_b8i (x : Int32) : own_ok (x &&& 255) := by
  rw [own_okn, Int32.toBitVec_and, BitVec.toNat_and]
  exact Nat.lt_of_le_of_lt Nat.and_le_right (by decide)
theorem own_x8 {a b : Int32} (h : own_ok a) (g : own_ok b) : own_ok (a ^^^ b) := by
  rw [own_okn] at h g ⊢
  rw [Int32.toBitVec_xor, BitVec.toNat_xor]
  exact Nat.xor_lt_two_pow (n := 8) h g
theorem own_c8 {x : Int32} (h : own_ok x) : x.toUInt32.toUInt16.toUInt32.toInt32 = x := own_narb h
theorem own_okc {x : Int32} (h : own_ok x) : own_ok (x.toUInt32.toUInt16.toUInt32.toInt32) := by rw [own_c8 h]; exact h

theorem own_hp (x : Int32) : ∀ c ∈ ([(nar .char ((x &&& (255 : Int32)).toUInt32.toUInt16.toUInt32.toInt32))] : List Int32), ¬ c < 0 ∧ ¬ (255 : Int32) < c := fun c hc => by
  rw [List.mem_singleton.mp hc]
  have h := own_okc (own_b8i x)
  rw [own_narb h]; exact h

theorem d9_0 : decode jdk_30_method_1_code 0 = .ok (.aload_n 0, 1) := by decide +kernel
theorem d9_1 : decode jdk_30_method_1_code 1 = .ok (.invokespecial 1, 3) := by decide +kernel
theorem d9_4 : decode jdk_30_method_1_code 4 = .ok (.return_, 1) := by decide +kernel
theorem pn_1 : plainName "java/lang/Record" = true := by first | (simp [plainName, overriddenIn]; done) | decide +kernel
theorem ef_9 (m : MethodId) (o0 : Addr) : entryFrame m #[(.ref o0)] 1 = mkF m 0 #[.val (.ref o0)] [] := by first | (simp [entryFrame, mkF, argsToLocals, Value.category]; done) | rfl
set_option maxRecDepth 65536 in
set_option maxHeartbeats 40000000 in
theorem c9 (l : Launch) (Z : State) (a0 : Array Value) (hw : ∀ d ∈ tables_1, d.before a0 Z = true) (o0 : Addr) (h0 : Heap) : Own.Con l Z (⟨"java/lang/Record", "<init>", "()V"⟩ : MethodName) jdk_30_method_1_code 1 none ({ frames := 1, cells := 0, slots := 0, locals := 12 } : Room) #[(.ref o0)] h0 (fun v h L => v = none ∧ L = [] ∧ h = h0) := by
  intro ws
  refine MetFree.of_bodySF (plainFor_of_name pn_1) hisR ?_
  intro p e s m args below meth c s₁ Bd hml0 hP hK
  obtain ⟨rfl, hZ, hh⟩ := hP
  have hx := Bd.exec
  have hby := Bd.bytes
  have hml : c.maxLocals = 1 := hml0
  have hown : s.vm.findClass "java/lang/Record" = some m.cls := findClass_of_methodNamed Bd.named
  have hnm := (name_of_methodNamed Bd.named Bd.method).1
  have X0 : Stand p l e ({ frames := 1, cells := 0, slots := 0, locals := 12 } : Room) s m #[(.ref o0)] below meth c s₁ [] 0 0 := Stand.of_body Bd
  have e0 : s₁.heap = h0 := by rw [← hh, Bd.state]; rfl
  have K0 : ∀ t, Steps p.tables e below (s₁.setTop (mkF m 0 #[.val (.ref o0)] [])) t → Steps p.tables e below (s₁.setTop (entryFrame m #[(.ref o0)] 1)) t := fun t k => castTop (ef_9 m o0) k
  generalize s₁.setTop (entryFrame m #[(.ref o0)] 1) = B0 at K0 ⊢
  show Own.Fin p e below B0 s (({ frames := 1, cells := 0, slots := 0, locals := 12 } : Room)).cells (({ frames := 1, cells := 0, slots := 0, locals := 12 } : Room)).slots (fun v h L => v = none ∧ L = [] ∧ h = h0)
  have K1 : ∀ t, Steps p.tables e below (s₁.setTop (mkF m 1 #[.val (.ref o0)] [(.ref o0)])) t → Steps p.tables e below B0 t := fun t k => K0 t (by
    refine Own.aloadN X0 hx (hb hby d9_0) rfl rfl ?_
    exact k)
  obtain ⟨T2, X2, e2, st2⟩ := Own.initO (Ls := #[.val (.ref o0)]) (S := []) (a := o0) X0 hx hZ e0 hown (hw _ (List.mem_of_getElem? (i := 44) rfl)) (hw _ (List.mem_of_getElem? (i := 12) rfl)) (hw _ (List.mem_of_getElem? (i := 13) rfl)) (by rw [hml]; rfl) (hb hby d9_1) (by decide) 0 (Nat.le_of_eq rfl) (by decide)
  have K3 : ∀ t, Steps p.tables e below (T2.setTop (mkF m 4 #[.val (.ref o0)] [])) t → Steps p.tables e below B0 t := fun t k => K1 t (st2 t k)
  exact Own.finV X2 hx (BodyLoose.notSynchronized Bd) Bd.returns (hb hby d9_4) K3 (by decide) (by decide) ⟨rfl, rfl, e2⟩

theorem d10_0 : decode jdk_31_method_11_code 0 = .ok (.aload_n 0, 1) := by decide +kernel
theorem d10_1 : decode jdk_31_method_11_code 1 = .ok (.ifnonnull 12, 3) := by decide +kernel
theorem d10_4 : decode jdk_31_method_11_code 4 = .ok (.new 84, 3) := by decide +kernel
theorem d10_7 : decode jdk_31_method_11_code 7 = .ok (.dup, 1) := by decide +kernel
theorem d10_8 : decode jdk_31_method_11_code 8 = .ok (.aload_n 1, 1) := by decide +kernel
theorem d10_9 : decode jdk_31_method_11_code 9 = .ok (.invokespecial 87, 3) := by decide +kernel
theorem d10_12 : decode jdk_31_method_11_code 12 = .ok (.athrow, 1) := by decide +kernel
theorem d10_13 : decode jdk_31_method_11_code 13 = .ok (.aload_n 0, 1) := by decide +kernel
theorem d10_14 : decode jdk_31_method_11_code 14 = .ok (.areturn, 1) := by decide +kernel
theorem pn_2 : plainName "java/util/Objects" = true := by first | (simp [plainName, overriddenIn]; done) | decide +kernel
theorem ef_10 (m : MethodId) (o0 : Addr) (o1 : Addr) : entryFrame m #[(.ref o0), (.ref o1)] 2 = mkF m 0 #[.val (.ref o0), .val (.ref o1)] [] := by first | (simp [entryFrame, mkF, argsToLocals, Value.category]; done) | rfl
set_option maxRecDepth 65536 in
set_option maxHeartbeats 40000000 in
theorem c10 (l : Launch) (Z : State) (a0 : Array Value) (hw : ∀ d ∈ tables_1, d.before a0 Z = true) (o0 : Addr) (o1 : Addr) (h0 : Heap) : Own.Con l Z (⟨"java/util/Objects", "requireNonNull", "(Ljava/lang/Object;Ljava/lang/String;)Ljava/lang/Object;"⟩ : MethodName) jdk_31_method_11_code 2 (some (.object "java/lang/Object")) ({ frames := 0, cells := 0, slots := 0, locals := 0 } : Room) #[(.ref o0), (.ref o1)] h0 (Own.Pure (.ref o0) h0) := by
  intro ws
  refine MetFree.of_bodySF (plainFor_of_name pn_2) hisR ?_
  intro p e s m args below meth c s₁ Bd hml0 hP hK
  obtain ⟨rfl, hZ, hh⟩ := hP
  have hx := Bd.exec
  have hby := Bd.bytes
  have hml : c.maxLocals = 2 := hml0
  have hown : s.vm.findClass "java/util/Objects" = some m.cls := findClass_of_methodNamed Bd.named
  have hnm := (name_of_methodNamed Bd.named Bd.method).1
  have X0 : Stand p l e ({ frames := 0, cells := 0, slots := 0, locals := 0 } : Room) s m #[(.ref o0), (.ref o1)] below meth c s₁ [] 0 0 := Stand.of_body Bd
  have e0 : s₁.heap = h0 := by rw [← hh, Bd.state]; rfl
  have K0 : ∀ t, Steps p.tables e below (s₁.setTop (mkF m 0 #[.val (.ref o0), .val (.ref o1)] [])) t → Steps p.tables e below (s₁.setTop (entryFrame m #[(.ref o0), (.ref o1)] 2)) t := fun t k => castTop (ef_10 m o0 o1) k
  generalize s₁.setTop (entryFrame m #[(.ref o0), (.ref o1)] 2) = B0 at K0 ⊢
  show Own.Fin p e below B0 s (({ frames := 0, cells := 0, slots := 0, locals := 0 } : Room)).cells (({ frames := 0, cells := 0, slots := 0, locals := 0 } : Room)).slots (Own.Pure (.ref o0) h0)
  have K1 : ∀ t, Steps p.tables e below (s₁.setTop (mkF m 14 #[.val (.ref o0), .val (.ref o1)] [(.ref o0)])) t → Steps p.tables e below B0 t := fun t k => K0 t (by
    refine Own.aloadN X0 hx (hb hby d10_0) rfl rfl ?_
    refine Own.ifnonnullYes X0 hx 13 (hb hby d10_1) (by decide) (by decide) ?_
    refine Own.aloadN X0 hx (hb hby d10_13) rfl rfl ?_
    exact k)
  exact Own.finA X0 hx (BodyLoose.notSynchronized Bd) Bd.returns rfl rfl (hb hby d10_14) K1 (by decide) (by decide) ⟨rfl, rfl, e0⟩

theorem d8_0 : decode prog_36_method_1_code 0 = .ok (.aload_n 0, 1) := by decide +kernel
theorem d8_1 : decode prog_36_method_1_code 1 = .ok (.invokespecial 1, 3) := by decide +kernel
theorem d8_4 : decode prog_36_method_1_code 4 = .ok (.aload_n 1, 1) := by decide +kernel
theorem d8_5 : decode prog_36_method_1_code 5 = .ok (.ldc 7, 2) := by decide +kernel
theorem d8_7 : decode prog_36_method_1_code 7 = .ok (.invokestatic 9, 3) := by decide +kernel
theorem d8_10 : decode prog_36_method_1_code 10 = .ok (.pop, 1) := by decide +kernel
theorem d8_11 : decode prog_36_method_1_code 11 = .ok (.aload_n 2, 1) := by decide +kernel
theorem d8_12 : decode prog_36_method_1_code 12 = .ok (.ldc 15, 2) := by decide +kernel
theorem d8_14 : decode prog_36_method_1_code 14 = .ok (.invokestatic 9, 3) := by decide +kernel
theorem d8_17 : decode prog_36_method_1_code 17 = .ok (.pop, 1) := by decide +kernel
theorem d8_18 : decode prog_36_method_1_code 18 = .ok (.aload_n 3, 1) := by decide +kernel
theorem d8_19 : decode prog_36_method_1_code 19 = .ok (.ldc 17, 2) := by decide +kernel
theorem d8_21 : decode prog_36_method_1_code 21 = .ok (.invokestatic 9, 3) := by decide +kernel
theorem d8_24 : decode prog_36_method_1_code 24 = .ok (.pop, 1) := by decide +kernel
theorem d8_25 : decode prog_36_method_1_code 25 = .ok (.aload 4, 2) := by decide +kernel
theorem d8_27 : decode prog_36_method_1_code 27 = .ok (.ifnonnull 7, 3) := by decide +kernel
theorem d8_30 : decode prog_36_method_1_code 30 = .ok (.iconst 1, 1) := by decide +kernel
theorem d8_31 : decode prog_36_method_1_code 31 = .ok (.goto 4, 3) := by decide +kernel
theorem d8_34 : decode prog_36_method_1_code 34 = .ok (.iconst 0, 1) := by decide +kernel
theorem d8_35 : decode prog_36_method_1_code 35 = .ok (.aload 5, 2) := by decide +kernel
theorem d8_37 : decode prog_36_method_1_code 37 = .ok (.ifnonnull 7, 3) := by decide +kernel
theorem d8_40 : decode prog_36_method_1_code 40 = .ok (.iconst 1, 1) := by decide +kernel
theorem d8_41 : decode prog_36_method_1_code 41 = .ok (.goto 4, 3) := by decide +kernel
theorem d8_44 : decode prog_36_method_1_code 44 = .ok (.iconst 0, 1) := by decide +kernel
theorem d8_45 : decode prog_36_method_1_code 45 = .ok (.if_icmp .eq 13, 3) := by decide +kernel
theorem d8_48 : decode prog_36_method_1_code 48 = .ok (.new 19, 3) := by decide +kernel
theorem d8_51 : decode prog_36_method_1_code 51 = .ok (.dup, 1) := by decide +kernel
theorem d8_52 : decode prog_36_method_1_code 52 = .ok (.ldc 21, 2) := by decide +kernel
theorem d8_54 : decode prog_36_method_1_code 54 = .ok (.invokespecial 23, 3) := by decide +kernel
theorem d8_57 : decode prog_36_method_1_code 57 = .ok (.athrow, 1) := by decide +kernel
theorem d8_58 : decode prog_36_method_1_code 58 = .ok (.aload_n 0, 1) := by decide +kernel
theorem d8_59 : decode prog_36_method_1_code 59 = .ok (.aload_n 1, 1) := by decide +kernel
theorem d8_60 : decode prog_36_method_1_code 60 = .ok (.putfield 26, 3) := by decide +kernel
theorem d8_63 : decode prog_36_method_1_code 63 = .ok (.aload_n 0, 1) := by decide +kernel
theorem d8_64 : decode prog_36_method_1_code 64 = .ok (.aload_n 2, 1) := by decide +kernel
theorem d8_65 : decode prog_36_method_1_code 65 = .ok (.putfield 31, 3) := by decide +kernel
theorem d8_68 : decode prog_36_method_1_code 68 = .ok (.aload_n 0, 1) := by decide +kernel
theorem d8_69 : decode prog_36_method_1_code 69 = .ok (.aload_n 3, 1) := by decide +kernel
theorem d8_70 : decode prog_36_method_1_code 70 = .ok (.putfield 33, 3) := by decide +kernel
theorem d8_73 : decode prog_36_method_1_code 73 = .ok (.aload_n 0, 1) := by decide +kernel
theorem d8_74 : decode prog_36_method_1_code 74 = .ok (.aload 4, 2) := by decide +kernel
theorem d8_76 : decode prog_36_method_1_code 76 = .ok (.putfield 35, 3) := by decide +kernel
theorem d8_79 : decode prog_36_method_1_code 79 = .ok (.aload_n 0, 1) := by decide +kernel
theorem d8_80 : decode prog_36_method_1_code 80 = .ok (.aload 5, 2) := by decide +kernel
theorem d8_82 : decode prog_36_method_1_code 82 = .ok (.putfield 38, 3) := by decide +kernel
theorem d8_85 : decode prog_36_method_1_code 85 = .ok (.return_, 1) := by decide +kernel
theorem pn_3 : plainName "com/example/cyclewarden/cyclewarden/core/Wait" = true := by first | (simp [plainName, overriddenIn]; done) | decide +kernel
theorem pd_1 : parseMethodDescriptor "()V" = some ⟨[], none⟩ := by decide +kernel
theorem pd_2 : parseMethodDescriptor "(Ljava/lang/Object;Ljava/lang/String;)Ljava/lang/Object;" = some ⟨[(.object "java/lang/Object"), (.object "java/lang/String")], some (.object "java/lang/Object")⟩ := by decide +kernel
theorem ef_8n45 (m : MethodId) (o0 : Addr) (o1 : Addr) (o2 : Addr) (o3 : Addr) : entryFrame m #[(.ref o0), (.ref o1), (.ref o2), (.ref o3), .null, .null] 6 = mkF m 0 #[.val (.ref o0), .val (.ref o1), .val (.ref o2), .val (.ref o3), .val .null, .val .null] [] := by first | (simp [entryFrame, mkF, argsToLocals, Value.category]; done) | rfl
set_option maxRecDepth 65536 in
set_option maxHeartbeats 40000000 in
theorem cWN (l : Launch) (Z : State) (a0 : Array Value) (hw : ∀ d ∈ tables_1, d.before a0 Z = true) (o0 : Addr) (o1 : Addr) (o2 : Addr) (o3 : Addr) (n0 : Nat) (h0 : Heap) (Z0 : n0 ≤ h0.size) (E0 : Exa Z h0 o0 "com/example/cyclewarden/cyclewarden/core/Wait") (g0 : n0 ≤ o0) (F0 : Fld Z h0 o0 "com/example/cyclewarden/cyclewarden/core/Wait" "site" "Ljava/lang/String;" .null) (F1 : Fld Z h0 o0 "com/example/cyclewarden/cyclewarden/core/Wait" "waiter" "Ljava/lang/String;" .null) (F2 : Fld Z h0 o0 "com/example/cyclewarden/cyclewarden/core/Wait" "holder" "Ljava/lang/String;" .null) (F3 : Fld Z h0 o0 "com/example/cyclewarden/cyclewarden/core/Wait" "waiterSession" "Ljava/lang/String;" .null) (F4 : Fld Z h0 o0 "com/example/cyclewarden/cyclewarden/core/Wait" "holderSession" "Ljava/lang/String;" .null) : Own.ConH l Z own_EL (⟨"com/example/cyclewarden/cyclewarden/core/Wait", "<init>", "(Ljava/lang/String;Ljava/lang/String;Ljava/lang/String;Ljava/lang/String;Ljava/lang/String;)V"⟩ : MethodName) prog_36_method_1_code 6 none ({ frames := 2, cells := 6, slots := 76, locals := 24 } : Room) #[(.ref o0), (.ref o1), (.ref o2), (.ref o3), .null, .null] h0 (fun v h L => v = none ∧ Fr n0 L ∧ Keep h0 h [o0] ∧ Exa Z h o0 "com/example/cyclewarden/cyclewarden/core/Wait" ∧ Fld Z h o0 "com/example/cyclewarden/cyclewarden/core/Wait" "waiterSession" "Ljava/lang/String;" .null ∧ Fld Z h o0 "com/example/cyclewarden/cyclewarden/core/Wait" "holderSession" "Ljava/lang/String;" .null) := by
  intro ws
  refine MetFree.of_bodySF (plainFor_of_name pn_3) hisR ?_
  intro p e s m args below meth c s₁ Bd hml0 hP hK
  obtain ⟨rfl, hZ, hh, hH⟩ := hP
  have hx := Bd.exec
  have hby := Bd.bytes
  have hml : c.maxLocals = 6 := hml0
  have hown : s.vm.findClass "com/example/cyclewarden/cyclewarden/core/Wait" = some m.cls := findClass_of_methodNamed Bd.named
  have hnm := (name_of_methodNamed Bd.named Bd.method).1
  have X0 : Stand p l e ({ frames := 2, cells := 6, slots := 76, locals := 24 } : Room) (s.setVm s.vm) m #[(.ref o0), (.ref o1), (.ref o2), (.ref o3), .null, .null] below meth c s₁ [] 0 0 := Stand.of_body Bd
  have e0 : s₁.heap = h0 := by rw [← hh, Bd.state]; rfl
  have D0 : Own.Wd s Z own_EL "com/example/cyclewarden/cyclewarden/core/Wait" m.cls s.vm h0 := by rw [← hh]; exact Own.Wd.start hZ hown (by rw [hh]; exact hH)
  have K0 : ∀ t, Steps p.tables e below (s₁.setTop (mkF m 0 #[.val (.ref o0), .val (.ref o1), .val (.ref o2), .val (.ref o3), .val .null, .val .null] [])) t → Steps p.tables e below (s₁.setTop (entryFrame m #[(.ref o0), (.ref o1), (.ref o2), (.ref o3), .null, .null] 6)) t := fun t k => castTop (ef_8n45 m o0 o1 o2 o3) k
  generalize s₁.setTop (entryFrame m #[(.ref o0), (.ref o1), (.ref o2), (.ref o3), .null, .null] 6) = B0 at K0 ⊢
  show Own.FinH p e below B0 s Z own_EL (({ frames := 2, cells := 6, slots := 76, locals := 24 } : Room)).cells (({ frames := 2, cells := 6, slots := 76, locals := 24 } : Room)).slots (fun v h L => v = none ∧ Fr n0 L ∧ Keep h0 h [o0] ∧ Exa Z h o0 "com/example/cyclewarden/cyclewarden/core/Wait" ∧ Fld Z h o0 "com/example/cyclewarden/cyclewarden/core/Wait" "waiterSession" "Ljava/lang/String;" .null ∧ Fld Z h o0 "com/example/cyclewarden/cyclewarden/core/Wait" "holderSession" "Ljava/lang/String;" .null)
  have K1 : ∀ t, Steps p.tables e below (s₁.setTop (mkF m 1 #[.val (.ref o0), .val (.ref o1), .val (.ref o2), .val (.ref o3), .val .null, .val .null] [(.ref o0)])) t → Steps p.tables e below B0 t := fun t k => K0 t (by
    refine Own.aloadN X0 hx (hb hby d8_0) rfl rfl ?_
    exact k)
  obtain ⟨T2, X2, e2, st2⟩ := Own.callIP (Ls := #[.val (.ref o0), .val (.ref o1), .val (.ref o2), .val (.ref o3), .val .null, .val .null]) X0 hx D0.hZ e0 rfl o0 [] [] (c9 l Z a0 hw o0 h0) D0.hown (hw _ (List.mem_of_getElem? (i := 39) rfl)) (hw _ (List.mem_of_getElem? (i := 40) rfl)) (hw _ (List.mem_of_getElem? (i := 42) rfl)) (hw _ (List.mem_of_getElem? (i := 43) rfl)) (by decide) 0 rfl rfl (by decide) (by decide) (by decide) (by decide) (by rw [hml]; rfl) (lenOf pd_1 rfl) rfl (Nat.le_of_eq rfl) (hb hby d8_1)
  have K3 : ∀ t, Steps p.tables e below (T2.setTop (mkF m 4 #[.val (.ref o0), .val (.ref o1), .val (.ref o2), .val (.ref o3), .val .null, .val .null] [])) t → Steps p.tables e below B0 t := fun t k => K1 t (st2 t k)
  have K4 : ∀ t, Steps p.tables e below (T2.setTop (mkF m 5 #[.val (.ref o0), .val (.ref o1), .val (.ref o2), .val (.ref o3), .val .null, .val .null] [(.ref o1)])) t → Steps p.tables e below B0 t := fun t k => K3 t (by
    refine Own.aloadN X2 hx (hb hby d8_4) rfl rfl ?_
    exact k)
  obtain ⟨vm5, T5, h5, a5, b5, k5, X5, e5, E5, D5, sf5, ex5, fv5, fc5, av5, ne5, st5⟩ := Own.ldcT (Ls := #[.val (.ref o0), .val (.ref o1), .val (.ref o2), .val (.ref o3), .val .null, .val .null]) (S := [(.ref o1)]) X2 hx (own_hEL hw) D0 e2 "site" (hw _ (List.mem_of_getElem? (i := 45) rfl)) (own_wS hw) (by decide) [(115 : Int32), (105 : Int32), (116 : Int32), (101 : Int32)] (by decide) (by rfl) 16 (by decide) (by decide) (by decide) (by decide) (by decide) (hb hby d8_5)
  have X5 : Stand p l e ({ frames := 2, cells := 6, slots := 76, locals := 24 } : Room) (s.setVm vm5) m #[(.ref o0), (.ref o1), (.ref o2), (.ref o3), .null, .null] below meth c T5 [] 2 20 := X5
  have m6 : h0.size ≤ h5.size := E5.1
  have ca5 : Own.CA Z h5 b5 .byte ([(115 : Int32), (105 : Int32), (116 : Int32), (101 : Int32)].map fun c => c.toInt8.toInt32) := ⟨k5, by simpa using av5, by simp⟩
  have K7 : ∀ t, Steps p.tables e below (T5.setTop (mkF m 7 #[.val (.ref o0), .val (.ref o1), .val (.ref o2), .val (.ref o3), .val .null, .val .null] [(.ref a5), (.ref o1)])) t → Steps p.tables e below B0 t := fun t k => K4 t (st5 t k)
  obtain ⟨T8, X8, e8, st8⟩ := Own.callP (Ls := #[.val (.ref o0), .val (.ref o1), .val (.ref o2), .val (.ref o3), .val .null, .val .null]) X5 hx D5.hZ e5 [(.ref o1), (.ref a5)] [] (c10 l Z a0 hw o1 a5  h5 ) D5.hown (hw _ (List.mem_of_getElem? (i := 48) rfl)) (hw _ (List.mem_of_getElem? (i := 49) rfl)) (hw _ (List.mem_of_getElem? (i := 50) rfl)) (hw _ (List.mem_of_getElem? (i := 51) rfl)) (by decide) 0 rfl rfl (by decide) (by decide) (by decide) (by decide) (by rw [hml]; rfl) (lenOf pd_2 rfl) rfl (Nat.le_of_eq rfl) (hb hby d8_7)
  have K9 : ∀ t, Steps p.tables e below (T8.setTop (mkF m 10 #[.val (.ref o0), .val (.ref o1), .val (.ref o2), .val (.ref o3), .val .null, .val .null] [(.ref o1)])) t → Steps p.tables e below B0 t := fun t k => K7 t (st8 t k)
  have K10 : ∀ t, Steps p.tables e below (T8.setTop (mkF m 12 #[.val (.ref o0), .val (.ref o1), .val (.ref o2), .val (.ref o3), .val .null, .val .null] [(.ref o2)])) t → Steps p.tables e below B0 t := fun t k => K9 t (by
    refine Own.pop X8 hx (hb hby d8_10) rfl ?_
    refine Own.aloadN X8 hx (hb hby d8_11) rfl rfl ?_
    exact k)
  obtain ⟨vm11, T11, h11, a11, b11, k11, X11, e11, E11, D11, sf11, ex11, fv11, fc11, av11, ne11, st11⟩ := Own.ldcT (Ls := #[.val (.ref o0), .val (.ref o1), .val (.ref o2), .val (.ref o3), .val .null, .val .null]) (S := [(.ref o2)]) X8 hx (own_hEL hw) D5 e8 "waiter" (hw _ (List.mem_of_getElem? (i := 52) rfl)) (own_wS hw) (by decide) [(119 : Int32), (97 : Int32), (105 : Int32), (116 : Int32), (101 : Int32), (114 : Int32)] (by decide) (by rfl) 24 (by decide) (by decide) (by decide) (by decide) (by decide) (hb hby d8_12)
  have X11 : Stand p l e ({ frames := 2, cells := 6, slots := 76, locals := 24 } : Room) (s.setVm vm11) m #[(.ref o0), (.ref o1), (.ref o2), (.ref o3), .null, .null] below meth c T11 [] 4 48 := X11
  have m12 : h5.size ≤ h11.size := E11.1
  have ca11 : Own.CA Z h11 b11 .byte ([(119 : Int32), (97 : Int32), (105 : Int32), (116 : Int32), (101 : Int32), (114 : Int32)].map fun c => c.toInt8.toInt32) := ⟨k11, by simpa using av11, by simp⟩
  have K13 : ∀ t, Steps p.tables e below (T11.setTop (mkF m 14 #[.val (.ref o0), .val (.ref o1), .val (.ref o2), .val (.ref o3), .val .null, .val .null] [(.ref a11), (.ref o2)])) t → Steps p.tables e below B0 t := fun t k => K10 t (st11 t k)
  obtain ⟨T14, X14, e14, st14⟩ := Own.callP (Ls := #[.val (.ref o0), .val (.ref o1), .val (.ref o2), .val (.ref o3), .val .null, .val .null]) X11 hx D11.hZ e11 [(.ref o2), (.ref a11)] [] (c10 l Z a0 hw o2 a11  h11 ) D11.hown (hw _ (List.mem_of_getElem? (i := 48) rfl)) (hw _ (List.mem_of_getElem? (i := 49) rfl)) (hw _ (List.mem_of_getElem? (i := 50) rfl)) (hw _ (List.mem_of_getElem? (i := 51) rfl)) (by decide) 0 rfl rfl (by decide) (by decide) (by decide) (by decide) (by rw [hml]; rfl) (lenOf pd_2 rfl) rfl (Nat.le_of_eq rfl) (hb hby d8_14)
  have K15 : ∀ t, Steps p.tables e below (T14.setTop (mkF m 17 #[.val (.ref o0), .val (.ref o1), .val (.ref o2), .val (.ref o3), .val .null, .val .null] [(.ref o2)])) t → Steps p.tables e below B0 t := fun t k => K13 t (st14 t k)
  have K16 : ∀ t, Steps p.tables e below (T14.setTop (mkF m 19 #[.val (.ref o0), .val (.ref o1), .val (.ref o2), .val (.ref o3), .val .null, .val .null] [(.ref o3)])) t → Steps p.tables e below B0 t := fun t k => K15 t (by
    refine Own.pop X14 hx (hb hby d8_17) rfl ?_
    refine Own.aloadN X14 hx (hb hby d8_18) rfl rfl ?_
    exact k)
  obtain ⟨vm17, T17, h17, a17, b17, k17, X17, e17, E17, D17, sf17, ex17, fv17, fc17, av17, ne17, st17⟩ := Own.ldcT (Ls := #[.val (.ref o0), .val (.ref o1), .val (.ref o2), .val (.ref o3), .val .null, .val .null]) (S := [(.ref o3)]) X14 hx (own_hEL hw) D11 e14 "holder" (hw _ (List.mem_of_getElem? (i := 53) rfl)) (own_wS hw) (by decide) [(104 : Int32), (111 : Int32), (108 : Int32), (100 : Int32), (101 : Int32), (114 : Int32)] (by decide) (by rfl) 24 (by decide) (by decide) (by decide) (by decide) (by decide) (hb hby d8_19)
  have X17 : Stand p l e ({ frames := 2, cells := 6, slots := 76, locals := 24 } : Room) (s.setVm vm17) m #[(.ref o0), (.ref o1), (.ref o2), (.ref o3), .null, .null] below meth c T17 [] 6 76 := X17
  have m18 : h11.size ≤ h17.size := E17.1
  have ca17 : Own.CA Z h17 b17 .byte ([(104 : Int32), (111 : Int32), (108 : Int32), (100 : Int32), (101 : Int32), (114 : Int32)].map fun c => c.toInt8.toInt32) := ⟨k17, by simpa using av17, by simp⟩
  have K19 : ∀ t, Steps p.tables e below (T17.setTop (mkF m 21 #[.val (.ref o0), .val (.ref o1), .val (.ref o2), .val (.ref o3), .val .null, .val .null] [(.ref a17), (.ref o3)])) t → Steps p.tables e below B0 t := fun t k => K16 t (st17 t k)
  obtain ⟨T20, X20, e20, st20⟩ := Own.callP (Ls := #[.val (.ref o0), .val (.ref o1), .val (.ref o2), .val (.ref o3), .val .null, .val .null]) X17 hx D17.hZ e17 [(.ref o3), (.ref a17)] [] (c10 l Z a0 hw o3 a17  h17 ) D17.hown (hw _ (List.mem_of_getElem? (i := 48) rfl)) (hw _ (List.mem_of_getElem? (i := 49) rfl)) (hw _ (List.mem_of_getElem? (i := 50) rfl)) (hw _ (List.mem_of_getElem? (i := 51) rfl)) (by decide) 0 rfl rfl (by decide) (by decide) (by decide) (by decide) (by rw [hml]; rfl) (lenOf pd_2 rfl) rfl (Nat.le_of_eq rfl) (hb hby d8_21)
  have K21 : ∀ t, Steps p.tables e below (T20.setTop (mkF m 24 #[.val (.ref o0), .val (.ref o1), .val (.ref o2), .val (.ref o3), .val .null, .val .null] [(.ref o3)])) t → Steps p.tables e below B0 t := fun t k => K19 t (st20 t k)
  have K22 : ∀ t, Steps p.tables e below (T20.setTop (mkF m 45 #[.val (.ref o0), .val (.ref o1), .val (.ref o2), .val (.ref o3), .val .null, .val .null] [(.int (1 : Int32)), (.int (1 : Int32))])) t → Steps p.tables e below B0 t := fun t k => K21 t (by
    refine Own.pop X20 hx (hb hby d8_24) rfl ?_
    refine Own.aload X20 hx (hb hby d8_25) rfl rfl ?_
    refine Own.ifnonnullNo X20 hx (hb hby d8_27) ?_
    refine Own.iconst X20 hx (1 : Int32) (hb hby d8_30) rfl ?_
    refine Own.goto X20 hx 35 (hb hby d8_31) (by decide) (by decide) ?_
    refine Own.aload X20 hx (hb hby d8_35) rfl rfl ?_
    refine Own.ifnonnullNo X20 hx (hb hby d8_37) ?_
    refine Own.iconst X20 hx (1 : Int32) (hb hby d8_40) rfl ?_
    refine Own.goto X20 hx 45 (hb hby d8_41) (by decide) (by decide) ?_
    exact k)
  have K23 : ∀ t, Steps p.tables e below (T20.setTop (mkF m 60 #[.val (.ref o0), .val (.ref o1), .val (.ref o2), .val (.ref o3), .val .null, .val .null] [(.ref o1), (.ref o0)])) t → Steps p.tables e below B0 t := fun t k => K22 t (by
    refine Own.icmpYes X20 hx 58 (hb hby d8_45) (teq (by decide : (1 : Int32) = (1 : Int32))).1 (by decide) (by decide) ?_
    refine Own.aloadN X20 hx (hb hby d8_58) rfl rfl ?_
    refine Own.aloadN X20 hx (hb hby d8_59) rfl rfl ?_
    exact k)
  have f24 := (((F0.ext E5).ext E11).ext E17)
  have f25 := (((E0.ext E5).ext E11).ext E17)
  obtain ⟨T26, h26, L26, X26, e26, n26, W26, F26, st26⟩ := Own.putF (Ls := #[.val (.ref o0), .val (.ref o1), .val (.ref o2), .val (.ref o3), .val .null, .val .null]) (S := []) (v := (.ref o1)) X20 hx D17.hZ e20 D17.hown (host := "") (Or.inl (hw _ (List.mem_of_getElem? (i := 54) rfl))) Via.refl f24 f25 (Or.inr ⟨(hw _ (List.mem_of_getElem? (i := 55) rfl)), rfl, hnm⟩) (hw _ (List.mem_of_getElem? (i := 31) rfl)) (ty := (.object "java/lang/String")) (by decide) rfl rfl (hb hby d8_60)
  have N26 : Fr n0 L26 := n26 n0 (Fr.nil _) g0
  have m27 : h17.size ≤ h26.size := Nat.le_of_eq W26.size.symm
  have D27 := D17.wr W26 (Safe.exa D17.hZ.alike f25 (by decide) (by decide))
  have K28 : ∀ t, Steps p.tables e below (T26.setTop (mkF m 63 #[.val (.ref o0), .val (.ref o1), .val (.ref o2), .val (.ref o3), .val .null, .val .null] [])) t → Steps p.tables e below B0 t := fun t k => K23 t (st26 t k)
  have K29 : ∀ t, Steps p.tables e below (T26.setTop (mkF m 65 #[.val (.ref o0), .val (.ref o1), .val (.ref o2), .val (.ref o3), .val .null, .val .null] [(.ref o2), (.ref o0)])) t → Steps p.tables e below B0 t := fun t k => K28 t (by
    refine Own.aloadN X26 hx (hb hby d8_63) rfl rfl ?_
    refine Own.aloadN X26 hx (hb hby d8_64) rfl rfl ?_
    exact k)
  have f30 := ((((F1.ext E5).ext E11).ext E17).other W26 (Or.inr (slot_ne (Or.inr (hw _ (List.mem_of_getElem? (i := 57) rfl))) (Or.inr (hw _ (List.mem_of_getElem? (i := 55) rfl))) (by decide) (t := (.object "java/lang/String")) (t' := (.object "java/lang/String")) (by decide) (by decide))))
  have f31 := (f25.wr W26)
  obtain ⟨T32, h32, L32, X32, e32, n32, W32, F32, st32⟩ := Own.putF (Ls := #[.val (.ref o0), .val (.ref o1), .val (.ref o2), .val (.ref o3), .val .null, .val .null]) (S := []) (v := (.ref o2)) X26 hx D27.hZ e26 D27.hown (host := "") (Or.inl (hw _ (List.mem_of_getElem? (i := 56) rfl))) Via.refl f30 f31 (Or.inr ⟨(hw _ (List.mem_of_getElem? (i := 57) rfl)), rfl, hnm⟩) (hw _ (List.mem_of_getElem? (i := 31) rfl)) (ty := (.object "java/lang/String")) (by decide) rfl rfl (hb hby d8_65)
  have N32 : Fr n0 L32 := n32 n0 N26 g0
  have m33 : h26.size ≤ h32.size := Nat.le_of_eq W32.size.symm
  have D33 := D27.wr W32 (Safe.exa D27.hZ.alike f31 (by decide) (by decide))
  have K34 : ∀ t, Steps p.tables e below (T32.setTop (mkF m 68 #[.val (.ref o0), .val (.ref o1), .val (.ref o2), .val (.ref o3), .val .null, .val .null] [])) t → Steps p.tables e below B0 t := fun t k => K29 t (st32 t k)
  have K35 : ∀ t, Steps p.tables e below (T32.setTop (mkF m 70 #[.val (.ref o0), .val (.ref o1), .val (.ref o2), .val (.ref o3), .val .null, .val .null] [(.ref o3), (.ref o0)])) t → Steps p.tables e below B0 t := fun t k => K34 t (by
    refine Own.aloadN X32 hx (hb hby d8_68) rfl rfl ?_
    refine Own.aloadN X32 hx (hb hby d8_69) rfl rfl ?_
    exact k)
  have f36 := (((((F2.ext E5).ext E11).ext E17).other W26 (Or.inr (slot_ne (Or.inr (hw _ (List.mem_of_getElem? (i := 59) rfl))) (Or.inr (hw _ (List.mem_of_getElem? (i := 55) rfl))) (by decide) (t := (.object "java/lang/String")) (t' := (.object "java/lang/String")) (by decide) (by decide)))).other W32 (Or.inr (slot_ne (Or.inr (hw _ (List.mem_of_getElem? (i := 59) rfl))) (Or.inr (hw _ (List.mem_of_getElem? (i := 57) rfl))) (by decide) (t := (.object "java/lang/String")) (t' := (.object "java/lang/String")) (by decide) (by decide))))
  have f37 := (f31.wr W32)
  obtain ⟨T38, h38, L38, X38, e38, n38, W38, F38, st38⟩ := Own.putF (Ls := #[.val (.ref o0), .val (.ref o1), .val (.ref o2), .val (.ref o3), .val .null, .val .null]) (S := []) (v := (.ref o3)) X32 hx D33.hZ e32 D33.hown (host := "") (Or.inl (hw _ (List.mem_of_getElem? (i := 58) rfl))) Via.refl f36 f37 (Or.inr ⟨(hw _ (List.mem_of_getElem? (i := 59) rfl)), rfl, hnm⟩) (hw _ (List.mem_of_getElem? (i := 31) rfl)) (ty := (.object "java/lang/String")) (by decide) rfl rfl (hb hby d8_70)
  have N38 : Fr n0 L38 := n38 n0 N32 g0
  have m39 : h32.size ≤ h38.size := Nat.le_of_eq W38.size.symm
  have D39 := D33.wr W38 (Safe.exa D33.hZ.alike f37 (by decide) (by decide))
  have K40 : ∀ t, Steps p.tables e below (T38.setTop (mkF m 73 #[.val (.ref o0), .val (.ref o1), .val (.ref o2), .val (.ref o3), .val .null, .val .null] [])) t → Steps p.tables e below B0 t := fun t k => K35 t (st38 t k)
  have K41 : ∀ t, Steps p.tables e below (T38.setTop (mkF m 76 #[.val (.ref o0), .val (.ref o1), .val (.ref o2), .val (.ref o3), .val .null, .val .null] [.null, (.ref o0)])) t → Steps p.tables e below B0 t := fun t k => K40 t (by
    refine Own.aloadN X38 hx (hb hby d8_73) rfl rfl ?_
    refine Own.aload X38 hx (hb hby d8_74) rfl rfl ?_
    exact k)
  have f42 := ((((((F3.ext E5).ext E11).ext E17).other W26 (Or.inr (slot_ne (Or.inr (hw _ (List.mem_of_getElem? (i := 61) rfl))) (Or.inr (hw _ (List.mem_of_getElem? (i := 55) rfl))) (by decide) (t := (.object "java/lang/String")) (t' := (.object "java/lang/String")) (by decide) (by decide)))).other W32 (Or.inr (slot_ne (Or.inr (hw _ (List.mem_of_getElem? (i := 61) rfl))) (Or.inr (hw _ (List.mem_of_getElem? (i := 57) rfl))) (by decide) (t := (.object "java/lang/String")) (t' := (.object "java/lang/String")) (by decide) (by decide)))).other W38 (Or.inr (slot_ne (Or.inr (hw _ (List.mem_of_getElem? (i := 61) rfl))) (Or.inr (hw _ (List.mem_of_getElem? (i := 59) rfl))) (by decide) (t := (.object "java/lang/String")) (t' := (.object "java/lang/String")) (by decide) (by decide))))
  have f43 := (f37.wr W38)
  obtain ⟨T44, h44, L44, X44, e44, n44, W44, F44, st44⟩ := Own.putF (Ls := #[.val (.ref o0), .val (.ref o1), .val (.ref o2), .val (.ref o3), .val .null, .val .null]) (S := []) (v := .null) X38 hx D39.hZ e38 D39.hown (host := "") (Or.inl (hw _ (List.mem_of_getElem? (i := 60) rfl))) Via.refl f42 f43 (Or.inr ⟨(hw _ (List.mem_of_getElem? (i := 61) rfl)), rfl, hnm⟩) (hw _ (List.mem_of_getElem? (i := 31) rfl)) (ty := (.object "java/lang/String")) (by decide) rfl rfl (hb hby d8_76)
  have N44 : Fr n0 L44 := n44 n0 N38 g0
  have m45 : h38.size ≤ h44.size := Nat.le_of_eq W44.size.symm
  have D45 := D39.wr W44 (Safe.exa D39.hZ.alike f43 (by decide) (by decide))
  have K46 : ∀ t, Steps p.tables e below (T44.setTop (mkF m 79 #[.val (.ref o0), .val (.ref o1), .val (.ref o2), .val (.ref o3), .val .null, .val .null] [])) t → Steps p.tables e below B0 t := fun t k => K41 t (st44 t k)
  have K47 : ∀ t, Steps p.tables e below (T44.setTop (mkF m 82 #[.val (.ref o0), .val (.ref o1), .val (.ref o2), .val (.ref o3), .val .null, .val .null] [.null, (.ref o0)])) t → Steps p.tables e below B0 t := fun t k => K46 t (by
    refine Own.aloadN X44 hx (hb hby d8_79) rfl rfl ?_
    refine Own.aload X44 hx (hb hby d8_80) rfl rfl ?_
    exact k)
  have f48 := (((((((F4.ext E5).ext E11).ext E17).other W26 (Or.inr (slot_ne (Or.inr (hw _ (List.mem_of_getElem? (i := 63) rfl))) (Or.inr (hw _ (List.mem_of_getElem? (i := 55) rfl))) (by decide) (t := (.object "java/lang/String")) (t' := (.object "java/lang/String")) (by decide) (by decide)))).other W32 (Or.inr (slot_ne (Or.inr (hw _ (List.mem_of_getElem? (i := 63) rfl))) (Or.inr (hw _ (List.mem_of_getElem? (i := 57) rfl))) (by decide) (t := (.object "java/lang/String")) (t' := (.object "java/lang/String")) (by decide) (by decide)))).other W38 (Or.inr (slot_ne (Or.inr (hw _ (List.mem_of_getElem? (i := 63) rfl))) (Or.inr (hw _ (List.mem_of_getElem? (i := 59) rfl))) (by decide) (t := (.object "java/lang/String")) (t' := (.object "java/lang/String")) (by decide) (by decide)))).other W44 (Or.inr (slot_ne (Or.inr (hw _ (List.mem_of_getElem? (i := 63) rfl))) (Or.inr (hw _ (List.mem_of_getElem? (i := 61) rfl))) (by decide) (t := (.object "java/lang/String")) (t' := (.object "java/lang/String")) (by decide) (by decide))))
  have f49 := (f43.wr W44)
  obtain ⟨T50, h50, L50, X50, e50, n50, W50, F50, st50⟩ := Own.putF (Ls := #[.val (.ref o0), .val (.ref o1), .val (.ref o2), .val (.ref o3), .val .null, .val .null]) (S := []) (v := .null) X44 hx D45.hZ e44 D45.hown (host := "") (Or.inl (hw _ (List.mem_of_getElem? (i := 62) rfl))) Via.refl f48 f49 (Or.inr ⟨(hw _ (List.mem_of_getElem? (i := 63) rfl)), rfl, hnm⟩) (hw _ (List.mem_of_getElem? (i := 31) rfl)) (ty := (.object "java/lang/String")) (by decide) rfl rfl (hb hby d8_82)
  have N50 : Fr n0 L50 := n50 n0 N44 g0
  have m51 : h44.size ≤ h50.size := Nat.le_of_eq W50.size.symm
  have D51 := D45.wr W50 (Safe.exa D45.hZ.alike f49 (by decide) (by decide))
  have K52 : ∀ t, Steps p.tables e below (T50.setTop (mkF m 85 #[.val (.ref o0), .val (.ref o1), .val (.ref o2), .val (.ref o3), .val .null, .val .null] [])) t → Steps p.tables e below B0 t := fun t k => K47 t (st50 t k)
  have f53 := (f49.wr W50)
  have f54 := (F44.other W50 (Or.inr (slot_ne (Or.inr (hw _ (List.mem_of_getElem? (i := 61) rfl))) (Or.inr (hw _ (List.mem_of_getElem? (i := 63) rfl))) (by decide) (t := (.object "java/lang/String")) (t' := (.object "java/lang/String")) (by decide) (by decide))))
  have kp := (((((((((Keep.refl h0 [o0]).ext E5).ext E11).ext E17).wr W26 (Or.inl (List.mem_of_getElem? (i := 0) rfl))).wr W32 (Or.inl (List.mem_of_getElem? (i := 0) rfl))).wr W38 (Or.inl (List.mem_of_getElem? (i := 0) rfl))).wr W44 (Or.inl (List.mem_of_getElem? (i := 0) rfl))).wr W50 (Or.inl (List.mem_of_getElem? (i := 0) rfl)))
  exact Own.finHV X50 hx (own_hEL hw) e50 D51 (BodyLoose.notSynchronized Bd) Bd.returns (hb hby d8_85) K52 (by decide) (by decide) (by rw [e50]; exact ⟨rfl, N50, kp, f53, f54, F50⟩)

theorem ef_8 (m : MethodId) (o0 : Addr) (o1 : Addr) (o2 : Addr) (o3 : Addr) (o4 : Addr) (o5 : Addr) : entryFrame m #[(.ref o0), (.ref o1), (.ref o2), (.ref o3), (.ref o4), (.ref o5)] 6 = mkF m 0 #[.val (.ref o0), .val (.ref o1), .val (.ref o2), .val (.ref o3), .val (.ref o4), .val (.ref o5)] [] := by first | (simp [entryFrame, mkF, argsToLocals, Value.category]; done) | rfl
set_option maxRecDepth 65536 in
set_option maxHeartbeats 40000000 in
theorem cWR (l : Launch) (Z : State) (a0 : Array Value) (hw : ∀ d ∈ tables_1, d.before a0 Z = true) (o0 : Addr) (o1 : Addr) (o2 : Addr) (o3 : Addr) (o4 : Addr) (o5 : Addr) (n0 : Nat) (h0 : Heap) (Z0 : n0 ≤ h0.size) (E0 : Exa Z h0 o0 "com/example/cyclewarden/cyclewarden/core/Wait") (g0 : n0 ≤ o0) (F0 : Fld Z h0 o0 "com/example/cyclewarden/cyclewarden/core/Wait" "site" "Ljava/lang/String;" .null) (F1 : Fld Z h0 o0 "com/example/cyclewarden/cyclewarden/core/Wait" "waiter" "Ljava/lang/String;" .null) (F2 : Fld Z h0 o0 "com/example/cyclewarden/cyclewarden/core/Wait" "holder" "Ljava/lang/String;" .null) (F3 : Fld Z h0 o0 "com/example/cyclewarden/cyclewarden/core/Wait" "waiterSession" "Ljava/lang/String;" .null) (F4 : Fld Z h0 o0 "com/example/cyclewarden/cyclewarden/core/Wait" "holderSession" "Ljava/lang/String;" .null) : Own.ConH l Z own_EL (⟨"com/example/cyclewarden/cyclewarden/core/Wait", "<init>", "(Ljava/lang/String;Ljava/lang/String;Ljava/lang/String;Ljava/lang/String;Ljava/lang/String;)V"⟩ : MethodName) prog_36_method_1_code 6 none ({ frames := 2, cells := 6, slots := 76, locals := 24 } : Room) #[(.ref o0), (.ref o1), (.ref o2), (.ref o3), (.ref o4), (.ref o5)] h0 (fun v h L => v = none ∧ Fr n0 L ∧ Keep h0 h [o0] ∧ Exa Z h o0 "com/example/cyclewarden/cyclewarden/core/Wait" ∧ Fld Z h o0 "com/example/cyclewarden/cyclewarden/core/Wait" "waiterSession" "Ljava/lang/String;" (.ref o4) ∧ Fld Z h o0 "com/example/cyclewarden/cyclewarden/core/Wait" "holderSession" "Ljava/lang/String;" (.ref o5)) := by
  intro ws
  refine MetFree.of_bodySF (plainFor_of_name pn_3) hisR ?_
  intro p e s m args below meth c s₁ Bd hml0 hP hK
  obtain ⟨rfl, hZ, hh, hH⟩ := hP
  have hx := Bd.exec
  have hby := Bd.bytes
  have hml : c.maxLocals = 6 := hml0
  have hown : s.vm.findClass "com/example/cyclewarden/cyclewarden/core/Wait" = some m.cls := findClass_of_methodNamed Bd.named
  have hnm := (name_of_methodNamed Bd.named Bd.method).1
  have X0 : Stand p l e ({ frames := 2, cells := 6, slots := 76, locals := 24 } : Room) (s.setVm s.vm) m #[(.ref o0), (.ref o1), (.ref o2), (.ref o3), (.ref o4), (.ref o5)] below meth c s₁ [] 0 0 := Stand.of_body Bd
  have e0 : s₁.heap = h0 := by rw [← hh, Bd.state]; rfl
  have D0 : Own.Wd s Z own_EL "com/example/cyclewarden/cyclewarden/core/Wait" m.cls s.vm h0 := by rw [← hh]; exact Own.Wd.start hZ hown (by rw [hh]; exact hH)
  have K0 : ∀ t, Steps p.tables e below (s₁.setTop (mkF m 0 #[.val (.ref o0), .val (.ref o1), .val (.ref o2), .val (.ref o3), .val (.ref o4), .val (.ref o5)] [])) t → Steps p.tables e below (s₁.setTop (entryFrame m #[(.ref o0), (.ref o1), (.ref o2), (.ref o3), (.ref o4), (.ref o5)] 6)) t := fun t k => castTop (ef_8 m o0 o1 o2 o3 o4 o5) k
  generalize s₁.setTop (entryFrame m #[(.ref o0), (.ref o1), (.ref o2), (.ref o3), (.ref o4), (.ref o5)] 6) = B0 at K0 ⊢
  show Own.FinH p e below B0 s Z own_EL (({ frames := 2, cells := 6, slots := 76, locals := 24 } : Room)).cells (({ frames := 2, cells := 6, slots := 76, locals := 24 } : Room)).slots (fun v h L => v = none ∧ Fr n0 L ∧ Keep h0 h [o0] ∧ Exa Z h o0 "com/example/cyclewarden/cyclewarden/core/Wait" ∧ Fld Z h o0 "com/example/cyclewarden/cyclewarden/core/Wait" "waiterSession" "Ljava/lang/String;" (.ref o4) ∧ Fld Z h o0 "com/example/cyclewarden/cyclewarden/core/Wait" "holderSession" "Ljava/lang/String;" (.ref o5))
  have K1 : ∀ t, Steps p.tables e below (s₁.setTop (mkF m 1 #[.val (.ref o0), .val (.ref o1), .val (.ref o2), .val (.ref o3), .val (.ref o4), .val (.ref o5)] [(.ref o0)])) t → Steps p.tables e below B0 t := fun t k => K0 t (by
    refine Own.aloadN X0 hx (hb hby d8_0) rfl rfl ?_
    exact k)
  obtain ⟨T2, X2, e2, st2⟩ := Own.callIP (Ls := #[.val (.ref o0), .val (.ref o1), .val (.ref o2), .val (.ref o3), .val (.ref o4), .val (.ref o5)]) X0 hx D0.hZ e0 rfl o0 [] [] (c9 l Z a0 hw o0 h0) D0.hown (hw _ (List.mem_of_getElem? (i := 39) rfl)) (hw _ (List.mem_of_getElem? (i := 40) rfl)) (hw _ (List.mem_of_getElem? (i := 42) rfl)) (hw _ (List.mem_of_getElem? (i := 43) rfl)) (by decide) 0 rfl rfl (by decide) (by decide) (by decide) (by decide) (by rw [hml]; rfl) (lenOf pd_1 rfl) rfl (Nat.le_of_eq rfl) (hb hby d8_1)
  have K3 : ∀ t, Steps p.tables e below (T2.setTop (mkF m 4 #[.val (.ref o0), .val (.ref o1), .val (.ref o2), .val (.ref o3), .val (.ref o4), .val (.ref o5)] [])) t → Steps p.tables e below B0 t := fun t k => K1 t (st2 t k)
  have K4 : ∀ t, Steps p.tables e below (T2.setTop (mkF m 5 #[.val (.ref o0), .val (.ref o1), .val (.ref o2), .val (.ref o3), .val (.ref o4), .val (.ref o5)] [(.ref o1)])) t → Steps p.tables e below B0 t := fun t k => K3 t (by
    refine Own.aloadN X2 hx (hb hby d8_4) rfl rfl ?_
    exact k)
  obtain ⟨vm5, T5, h5, a5, b5, k5, X5, e5, E5, D5, sf5, ex5, fv5, fc5, av5, ne5, st5⟩ := Own.ldcT (Ls := #[.val (.ref o0), .val (.ref o1), .val (.ref o2), .val (.ref o3), .val (.ref o4), .val (.ref o5)]) (S := [(.ref o1)]) X2 hx (own_hEL hw) D0 e2 "site" (hw _ (List.mem_of_getElem? (i := 45) rfl)) (own_wS hw) (by decide) [(115 : Int32), (105 : Int32), (116 : Int32), (101 : Int32)] (by decide) (by rfl) 16 (by decide) (by decide) (by decide) (by decide) (by decide) (hb hby d8_5)
  have X5 : Stand p l e ({ frames := 2, cells := 6, slots := 76, locals := 24 } : Room) (s.setVm vm5) m #[(.ref o0), (.ref o1), (.ref o2), (.ref o3), (.ref o4), (.ref o5)] below meth c T5 [] 2 20 := X5
  have m6 : h0.size ≤ h5.size := E5.1
  have ca5 : Own.CA Z h5 b5 .byte ([(115 : Int32), (105 : Int32), (116 : Int32), (101 : Int32)].map fun c => c.toInt8.toInt32) := ⟨k5, by simpa using av5, by simp⟩
  have K7 : ∀ t, Steps p.tables e below (T5.setTop (mkF m 7 #[.val (.ref o0), .val (.ref o1), .val (.ref o2), .val (.ref o3), .val (.ref o4), .val (.ref o5)] [(.ref a5), (.ref o1)])) t → Steps p.tables e below B0 t := fun t k => K4 t (st5 t k)
  obtain ⟨T8, X8, e8, st8⟩ := Own.callP (Ls := #[.val (.ref o0), .val (.ref o1), .val (.ref o2), .val (.ref o3), .val (.ref o4), .val (.ref o5)]) X5 hx D5.hZ e5 [(.ref o1), (.ref a5)] [] (c10 l Z a0 hw o1 a5  h5 ) D5.hown (hw _ (List.mem_of_getElem? (i := 48) rfl)) (hw _ (List.mem_of_getElem? (i := 49) rfl)) (hw _ (List.mem_of_getElem? (i := 50) rfl)) (hw _ (List.mem_of_getElem? (i := 51) rfl)) (by decide) 0 rfl rfl (by decide) (by decide) (by decide) (by decide) (by rw [hml]; rfl) (lenOf pd_2 rfl) rfl (Nat.le_of_eq rfl) (hb hby d8_7)
  have K9 : ∀ t, Steps p.tables e below (T8.setTop (mkF m 10 #[.val (.ref o0), .val (.ref o1), .val (.ref o2), .val (.ref o3), .val (.ref o4), .val (.ref o5)] [(.ref o1)])) t → Steps p.tables e below B0 t := fun t k => K7 t (st8 t k)
  have K10 : ∀ t, Steps p.tables e below (T8.setTop (mkF m 12 #[.val (.ref o0), .val (.ref o1), .val (.ref o2), .val (.ref o3), .val (.ref o4), .val (.ref o5)] [(.ref o2)])) t → Steps p.tables e below B0 t := fun t k => K9 t (by
    refine Own.pop X8 hx (hb hby d8_10) rfl ?_
    refine Own.aloadN X8 hx (hb hby d8_11) rfl rfl ?_
    exact k)
  obtain ⟨vm11, T11, h11, a11, b11, k11, X11, e11, E11, D11, sf11, ex11, fv11, fc11, av11, ne11, st11⟩ := Own.ldcT (Ls := #[.val (.ref o0), .val (.ref o1), .val (.ref o2), .val (.ref o3), .val (.ref o4), .val (.ref o5)]) (S := [(.ref o2)]) X8 hx (own_hEL hw) D5 e8 "waiter" (hw _ (List.mem_of_getElem? (i := 52) rfl)) (own_wS hw) (by decide) [(119 : Int32), (97 : Int32), (105 : Int32), (116 : Int32), (101 : Int32), (114 : Int32)] (by decide) (by rfl) 24 (by decide) (by decide) (by decide) (by decide) (by decide) (hb hby d8_12)
  have X11 : Stand p l e ({ frames := 2, cells := 6, slots := 76, locals := 24 } : Room) (s.setVm vm11) m #[(.ref o0), (.ref o1), (.ref o2), (.ref o3), (.ref o4), (.ref o5)] below meth c T11 [] 4 48 := X11
  have m12 : h5.size ≤ h11.size := E11.1
  have ca11 : Own.CA Z h11 b11 .byte ([(119 : Int32), (97 : Int32), (105 : Int32), (116 : Int32), (101 : Int32), (114 : Int32)].map fun c => c.toInt8.toInt32) := ⟨k11, by simpa using av11, by simp⟩
  have K13 : ∀ t, Steps p.tables e below (T11.setTop (mkF m 14 #[.val (.ref o0), .val (.ref o1), .val (.ref o2), .val (.ref o3), .val (.ref o4), .val (.ref o5)] [(.ref a11), (.ref o2)])) t → Steps p.tables e below B0 t := fun t k => K10 t (st11 t k)
  obtain ⟨T14, X14, e14, st14⟩ := Own.callP (Ls := #[.val (.ref o0), .val (.ref o1), .val (.ref o2), .val (.ref o3), .val (.ref o4), .val (.ref o5)]) X11 hx D11.hZ e11 [(.ref o2), (.ref a11)] [] (c10 l Z a0 hw o2 a11  h11 ) D11.hown (hw _ (List.mem_of_getElem? (i := 48) rfl)) (hw _ (List.mem_of_getElem? (i := 49) rfl)) (hw _ (List.mem_of_getElem? (i := 50) rfl)) (hw _ (List.mem_of_getElem? (i := 51) rfl)) (by decide) 0 rfl rfl (by decide) (by decide) (by decide) (by decide) (by rw [hml]; rfl) (lenOf pd_2 rfl) rfl (Nat.le_of_eq rfl) (hb hby d8_14)
  have K15 : ∀ t, Steps p.tables e below (T14.setTop (mkF m 17 #[.val (.ref o0), .val (.ref o1), .val (.ref o2), .val (.ref o3), .val (.ref o4), .val (.ref o5)] [(.ref o2)])) t → Steps p.tables e below B0 t := fun t k => K13 t (st14 t k)
  have K16 : ∀ t, Steps p.tables e below (T14.setTop (mkF m 19 #[.val (.ref o0), .val (.ref o1), .val (.ref o2), .val (.ref o3), .val (.ref o4), .val (.ref o5)] [(.ref o3)])) t → Steps p.tables e below B0 t := fun t k => K15 t (by
    refine Own.pop X14 hx (hb hby d8_17) rfl ?_
    refine Own.aloadN X14 hx (hb hby d8_18) rfl rfl ?_
    exact k)
  obtain ⟨vm17, T17, h17, a17, b17, k17, X17, e17, E17, D17, sf17, ex17, fv17, fc17, av17, ne17, st17⟩ := Own.ldcT (Ls := #[.val (.ref o0), .val (.ref o1), .val (.ref o2), .val (.ref o3), .val (.ref o4), .val (.ref o5)]) (S := [(.ref o3)]) X14 hx (own_hEL hw) D11 e14 "holder" (hw _ (List.mem_of_getElem? (i := 53) rfl)) (own_wS hw) (by decide) [(104 : Int32), (111 : Int32), (108 : Int32), (100 : Int32), (101 : Int32), (114 : Int32)] (by decide) (by rfl) 24 (by decide) (by decide) (by decide) (by decide) (by decide) (hb hby d8_19)
  have X17 : Stand p l e ({ frames := 2, cells := 6, slots := 76, locals := 24 } : Room) (s.setVm vm17) m #[(.ref o0), (.ref o1), (.ref o2), (.ref o3), (.ref o4), (.ref o5)] below meth c T17 [] 6 76 := X17
  have m18 : h11.size ≤ h17.size := E17.1
  have ca17 : Own.CA Z h17 b17 .byte ([(104 : Int32), (111 : Int32), (108 : Int32), (100 : Int32), (101 : Int32), (114 : Int32)].map fun c => c.toInt8.toInt32) := ⟨k17, by simpa using av17, by simp⟩
  have K19 : ∀ t, Steps p.tables e below (T17.setTop (mkF m 21 #[.val (.ref o0), .val (.ref o1), .val (.ref o2), .val (.ref o3), .val (.ref o4), .val (.ref o5)] [(.ref a17), (.ref o3)])) t → Steps p.tables e below B0 t := fun t k => K16 t (st17 t k)
  obtain ⟨T20, X20, e20, st20⟩ := Own.callP (Ls := #[.val (.ref o0), .val (.ref o1), .val (.ref o2), .val (.ref o3), .val (.ref o4), .val (.ref o5)]) X17 hx D17.hZ e17 [(.ref o3), (.ref a17)] [] (c10 l Z a0 hw o3 a17  h17 ) D17.hown (hw _ (List.mem_of_getElem? (i := 48) rfl)) (hw _ (List.mem_of_getElem? (i := 49) rfl)) (hw _ (List.mem_of_getElem? (i := 50) rfl)) (hw _ (List.mem_of_getElem? (i := 51) rfl)) (by decide) 0 rfl rfl (by decide) (by decide) (by decide) (by decide) (by rw [hml]; rfl) (lenOf pd_2 rfl) rfl (Nat.le_of_eq rfl) (hb hby d8_21)
  have K21 : ∀ t, Steps p.tables e below (T20.setTop (mkF m 24 #[.val (.ref o0), .val (.ref o1), .val (.ref o2), .val (.ref o3), .val (.ref o4), .val (.ref o5)] [(.ref o3)])) t → Steps p.tables e below B0 t := fun t k => K19 t (st20 t k)
  have K22 : ∀ t, Steps p.tables e below (T20.setTop (mkF m 45 #[.val (.ref o0), .val (.ref o1), .val (.ref o2), .val (.ref o3), .val (.ref o4), .val (.ref o5)] [(.int (0 : Int32)), (.int (0 : Int32))])) t → Steps p.tables e below B0 t := fun t k => K21 t (by
    refine Own.pop X20 hx (hb hby d8_24) rfl ?_
    refine Own.aload X20 hx (hb hby d8_25) rfl rfl ?_
    refine Own.ifnonnullYes X20 hx 34 (hb hby d8_27) (by decide) (by decide) ?_
    refine Own.iconst X20 hx (0 : Int32) (hb hby d8_34) rfl ?_
    refine Own.aload X20 hx (hb hby d8_35) rfl rfl ?_
    refine Own.ifnonnullYes X20 hx 44 (hb hby d8_37) (by decide) (by decide) ?_
    refine Own.iconst X20 hx (0 : Int32) (hb hby d8_44) rfl ?_
    exact k)
  have K23 : ∀ t, Steps p.tables e below (T20.setTop (mkF m 60 #[.val (.ref o0), .val (.ref o1), .val (.ref o2), .val (.ref o3), .val (.ref o4), .val (.ref o5)] [(.ref o1), (.ref o0)])) t → Steps p.tables e below B0 t := fun t k => K22 t (by
    refine Own.icmpYes X20 hx 58 (hb hby d8_45) (teq (by decide : (0 : Int32) = (0 : Int32))).1 (by decide) (by decide) ?_
    refine Own.aloadN X20 hx (hb hby d8_58) rfl rfl ?_
    refine Own.aloadN X20 hx (hb hby d8_59) rfl rfl ?_
    exact k)
  have f24 := (((F0.ext E5).ext E11).ext E17)
  have f25 := (((E0.ext E5).ext E11).ext E17)
  obtain ⟨T26, h26, L26, X26, e26, n26, W26, F26, st26⟩ := Own.putF (Ls := #[.val (.ref o0), .val (.ref o1), .val (.ref o2), .val (.ref o3), .val (.ref o4), .val (.ref o5)]) (S := []) (v := (.ref o1)) X20 hx D17.hZ e20 D17.hown (host := "") (Or.inl (hw _ (List.mem_of_getElem? (i := 54) rfl))) Via.refl f24 f25 (Or.inr ⟨(hw _ (List.mem_of_getElem? (i := 55) rfl)), rfl, hnm⟩) (hw _ (List.mem_of_getElem? (i := 31) rfl)) (ty := (.object "java/lang/String")) (by decide) rfl rfl (hb hby d8_60)
  have N26 : Fr n0 L26 := n26 n0 (Fr.nil _) g0
  have m27 : h17.size ≤ h26.size := Nat.le_of_eq W26.size.symm
  have D27 := D17.wr W26 (Safe.exa D17.hZ.alike f25 (by decide) (by decide))
  have K28 : ∀ t, Steps p.tables e below (T26.setTop (mkF m 63 #[.val (.ref o0), .val (.ref o1), .val (.ref o2), .val (.ref o3), .val (.ref o4), .val (.ref o5)] [])) t → Steps p.tables e below B0 t := fun t k => K23 t (st26 t k)
  have K29 : ∀ t, Steps p.tables e below (T26.setTop (mkF m 65 #[.val (.ref o0), .val (.ref o1), .val (.ref o2), .val (.ref o3), .val (.ref o4), .val (.ref o5)] [(.ref o2), (.ref o0)])) t → Steps p.tables e below B0 t := fun t k => K28 t (by
    refine Own.aloadN X26 hx (hb hby d8_63) rfl rfl ?_
    refine Own.aloadN X26 hx (hb hby d8_64) rfl rfl ?_
    exact k)
  have f30 := ((((F1.ext E5).ext E11).ext E17).other W26 (Or.inr (slot_ne (Or.inr (hw _ (List.mem_of_getElem? (i := 57) rfl))) (Or.inr (hw _ (List.mem_of_getElem? (i := 55) rfl))) (by decide) (t := (.object "java/lang/String")) (t' := (.object "java/lang/String")) (by decide) (by decide))))
  have f31 := (f25.wr W26)
  obtain ⟨T32, h32, L32, X32, e32, n32, W32, F32, st32⟩ := Own.putF (Ls := #[.val (.ref o0), .val (.ref o1), .val (.ref o2), .val (.ref o3), .val (.ref o4), .val (.ref o5)]) (S := []) (v := (.ref o2)) X26 hx D27.hZ e26 D27.hown (host := "") (Or.inl (hw _ (List.mem_of_getElem? (i := 56) rfl))) Via.refl f30 f31 (Or.inr ⟨(hw _ (List.mem_of_getElem? (i := 57) rfl)), rfl, hnm⟩) (hw _ (List.mem_of_getElem? (i := 31) rfl)) (ty := (.object "java/lang/String")) (by decide) rfl rfl (hb hby d8_65)
  have N32 : Fr n0 L32 := n32 n0 N26 g0
  have m33 : h26.size ≤ h32.size := Nat.le_of_eq W32.size.symm
  have D33 := D27.wr W32 (Safe.exa D27.hZ.alike f31 (by decide) (by decide))
  have K34 : ∀ t, Steps p.tables e below (T32.setTop (mkF m 68 #[.val (.ref o0), .val (.ref o1), .val (.ref o2), .val (.ref o3), .val (.ref o4), .val (.ref o5)] [])) t → Steps p.tables e below B0 t := fun t k => K29 t (st32 t k)
  have K35 : ∀ t, Steps p.tables e below (T32.setTop (mkF m 70 #[.val (.ref o0), .val (.ref o1), .val (.ref o2), .val (.ref o3), .val (.ref o4), .val (.ref o5)] [(.ref o3), (.ref o0)])) t → Steps p.tables e below B0 t := fun t k => K34 t (by
    refine Own.aloadN X32 hx (hb hby d8_68) rfl rfl ?_
    refine Own.aloadN X32 hx (hb hby d8_69) rfl rfl ?_
    exact k)
  have f36 := (((((F2.ext E5).ext E11).ext E17).other W26 (Or.inr (slot_ne (Or.inr (hw _ (List.mem_of_getElem? (i := 59) rfl))) (Or.inr (hw _ (List.mem_of_getElem? (i := 55) rfl))) (by decide) (t := (.object "java/lang/String")) (t' := (.object "java/lang/String")) (by decide) (by decide)))).other W32 (Or.inr (slot_ne (Or.inr (hw _ (List.mem_of_getElem? (i := 59) rfl))) (Or.inr (hw _ (List.mem_of_getElem? (i := 57) rfl))) (by decide) (t := (.object "java/lang/String")) (t' := (.object "java/lang/String")) (by decide) (by decide))))
  have f37 := (f31.wr W32)
  obtain ⟨T38, h38, L38, X38, e38, n38, W38, F38, st38⟩ := Own.putF (Ls := #[.val (.ref o0), .val (.ref o1), .val (.ref o2), .val (.ref o3), .val (.ref o4), .val (.ref o5)]) (S := []) (v := (.ref o3)) X32 hx D33.hZ e32 D33.hown (host := "") (Or.inl (hw _ (List.mem_of_getElem? (i := 58) rfl))) Via.refl f36 f37 (Or.inr ⟨(hw _ (List.mem_of_getElem? (i := 59) rfl)), rfl, hnm⟩) (hw _ (List.mem_of_getElem? (i := 31) rfl)) (ty := (.object "java/lang/String")) (by decide) rfl rfl (hb hby d8_70)
  have N38 : Fr n0 L38 := n38 n0 N32 g0
  have m39 : h32.size ≤ h38.size := Nat.le_of_eq W38.size.symm
  have D39 := D33.wr W38 (Safe.exa D33.hZ.alike f37 (by decide) (by decide))
  have K40 : ∀ t, Steps p.tables e below (T38.setTop (mkF m 73 #[.val (.ref o0), .val (.ref o1), .val (.ref o2), .val (.ref o3), .val (.ref o4), .val (.ref o5)] [])) t → Steps p.tables e below B0 t := fun t k => K35 t (st38 t k)
  have K41 : ∀ t, Steps p.tables e below (T38.setTop (mkF m 76 #[.val (.ref o0), .val (.ref o1), .val (.ref o2), .val (.ref o3), .val (.ref o4), .val (.ref o5)] [(.ref o4), (.ref o0)])) t → Steps p.tables e below B0 t := fun t k => K40 t (by
    refine Own.aloadN X38 hx (hb hby d8_73) rfl rfl ?_
    refine Own.aload X38 hx (hb hby d8_74) rfl rfl ?_
    exact k)
  have f42 := ((((((F3.ext E5).ext E11).ext E17).other W26 (Or.inr (slot_ne (Or.inr (hw _ (List.mem_of_getElem? (i := 61) rfl))) (Or.inr (hw _ (List.mem_of_getElem? (i := 55) rfl))) (by decide) (t := (.object "java/lang/String")) (t' := (.object "java/lang/String")) (by decide) (by decide)))).other W32 (Or.inr (slot_ne (Or.inr (hw _ (List.mem_of_getElem? (i := 61) rfl))) (Or.inr (hw _ (List.mem_of_getElem? (i := 57) rfl))) (by decide) (t := (.object "java/lang/String")) (t' := (.object "java/lang/String")) (by decide) (by decide)))).other W38 (Or.inr (slot_ne (Or.inr (hw _ (List.mem_of_getElem? (i := 61) rfl))) (Or.inr (hw _ (List.mem_of_getElem? (i := 59) rfl))) (by decide) (t := (.object "java/lang/String")) (t' := (.object "java/lang/String")) (by decide) (by decide))))
  have f43 := (f37.wr W38)
  obtain ⟨T44, h44, L44, X44, e44, n44, W44, F44, st44⟩ := Own.putF (Ls := #[.val (.ref o0), .val (.ref o1), .val (.ref o2), .val (.ref o3), .val (.ref o4), .val (.ref o5)]) (S := []) (v := (.ref o4)) X38 hx D39.hZ e38 D39.hown (host := "") (Or.inl (hw _ (List.mem_of_getElem? (i := 60) rfl))) Via.refl f42 f43 (Or.inr ⟨(hw _ (List.mem_of_getElem? (i := 61) rfl)), rfl, hnm⟩) (hw _ (List.mem_of_getElem? (i := 31) rfl)) (ty := (.object "java/lang/String")) (by decide) rfl rfl (hb hby d8_76)
  have N44 : Fr n0 L44 := n44 n0 N38 g0
  have m45 : h38.size ≤ h44.size := Nat.le_of_eq W44.size.symm
  have D45 := D39.wr W44 (Safe.exa D39.hZ.alike f43 (by decide) (by decide))
  have K46 : ∀ t, Steps p.tables e below (T44.setTop (mkF m 79 #[.val (.ref o0), .val (.ref o1), .val (.ref o2), .val (.ref o3), .val (.ref o4), .val (.ref o5)] [])) t → Steps p.tables e below B0 t := fun t k => K41 t (st44 t k)
  have K47 : ∀ t, Steps p.tables e below (T44.setTop (mkF m 82 #[.val (.ref o0), .val (.ref o1), .val (.ref o2), .val (.ref o3), .val (.ref o4), .val (.ref o5)] [(.ref o5), (.ref o0)])) t → Steps p.tables e below B0 t := fun t k => K46 t (by
    refine Own.aloadN X44 hx (hb hby d8_79) rfl rfl ?_
    refine Own.aload X44 hx (hb hby d8_80) rfl rfl ?_
    exact k)
  have f48 := (((((((F4.ext E5).ext E11).ext E17).other W26 (Or.inr (slot_ne (Or.inr (hw _ (List.mem_of_getElem? (i := 63) rfl))) (Or.inr (hw _ (List.mem_of_getElem? (i := 55) rfl))) (by decide) (t := (.object "java/lang/String")) (t' := (.object "java/lang/String")) (by decide) (by decide)))).other W32 (Or.inr (slot_ne (Or.inr (hw _ (List.mem_of_getElem? (i := 63) rfl))) (Or.inr (hw _ (List.mem_of_getElem? (i := 57) rfl))) (by decide) (t := (.object "java/lang/String")) (t' := (.object "java/lang/String")) (by decide) (by decide)))).other W38 (Or.inr (slot_ne (Or.inr (hw _ (List.mem_of_getElem? (i := 63) rfl))) (Or.inr (hw _ (List.mem_of_getElem? (i := 59) rfl))) (by decide) (t := (.object "java/lang/String")) (t' := (.object "java/lang/String")) (by decide) (by decide)))).other W44 (Or.inr (slot_ne (Or.inr (hw _ (List.mem_of_getElem? (i := 63) rfl))) (Or.inr (hw _ (List.mem_of_getElem? (i := 61) rfl))) (by decide) (t := (.object "java/lang/String")) (t' := (.object "java/lang/String")) (by decide) (by decide))))
  have f49 := (f43.wr W44)
  obtain ⟨T50, h50, L50, X50, e50, n50, W50, F50, st50⟩ := Own.putF (Ls := #[.val (.ref o0), .val (.ref o1), .val (.ref o2), .val (.ref o3), .val (.ref o4), .val (.ref o5)]) (S := []) (v := (.ref o5)) X44 hx D45.hZ e44 D45.hown (host := "") (Or.inl (hw _ (List.mem_of_getElem? (i := 62) rfl))) Via.refl f48 f49 (Or.inr ⟨(hw _ (List.mem_of_getElem? (i := 63) rfl)), rfl, hnm⟩) (hw _ (List.mem_of_getElem? (i := 31) rfl)) (ty := (.object "java/lang/String")) (by decide) rfl rfl (hb hby d8_82)
  have N50 : Fr n0 L50 := n50 n0 N44 g0
  have m51 : h44.size ≤ h50.size := Nat.le_of_eq W50.size.symm
  have D51 := D45.wr W50 (Safe.exa D45.hZ.alike f49 (by decide) (by decide))
  have K52 : ∀ t, Steps p.tables e below (T50.setTop (mkF m 85 #[.val (.ref o0), .val (.ref o1), .val (.ref o2), .val (.ref o3), .val (.ref o4), .val (.ref o5)] [])) t → Steps p.tables e below B0 t := fun t k => K47 t (st50 t k)
  have f53 := (f49.wr W50)
  have f54 := (F44.other W50 (Or.inr (slot_ne (Or.inr (hw _ (List.mem_of_getElem? (i := 61) rfl))) (Or.inr (hw _ (List.mem_of_getElem? (i := 63) rfl))) (by decide) (t := (.object "java/lang/String")) (t' := (.object "java/lang/String")) (by decide) (by decide))))
  have kp := (((((((((Keep.refl h0 [o0]).ext E5).ext E11).ext E17).wr W26 (Or.inl (List.mem_of_getElem? (i := 0) rfl))).wr W32 (Or.inl (List.mem_of_getElem? (i := 0) rfl))).wr W38 (Or.inl (List.mem_of_getElem? (i := 0) rfl))).wr W44 (Or.inl (List.mem_of_getElem? (i := 0) rfl))).wr W50 (Or.inl (List.mem_of_getElem? (i := 0) rfl)))
  exact Own.finHV X50 hx (own_hEL hw) e50 D51 (BodyLoose.notSynchronized Bd) Bd.returns (hb hby d8_85) K52 (by decide) (by decide) (by rw [e50]; exact ⟨rfl, N50, kp, f53, f54, F50⟩)

theorem d7_0 : decode prog_36_method_2_code 0 = .ok (.aload_n 0, 1) := by decide +kernel
theorem d7_1 : decode prog_36_method_2_code 1 = .ok (.aload_n 1, 1) := by decide +kernel
theorem d7_2 : decode prog_36_method_2_code 2 = .ok (.aload_n 2, 1) := by decide +kernel
theorem d7_3 : decode prog_36_method_2_code 3 = .ok (.aload_n 3, 1) := by decide +kernel
theorem d7_4 : decode prog_36_method_2_code 4 = .ok (.aconst_null, 1) := by decide +kernel
theorem d7_5 : decode prog_36_method_2_code 5 = .ok (.aconst_null, 1) := by decide +kernel
theorem d7_6 : decode prog_36_method_2_code 6 = .ok (.invokespecial 41, 3) := by decide +kernel
theorem d7_9 : decode prog_36_method_2_code 9 = .ok (.return_, 1) := by decide +kernel
theorem pd_3 : parseMethodDescriptor "(Ljava/lang/String;Ljava/lang/String;Ljava/lang/String;Ljava/lang/String;Ljava/lang/String;)V" = some ⟨[(.object "java/lang/String"), (.object "java/lang/String"), (.object "java/lang/String"), (.object "java/lang/String"), (.object "java/lang/String")], none⟩ := by decide +kernel
theorem ef_7 (m : MethodId) (o0 : Addr) (o1 : Addr) (o2 : Addr) (o3 : Addr) : entryFrame m #[(.ref o0), (.ref o1), (.ref o2), (.ref o3)] 4 = mkF m 0 #[.val (.ref o0), .val (.ref o1), .val (.ref o2), .val (.ref o3)] [] := by first | (simp [entryFrame, mkF, argsToLocals, Value.category]; done) | rfl
set_option maxRecDepth 65536 in
set_option maxHeartbeats 40000000 in
theorem cW3 (l : Launch) (Z : State) (a0 : Array Value) (hw : ∀ d ∈ tables_1, d.before a0 Z = true) (o0 : Addr) (o1 : Addr) (o2 : Addr) (o3 : Addr) (n0 : Nat) (h0 : Heap) (Z0 : n0 ≤ h0.size) (E0 : Exa Z h0 o0 "com/example/cyclewarden/cyclewarden/core/Wait") (g0 : n0 ≤ o0) (F0 : Fld Z h0 o0 "com/example/cyclewarden/cyclewarden/core/Wait" "site" "Ljava/lang/String;" .null) (F1 : Fld Z h0 o0 "com/example/cyclewarden/cyclewarden/core/Wait" "waiter" "Ljava/lang/String;" .null) (F2 : Fld Z h0 o0 "com/example/cyclewarden/cyclewarden/core/Wait" "holder" "Ljava/lang/String;" .null) (F3 : Fld Z h0 o0 "com/example/cyclewarden/cyclewarden/core/Wait" "waiterSession" "Ljava/lang/String;" .null) (F4 : Fld Z h0 o0 "com/example/cyclewarden/cyclewarden/core/Wait" "holderSession" "Ljava/lang/String;" .null) : Own.ConH l Z own_EL (⟨"com/example/cyclewarden/cyclewarden/core/Wait", "<init>", "(Ljava/lang/String;Ljava/lang/String;Ljava/lang/String;)V"⟩ : MethodName) prog_36_method_2_code 4 none ({ frames := 3, cells := 6, slots := 76, locals := 41 } : Room) #[(.ref o0), (.ref o1), (.ref o2), (.ref o3)] h0 (fun v h L => v = none ∧ Fr n0 L ∧ Keep h0 h [o0] ∧ Exa Z h o0 "com/example/cyclewarden/cyclewarden/core/Wait" ∧ Fld Z h o0 "com/example/cyclewarden/cyclewarden/core/Wait" "waiterSession" "Ljava/lang/String;" .null ∧ Fld Z h o0 "com/example/cyclewarden/cyclewarden/core/Wait" "holderSession" "Ljava/lang/String;" .null) := by
  intro ws
  refine MetFree.of_bodySF (plainFor_of_name pn_3) hisR ?_
  intro p e s m args below meth c s₁ Bd hml0 hP hK
  obtain ⟨rfl, hZ, hh, hH⟩ := hP
  have hx := Bd.exec
  have hby := Bd.bytes
  have hml : c.maxLocals = 4 := hml0
  have hown : s.vm.findClass "com/example/cyclewarden/cyclewarden/core/Wait" = some m.cls := findClass_of_methodNamed Bd.named
  have hnm := (name_of_methodNamed Bd.named Bd.method).1
  have X0 : Stand p l e ({ frames := 3, cells := 6, slots := 76, locals := 41 } : Room) (s.setVm s.vm) m #[(.ref o0), (.ref o1), (.ref o2), (.ref o3)] below meth c s₁ [] 0 0 := Stand.of_body Bd
  have e0 : s₁.heap = h0 := by rw [← hh, Bd.state]; rfl
  have D0 : Own.Wd s Z own_EL "com/example/cyclewarden/cyclewarden/core/Wait" m.cls s.vm h0 := by rw [← hh]; exact Own.Wd.start hZ hown (by rw [hh]; exact hH)
  have K0 : ∀ t, Steps p.tables e below (s₁.setTop (mkF m 0 #[.val (.ref o0), .val (.ref o1), .val (.ref o2), .val (.ref o3)] [])) t → Steps p.tables e below (s₁.setTop (entryFrame m #[(.ref o0), (.ref o1), (.ref o2), (.ref o3)] 4)) t := fun t k => castTop (ef_7 m o0 o1 o2 o3) k
  generalize s₁.setTop (entryFrame m #[(.ref o0), (.ref o1), (.ref o2), (.ref o3)] 4) = B0 at K0 ⊢
  show Own.FinH p e below B0 s Z own_EL (({ frames := 3, cells := 6, slots := 76, locals := 41 } : Room)).cells (({ frames := 3, cells := 6, slots := 76, locals := 41 } : Room)).slots (fun v h L => v = none ∧ Fr n0 L ∧ Keep h0 h [o0] ∧ Exa Z h o0 "com/example/cyclewarden/cyclewarden/core/Wait" ∧ Fld Z h o0 "com/example/cyclewarden/cyclewarden/core/Wait" "waiterSession" "Ljava/lang/String;" .null ∧ Fld Z h o0 "com/example/cyclewarden/cyclewarden/core/Wait" "holderSession" "Ljava/lang/String;" .null)
  have K1 : ∀ t, Steps p.tables e below (s₁.setTop (mkF m 6 #[.val (.ref o0), .val (.ref o1), .val (.ref o2), .val (.ref o3)] [.null, .null, (.ref o3), (.ref o2), (.ref o1), (.ref o0)])) t → Steps p.tables e below B0 t := fun t k => K0 t (by
    refine Own.aloadN X0 hx (hb hby d7_0) rfl rfl ?_
    refine Own.aloadN X0 hx (hb hby d7_1) rfl rfl ?_
    refine Own.aloadN X0 hx (hb hby d7_2) rfl rfl ?_
    refine Own.aloadN X0 hx (hb hby d7_3) rfl rfl ?_
    refine Own.aconstNull X0 hx (hb hby d7_4) ?_
    refine Own.aconstNull X0 hx (hb hby d7_5) ?_
    exact k)
  obtain ⟨vm2, T2, h2, v2, J2, L2, X2, e2, D2, mm2, n2, hQ2, st2⟩ := Own.callIW (Ls := #[.val (.ref o0), .val (.ref o1), .val (.ref o2), .val (.ref o3)]) X0 hx (own_hEL hw) D0 e0 rfl o0 [(.ref o1), (.ref o2), (.ref o3), .null, .null] [] (cWN l Z a0 hw o0 o1 o2 o3 n0 h0 (Nat.le_trans Z0 (Nat.le_refl _)) E0 g0 F0 F1 F2 F3 F4) (hw _ (List.mem_of_getElem? (i := 36) rfl)) (hw _ (List.mem_of_getElem? (i := 37) rfl)) (hw _ (List.mem_of_getElem? (i := 32) rfl)) (hw _ (List.mem_of_getElem? (i := 38) rfl)) (by decide) 0 (by decide) (by decide) (by decide) (by decide) (by rw [hml]; rfl) (lenOf pd_3 rfl) rfl (Nat.le_of_eq rfl) (hb hby d7_6)
  have X2 : Stand p l e ({ frames := 3, cells := 6, slots := 76, locals := 41 } : Room) (s.setVm vm2) m #[(.ref o0), (.ref o1), (.ref o2), (.ref o3)] below meth c T2 L2 6 76 := X2
  obtain ⟨rfl, NN2, K2, E2, F2, G2⟩ := hQ2
  have N2 : Fr n0 L2 := n2 n0 (Fr.nil _) NN2
  have m3 : h0.size ≤ h2.size := K2.1
  have K4 : ∀ t, Steps p.tables e below (T2.setTop (mkF m 9 #[.val (.ref o0), .val (.ref o1), .val (.ref o2), .val (.ref o3)] [])) t → Steps p.tables e below B0 t := fun t k => K1 t (st2 t k)
  have kp := ((Keep.refl h0 [o0]).trans K2 (allS (Or.inl (List.mem_of_getElem? (i := 0) rfl)) all0))
  exact Own.finHV X2 hx (own_hEL hw) e2 D2 (BodyLoose.notSynchronized Bd) Bd.returns (hb hby d7_9) K4 (by decide) (by decide) (by rw [e2]; exact ⟨rfl, N2, kp, E2, F2, G2⟩)

theorem d11_0 : decode prog_36_method_3_code 0 = .ok (.aload_n 0, 1) := by decide +kernel
theorem d11_1 : decode prog_36_method_3_code 1 = .ok (.getfield 35, 3) := by decide +kernel
theorem d11_4 : decode prog_36_method_3_code 4 = .ok (.ifnull 7, 3) := by decide +kernel
theorem d11_7 : decode prog_36_method_3_code 7 = .ok (.iconst 1, 1) := by decide +kernel
theorem d11_8 : decode prog_36_method_3_code 8 = .ok (.goto 4, 3) := by decide +kernel
theorem d11_11 : decode prog_36_method_3_code 11 = .ok (.iconst 0, 1) := by decide +kernel
theorem d11_12 : decode prog_36_method_3_code 12 = .ok (.ireturn, 1) := by decide +kernel
theorem ef_11 (m : MethodId) (o0 : Addr) : entryFrame m #[(.ref o0)] 1 = mkF m 0 #[.val (.ref o0)] [] := by first | (simp [entryFrame, mkF, argsToLocals, Value.category]; done) | rfl
set_option maxRecDepth 65536 in
set_option maxHeartbeats 40000000 in
theorem cNSN (l : Launch) (Z : State) (a0 : Array Value) (hw : ∀ d ∈ tables_1, d.before a0 Z = true) (o0 : Addr) (h0 : Heap) (F0 : Fld Z h0 o0 "com/example/cyclewarden/cyclewarden/core/Wait" "waiterSession" "Ljava/lang/String;" .null) : Own.Con l Z (⟨"com/example/cyclewarden/cyclewarden/core/Wait", "namesSessions", "()Z"⟩ : MethodName) prog_36_method_3_code 1 (some .boolean) ({ frames := 0, cells := 0, slots := 0, locals := 0 } : Room) #[(.ref o0)] h0 (Own.Pure (.int 0) h0) := by
  intro ws
  refine MetFree.of_bodySF (plainFor_of_name pn_3) hisR ?_
  intro p e s m args below meth c s₁ Bd hml0 hP hK
  obtain ⟨rfl, hZ, hh⟩ := hP
  have hx := Bd.exec
  have hby := Bd.bytes
  have hml : c.maxLocals = 1 := hml0
  have hown : s.vm.findClass "com/example/cyclewarden/cyclewarden/core/Wait" = some m.cls := findClass_of_methodNamed Bd.named
  have hnm := (name_of_methodNamed Bd.named Bd.method).1
  have X0 : Stand p l e ({ frames := 0, cells := 0, slots := 0, locals := 0 } : Room) s m #[(.ref o0)] below meth c s₁ [] 0 0 := Stand.of_body Bd
  have e0 : s₁.heap = h0 := by rw [← hh, Bd.state]; rfl
  have K0 : ∀ t, Steps p.tables e below (s₁.setTop (mkF m 0 #[.val (.ref o0)] [])) t → Steps p.tables e below (s₁.setTop (entryFrame m #[(.ref o0)] 1)) t := fun t k => castTop (ef_11 m o0) k
  generalize s₁.setTop (entryFrame m #[(.ref o0)] 1) = B0 at K0 ⊢
  show Own.Fin p e below B0 s (({ frames := 0, cells := 0, slots := 0, locals := 0 } : Room)).cells (({ frames := 0, cells := 0, slots := 0, locals := 0 } : Room)).slots (Own.Pure (.int 0) h0)
  have K1 : ∀ t, Steps p.tables e below (s₁.setTop (mkF m 1 #[.val (.ref o0)] [(.ref o0)])) t → Steps p.tables e below B0 t := fun t k => K0 t (by
    refine Own.aloadN X0 hx (hb hby d11_0) rfl rfl ?_
    exact k)
  obtain ⟨T2, X2, e2, st2⟩ := Own.getF (Ls := #[.val (.ref o0)]) X0 hx hZ e0 hown (host := "") (Or.inl (hw _ (List.mem_of_getElem? (i := 60) rfl))) Via.refl F0 (S := []) (hb hby d11_1)
  have K3 : ∀ t, Steps p.tables e below (T2.setTop (mkF m 4 #[.val (.ref o0)] [.null])) t → Steps p.tables e below B0 t := fun t k => K1 t (st2 t k)
  have K4 : ∀ t, Steps p.tables e below (T2.setTop (mkF m 12 #[.val (.ref o0)] [(.int (0 : Int32))])) t → Steps p.tables e below B0 t := fun t k => K3 t (by
    refine Own.ifnullYes X2 hx 11 (hb hby d11_4) (by decide) (by decide) ?_
    refine Own.iconst X2 hx (0 : Int32) (hb hby d11_11) rfl ?_
    exact k)
  exact Own.finN X2 hx (BodyLoose.notSynchronized Bd) Bd.returns (by simp) (hb hby d11_12) K4 (by decide) (by decide) ⟨rfl, rfl, e2⟩

set_option maxRecDepth 65536 in
set_option maxHeartbeats 40000000 in
theorem cNSR (l : Launch) (Z : State) (a0 : Array Value) (hw : ∀ d ∈ tables_1, d.before a0 Z = true) (o0 : Addr) (r0 : Addr) (h0 : Heap) (F0 : Fld Z h0 o0 "com/example/cyclewarden/cyclewarden/core/Wait" "waiterSession" "Ljava/lang/String;" (.ref r0)) : Own.Con l Z (⟨"com/example/cyclewarden/cyclewarden/core/Wait", "namesSessions", "()Z"⟩ : MethodName) prog_36_method_3_code 1 (some .boolean) ({ frames := 0, cells := 0, slots := 0, locals := 0 } : Room) #[(.ref o0)] h0 (Own.Pure (.int 1) h0) := by
  intro ws
  refine MetFree.of_bodySF (plainFor_of_name pn_3) hisR ?_
  intro p e s m args below meth c s₁ Bd hml0 hP hK
  obtain ⟨rfl, hZ, hh⟩ := hP
  have hx := Bd.exec
  have hby := Bd.bytes
  have hml : c.maxLocals = 1 := hml0
  have hown : s.vm.findClass "com/example/cyclewarden/cyclewarden/core/Wait" = some m.cls := findClass_of_methodNamed Bd.named
  have hnm := (name_of_methodNamed Bd.named Bd.method).1
  have X0 : Stand p l e ({ frames := 0, cells := 0, slots := 0, locals := 0 } : Room) s m #[(.ref o0)] below meth c s₁ [] 0 0 := Stand.of_body Bd
  have e0 : s₁.heap = h0 := by rw [← hh, Bd.state]; rfl
  have K0 : ∀ t, Steps p.tables e below (s₁.setTop (mkF m 0 #[.val (.ref o0)] [])) t → Steps p.tables e below (s₁.setTop (entryFrame m #[(.ref o0)] 1)) t := fun t k => castTop (ef_11 m o0) k
  generalize s₁.setTop (entryFrame m #[(.ref o0)] 1) = B0 at K0 ⊢
  show Own.Fin p e below B0 s (({ frames := 0, cells := 0, slots := 0, locals := 0 } : Room)).cells (({ frames := 0, cells := 0, slots := 0, locals := 0 } : Room)).slots (Own.Pure (.int 1) h0)
  have K1 : ∀ t, Steps p.tables e below (s₁.setTop (mkF m 1 #[.val (.ref o0)] [(.ref o0)])) t → Steps p.tables e below B0 t := fun t k => K0 t (by
    refine Own.aloadN X0 hx (hb hby d11_0) rfl rfl ?_
    exact k)
  obtain ⟨T2, X2, e2, st2⟩ := Own.getF (Ls := #[.val (.ref o0)]) X0 hx hZ e0 hown (host := "") (Or.inl (hw _ (List.mem_of_getElem? (i := 60) rfl))) Via.refl F0 (S := []) (hb hby d11_1)
  have K3 : ∀ t, Steps p.tables e below (T2.setTop (mkF m 4 #[.val (.ref o0)] [(.ref r0)])) t → Steps p.tables e below B0 t := fun t k => K1 t (st2 t k)
  have K4 : ∀ t, Steps p.tables e below (T2.setTop (mkF m 12 #[.val (.ref o0)] [(.int (1 : Int32))])) t → Steps p.tables e below B0 t := fun t k => K3 t (by
    refine Own.ifnullNo X2 hx (hb hby d11_4) ?_
    refine Own.iconst X2 hx (1 : Int32) (hb hby d11_7) rfl ?_
    refine Own.goto X2 hx 12 (hb hby d11_8) (by decide) (by decide) ?_
    exact k)
  exact Own.finN X2 hx (BodyLoose.notSynchronized Bd) Bd.returns (by simp) (hb hby d11_12) K4 (by decide) (by decide) ⟨rfl, rfl, e2⟩

theorem d12_0 : decode prog_36_method_11_code 0 = .ok (.aload_n 0, 1) := by decide +kernel
theorem d12_1 : decode prog_36_method_11_code 1 = .ok (.getfield 38, 3) := by decide +kernel
theorem d12_4 : decode prog_36_method_11_code 4 = .ok (.areturn, 1) := by decide +kernel
theorem ef_12 (m : MethodId) (o0 : Addr) : entryFrame m #[(.ref o0)] 1 = mkF m 0 #[.val (.ref o0)] [] := by first | (simp [entryFrame, mkF, argsToLocals, Value.category]; done) | rfl
set_option maxRecDepth 65536 in
set_option maxHeartbeats 40000000 in
theorem cHSN (l : Launch) (Z : State) (a0 : Array Value) (hw : ∀ d ∈ tables_1, d.before a0 Z = true) (o0 : Addr) (h0 : Heap) (F0 : Fld Z h0 o0 "com/example/cyclewarden/cyclewarden/core/Wait" "holderSession" "Ljava/lang/String;" .null) : Own.Con l Z (⟨"com/example/cyclewarden/cyclewarden/core/Wait", "holderSession", "()Ljava/lang/String;"⟩ : MethodName) prog_36_method_11_code 1 (some (.object "java/lang/String")) ({ frames := 0, cells := 0, slots := 0, locals := 0 } : Room) #[(.ref o0)] h0 (Own.Pure (.null) h0) := by
  intro ws
  refine MetFree.of_bodySF (plainFor_of_name pn_3) hisR ?_
  intro p e s m args below meth c s₁ Bd hml0 hP hK
  obtain ⟨rfl, hZ, hh⟩ := hP
  have hx := Bd.exec
  have hby := Bd.bytes
  have hml : c.maxLocals = 1 := hml0
  have hown : s.vm.findClass "com/example/cyclewarden/cyclewarden/core/Wait" = some m.cls := findClass_of_methodNamed Bd.named
  have hnm := (name_of_methodNamed Bd.named Bd.method).1
  have X0 : Stand p l e ({ frames := 0, cells := 0, slots := 0, locals := 0 } : Room) s m #[(.ref o0)] below meth c s₁ [] 0 0 := Stand.of_body Bd
  have e0 : s₁.heap = h0 := by rw [← hh, Bd.state]; rfl
  have K0 : ∀ t, Steps p.tables e below (s₁.setTop (mkF m 0 #[.val (.ref o0)] [])) t → Steps p.tables e below (s₁.setTop (entryFrame m #[(.ref o0)] 1)) t := fun t k => castTop (ef_12 m o0) k
  generalize s₁.setTop (entryFrame m #[(.ref o0)] 1) = B0 at K0 ⊢
  show Own.Fin p e below B0 s (({ frames := 0, cells := 0, slots := 0, locals := 0 } : Room)).cells (({ frames := 0, cells := 0, slots := 0, locals := 0 } : Room)).slots (Own.Pure (.null) h0)
  have K1 : ∀ t, Steps p.tables e below (s₁.setTop (mkF m 1 #[.val (.ref o0)] [(.ref o0)])) t → Steps p.tables e below B0 t := fun t k => K0 t (by
    refine Own.aloadN X0 hx (hb hby d12_0) rfl rfl ?_
    exact k)
  obtain ⟨T2, X2, e2, st2⟩ := Own.getF (Ls := #[.val (.ref o0)]) X0 hx hZ e0 hown (host := "") (Or.inl (hw _ (List.mem_of_getElem? (i := 62) rfl))) Via.refl F0 (S := []) (hb hby d12_1)
  have K3 : ∀ t, Steps p.tables e below (T2.setTop (mkF m 4 #[.val (.ref o0)] [.null])) t → Steps p.tables e below B0 t := fun t k => K1 t (st2 t k)
  exact Own.finA X2 hx (BodyLoose.notSynchronized Bd) Bd.returns rfl rfl (hb hby d12_4) K3 (by decide) (by decide) ⟨rfl, rfl, e2⟩

set_option maxRecDepth 65536 in
set_option maxHeartbeats 40000000 in
theorem cHSR (l : Launch) (Z : State) (a0 : Array Value) (hw : ∀ d ∈ tables_1, d.before a0 Z = true) (o0 : Addr) (r0 : Addr) (h0 : Heap) (F0 : Fld Z h0 o0 "com/example/cyclewarden/cyclewarden/core/Wait" "holderSession" "Ljava/lang/String;" (.ref r0)) : Own.Con l Z (⟨"com/example/cyclewarden/cyclewarden/core/Wait", "holderSession", "()Ljava/lang/String;"⟩ : MethodName) prog_36_method_11_code 1 (some (.object "java/lang/String")) ({ frames := 0, cells := 0, slots := 0, locals := 0 } : Room) #[(.ref o0)] h0 (Own.Pure (.ref r0) h0) := by
  intro ws
  refine MetFree.of_bodySF (plainFor_of_name pn_3) hisR ?_
  intro p e s m args below meth c s₁ Bd hml0 hP hK
  obtain ⟨rfl, hZ, hh⟩ := hP
  have hx := Bd.exec
  have hby := Bd.bytes
  have hml : c.maxLocals = 1 := hml0
  have hown : s.vm.findClass "com/example/cyclewarden/cyclewarden/core/Wait" = some m.cls := findClass_of_methodNamed Bd.named
  have hnm := (name_of_methodNamed Bd.named Bd.method).1
  have X0 : Stand p l e ({ frames := 0, cells := 0, slots := 0, locals := 0 } : Room) s m #[(.ref o0)] below meth c s₁ [] 0 0 := Stand.of_body Bd
  have e0 : s₁.heap = h0 := by rw [← hh, Bd.state]; rfl
  have K0 : ∀ t, Steps p.tables e below (s₁.setTop (mkF m 0 #[.val (.ref o0)] [])) t → Steps p.tables e below (s₁.setTop (entryFrame m #[(.ref o0)] 1)) t := fun t k => castTop (ef_12 m o0) k
  generalize s₁.setTop (entryFrame m #[(.ref o0)] 1) = B0 at K0 ⊢
  show Own.Fin p e below B0 s (({ frames := 0, cells := 0, slots := 0, locals := 0 } : Room)).cells (({ frames := 0, cells := 0, slots := 0, locals := 0 } : Room)).slots (Own.Pure (.ref r0) h0)
  have K1 : ∀ t, Steps p.tables e below (s₁.setTop (mkF m 1 #[.val (.ref o0)] [(.ref o0)])) t → Steps p.tables e below B0 t := fun t k => K0 t (by
    refine Own.aloadN X0 hx (hb hby d12_0) rfl rfl ?_
    exact k)
  obtain ⟨T2, X2, e2, st2⟩ := Own.getF (Ls := #[.val (.ref o0)]) X0 hx hZ e0 hown (host := "") (Or.inl (hw _ (List.mem_of_getElem? (i := 62) rfl))) Via.refl F0 (S := []) (hb hby d12_1)
  have K3 : ∀ t, Steps p.tables e below (T2.setTop (mkF m 4 #[.val (.ref o0)] [(.ref r0)])) t → Steps p.tables e below B0 t := fun t k => K1 t (st2 t k)
  exact Own.finA X2 hx (BodyLoose.notSynchronized Bd) Bd.returns rfl rfl (hb hby d12_4) K3 (by decide) (by decide) ⟨rfl, rfl, e2⟩

theorem pn_4 : plainName "com/example/cyclewarden/cyclewarden/core/WaitNamesSessionsPinLaw" = true := by first | (simp [plainName, overriddenIn]; done) | decide +kernel
theorem pd_4 : parseMethodDescriptor "([C)V" = some ⟨[(.array .char)], none⟩ := by decide +kernel
theorem pd_5 : parseMethodDescriptor "(Ljava/lang/String;Ljava/lang/String;Ljava/lang/String;)V" = some ⟨[(.object "java/lang/String"), (.object "java/lang/String"), (.object "java/lang/String")], none⟩ := by decide +kernel
theorem pd_6 : parseMethodDescriptor "()Z" = some ⟨[], some .boolean⟩ := by decide +kernel
theorem pd_7 : parseMethodDescriptor "()Ljava/lang/String;" = some ⟨[], some (.object "java/lang/String")⟩ := by decide +kernel
theorem ef_0 (m : MethodId) (p0 : Int32) (p1 : Int32) (p2 : Int32) : entryFrame m #[(.int p0), (.int p1), (.int p2)] maxLocals = mkF m 0 #[.val (.int p0), .val (.int p1), .val (.int p2), .unset, .unset, .unset, .unset, .unset, .unset, .unset, .unset, .unset, .unset, .unset, .unset] [] := by first | (simp [entryFrame, mkF, argsToLocals, Value.category, maxLocals]; done) | rfl
set_option maxRecDepth 65536 in
set_option maxHeartbeats 40000000 in
theorem c0 (l : Launch) (Z : State) (a0 : Array Value) (hw : ∀ d ∈ tables_1, d.before a0 Z = true) (p0 : Int32) (p1 : Int32) (p2 : Int32) (G1 : Int32) (h0 : Heap) (SC : Sta Z h0 "java/lang/String" "COMPACT_STRINGS" "Z" (.int G1)) (hG1 : ¬ G1 = 0) : Own.ConH l Z own_EL x code maxLocals ret room_1 #[(.int p0), (.int p1), (.int p2)] h0 (Own.Law1 h0) := by
  intro ws
  refine MetFree.of_bodySF (plainFor_of_name pn_4) hisR ?_
  intro p e s m args below meth c s₁ Bd hml0 hP hK
  obtain ⟨rfl, hZ, hh, hH⟩ := hP
  have hx := Bd.exec
  have hby := Bd.bytes
  have hml : c.maxLocals = 15 := hml0
  have hown : s.vm.findClass "com/example/cyclewarden/cyclewarden/core/WaitNamesSessionsPinLaw" = some m.cls := findClass_of_methodNamed Bd.named
  have hnm := (name_of_methodNamed Bd.named Bd.method).1
  have X0 : Stand p l e room_1 (s.setVm s.vm) m #[(.int p0), (.int p1), (.int p2)] below meth c s₁ [] 0 0 := Stand.of_body Bd
  have e0 : s₁.heap = h0 := by rw [← hh, Bd.state]; rfl
  have D0 : Own.Wd s Z own_EL "com/example/cyclewarden/cyclewarden/core/WaitNamesSessionsPinLaw" m.cls s.vm h0 := by rw [← hh]; exact Own.Wd.start hZ hown (by rw [hh]; exact hH)
  have K0 : ∀ t, Steps p.tables e below (s₁.setTop (mkF m 0 #[.val (.int p0), .val (.int p1), .val (.int p2), .unset, .unset, .unset, .unset, .unset, .unset, .unset, .unset, .unset, .unset, .unset, .unset] [])) t → Steps p.tables e below (s₁.setTop (entryFrame m #[(.int p0), (.int p1), (.int p2)] maxLocals)) t := fun t k => castTop (ef_0 m p0 p1 p2) k
  generalize s₁.setTop (entryFrame m #[(.int p0), (.int p1), (.int p2)] maxLocals) = B0 at K0 ⊢
  show Own.FinH p e below B0 s Z own_EL (room_1).cells (room_1).slots (Own.Law1 h0)
  obtain ⟨n0, hn0⟩ : ∃ z, z = h0.size := ⟨_, rfl⟩
  have Z0 : n0 ≤ h0.size := Nat.le_of_eq hn0
  have K1 : ∀ t, Steps p.tables e below (s₁.setTop (mkF m 5 #[.val (.int p0), .val (.int p1), .val (.int p2), .val (.int (p0 &&& (3 : Int32))), .unset, .unset, .unset, .unset, .unset, .unset, .unset, .unset, .unset, .unset, .unset] [(.int (1 : Int32))])) t → Steps p.tables e below B0 t := fun t k => K0 t (by
    refine Own.iloadN X0 hx (hb hby at_0) rfl ?_
    refine Own.iconst X0 hx (3 : Int32) (hb hby at_1) rfl ?_
    refine Own.iand X0 hx (hb hby at_2) ?_
    refine Own.istoreN X0 hx #[.val (.int p0), .val (.int p1), .val (.int p2), .val (.int (p0 &&& (3 : Int32))), .unset, .unset, .unset, .unset, .unset, .unset, .unset, .unset, .unset, .unset, .unset] (hb hby at_3) rfl ?_
    refine Own.iconst X0 hx (1 : Int32) (hb hby at_4) rfl ?_
    exact k)
  obtain ⟨T2, h2, b2, X2, e2, E2, g2, V2, st2⟩ := Own.newA (Ls := #[.val (.int p0), .val (.int p1), .val (.int p2), .val (.int (p0 &&& (3 : Int32))), .unset, .unset, .unset, .unset, .unset, .unset, .unset, .unset, .unset, .unset, .unset]) (S := []) (z := (1 : Int32)) X0 hx D0.hZ e0 .char rfl rfl (hw _ (List.mem_of_getElem? (i := 0) rfl)) 1 rfl (by decide) (hb hby at_5) (by decide) (by decide)
  have le_b2 : h0.size ≤ b2 := Nat.le_of_eq g2.symm
  have X2 : Stand p l e room_1 (s.setVm s.vm) m #[(.int p0), (.int p1), (.int p2)] below meth c T2 [] 1 1 := X2
  have V2 : Own.CA Z h2 b2 .char [(0 : Int32)] := V2
  have m3 : h0.size ≤ h2.size := E2.1
  have D3 := D0.ext E2
  have K4 : ∀ t, Steps p.tables e below (T2.setTop (mkF m 7 #[.val (.int p0), .val (.int p1), .val (.int p2), .val (.int (p0 &&& (3 : Int32))), .unset, .unset, .unset, .unset, .unset, .unset, .unset, .unset, .unset, .unset, .unset] [(.ref b2)])) t → Steps p.tables e below B0 t := fun t k => K1 t (st2 t k)
  have K5 : ∀ t, Steps p.tables e below (T2.setTop (mkF m 15 #[.val (.int p0), .val (.int p1), .val (.int p2), .val (.int (p0 &&& (3 : Int32))), .unset, .unset, .unset, .unset, .unset, .unset, .unset, .unset, .unset, .unset, .unset] [(.int ((p1 &&& (255 : Int32)).toUInt32.toUInt16.toUInt32.toInt32)), (.int (0 : Int32)), (.ref b2), (.ref b2)])) t → Steps p.tables e below B0 t := fun t k => K4 t (by
    refine Own.dup X2 hx (hb hby at_7) rfl ?_
    refine Own.iconst X2 hx (0 : Int32) (hb hby at_8) rfl ?_
    refine Own.iloadN X2 hx (hb hby at_9) rfl ?_
    refine Own.sipush X2 hx (255 : Int32) (hb hby at_10) rfl ?_
    refine Own.iand X2 hx (hb hby at_13) ?_
    refine Own.i2c X2 hx (hb hby at_14) ?_
    exact k)
  obtain ⟨T6, h6, L6, X6, e6, n6, W6, V6, st6⟩ := Own.stc (Ls := #[.val (.int p0), .val (.int p1), .val (.int p2), .val (.int (p0 &&& (3 : Int32))), .unset, .unset, .unset, .unset, .unset, .unset, .unset, .unset, .unset, .unset, .unset]) (S := [(.ref b2)]) (x := ((p1 &&& (255 : Int32)).toUInt32.toUInt16.toUInt32.toInt32)) (j := (0 : Int32)) X2 hx D3.hZ e2 V2 0 rfl (by decide) (show 0 < 1 by decide) (hb hby at_15)
  have V6 : Own.CA Z h6 b2 .char [(nar .char ((p1 &&& (255 : Int32)).toUInt32.toUInt16.toUInt32.toInt32))] := V6
  have N6 : Fr n0 L6 := n6 n0 (Fr.nil _) (Nat.le_trans Z0 (Nat.le_trans (Nat.le_refl _) le_b2))
  have m7 : h2.size ≤ h6.size := Nat.le_of_eq W6.size.symm
  have D7 := D3.wr W6 (Own.CA.safe D3.hZ.alike V2 (by decide))
  have K8 : ∀ t, Steps p.tables e below (T6.setTop (mkF m 16 #[.val (.int p0), .val (.int p1), .val (.int p2), .val (.int (p0 &&& (3 : Int32))), .unset, .unset, .unset, .unset, .unset, .unset, .unset, .unset, .unset, .unset, .unset] [(.ref b2)])) t → Steps p.tables e below B0 t := fun t k => K5 t (st6 t k)
  have K9 : ∀ t, Steps p.tables e below (T6.setTop (mkF m 19 #[.val (.int p0), .val (.int p1), .val (.int p2), .val (.int (p0 &&& (3 : Int32))), .val (.ref b2), .unset, .unset, .unset, .unset, .unset, .unset, .unset, .unset, .unset, .unset] [(.int (1 : Int32))])) t → Steps p.tables e below B0 t := fun t k => K8 t (by
    refine Own.astore X6 hx #[.val (.int p0), .val (.int p1), .val (.int p2), .val (.int (p0 &&& (3 : Int32))), .val (.ref b2), .unset, .unset, .unset, .unset, .unset, .unset, .unset, .unset, .unset, .unset] (hb hby at_16) rfl rfl ?_
    refine Own.iconst X6 hx (1 : Int32) (hb hby at_18) rfl ?_
    exact k)
  obtain ⟨T10, h10, b10, X10, e10, E10, g10, V10, st10⟩ := Own.newA (Ls := #[.val (.int p0), .val (.int p1), .val (.int p2), .val (.int (p0 &&& (3 : Int32))), .val (.ref b2), .unset, .unset, .unset, .unset, .unset, .unset, .unset, .unset, .unset, .unset]) (S := []) (z := (1 : Int32)) X6 hx D7.hZ e6 .char rfl rfl (hw _ (List.mem_of_getElem? (i := 0) rfl)) 1 rfl (by decide) (hb hby at_19) (by decide) (by decide)
  have le_b10 : h6.size ≤ b10 := Nat.le_of_eq g10.symm
  have X10 : Stand p l e room_1 (s.setVm s.vm) m #[(.int p0), (.int p1), (.int p2)] below meth c T10 L6 2 2 := X10
  have V10 : Own.CA Z h10 b10 .char [(0 : Int32)] := V10
  have m11 : h6.size ≤ h10.size := E10.1
  have D11 := D7.ext E10
  have K12 : ∀ t, Steps p.tables e below (T10.setTop (mkF m 21 #[.val (.int p0), .val (.int p1), .val (.int p2), .val (.int (p0 &&& (3 : Int32))), .val (.ref b2), .unset, .unset, .unset, .unset, .unset, .unset, .unset, .unset, .unset, .unset] [(.ref b10)])) t → Steps p.tables e below B0 t := fun t k => K9 t (st10 t k)
  have K13 : ∀ t, Steps p.tables e below (T10.setTop (mkF m 29 #[.val (.int p0), .val (.int p1), .val (.int p2), .val (.int (p0 &&& (3 : Int32))), .val (.ref b2), .unset, .unset, .unset, .unset, .unset, .unset, .unset, .unset, .unset, .unset] [(.int ((p2 &&& (255 : Int32)).toUInt32.toUInt16.toUInt32.toInt32)), (.int (0 : Int32)), (.ref b10), (.ref b10)])) t → Steps p.tables e below B0 t := fun t k => K12 t (by
    refine Own.dup X10 hx (hb hby at_21) rfl ?_
    refine Own.iconst X10 hx (0 : Int32) (hb hby at_22) rfl ?_
    refine Own.iloadN X10 hx (hb hby at_23) rfl ?_
    refine Own.sipush X10 hx (255 : Int32) (hb hby at_24) rfl ?_
    refine Own.iand X10 hx (hb hby at_27) ?_
    refine Own.i2c X10 hx (hb hby at_28) ?_
    exact k)
  obtain ⟨T14, h14, L14, X14, e14, n14, W14, V14, st14⟩ := Own.stc (Ls := #[.val (.int p0), .val (.int p1), .val (.int p2), .val (.int (p0 &&& (3 : Int32))), .val (.ref b2), .unset, .unset, .unset, .unset, .unset, .unset, .unset, .unset, .unset, .unset]) (S := [(.ref b10)]) (x := ((p2 &&& (255 : Int32)).toUInt32.toUInt16.toUInt32.toInt32)) (j := (0 : Int32)) X10 hx D11.hZ e10 V10 0 rfl (by decide) (show 0 < 1 by decide) (hb hby at_29)
  have V14 : Own.CA Z h14 b10 .char [(nar .char ((p2 &&& (255 : Int32)).toUInt32.toUInt16.toUInt32.toInt32))] := V14
  have N14 : Fr n0 L14 := n14 n0 N6 (Nat.le_trans Z0 (Nat.le_trans (Nat.le_trans m3 m7) le_b10))
  have m15 : h10.size ≤ h14.size := Nat.le_of_eq W14.size.symm
  have D15 := D11.wr W14 (Own.CA.safe D11.hZ.alike V10 (by decide))
  have K16 : ∀ t, Steps p.tables e below (T14.setTop (mkF m 30 #[.val (.int p0), .val (.int p1), .val (.int p2), .val (.int (p0 &&& (3 : Int32))), .val (.ref b2), .unset, .unset, .unset, .unset, .unset, .unset, .unset, .unset, .unset, .unset] [(.ref b10)])) t → Steps p.tables e below B0 t := fun t k => K13 t (st14 t k)
  have K17 : ∀ t, Steps p.tables e below (T14.setTop (mkF m 33 #[.val (.int p0), .val (.int p1), .val (.int p2), .val (.int (p0 &&& (3 : Int32))), .val (.ref b2), .val (.ref b10), .unset, .unset, .unset, .unset, .unset, .unset, .unset, .unset, .unset] [(.int (0 : Int32))])) t → Steps p.tables e below B0 t := fun t k => K16 t (by
    refine Own.astore X14 hx #[.val (.int p0), .val (.int p1), .val (.int p2), .val (.int (p0 &&& (3 : Int32))), .val (.ref b2), .val (.ref b10), .unset, .unset, .unset, .unset, .unset, .unset, .unset, .unset, .unset] (hb hby at_30) rfl rfl ?_
    refine Own.iconst X14 hx (0 : Int32) (hb hby at_32) rfl ?_
    exact k)
  obtain ⟨T18, h18, b18, X18, e18, E18, g18, V18, st18⟩ := Own.newA (Ls := #[.val (.int p0), .val (.int p1), .val (.int p2), .val (.int (p0 &&& (3 : Int32))), .val (.ref b2), .val (.ref b10), .unset, .unset, .unset, .unset, .unset, .unset, .unset, .unset, .unset]) (S := []) (z := (0 : Int32)) X14 hx D15.hZ e14 .char rfl rfl (hw _ (List.mem_of_getElem? (i := 0) rfl)) 0 rfl (by decide) (hb hby at_33) (by decide) (by decide)
  have le_b18 : h14.size ≤ b18 := Nat.le_of_eq g18.symm
  have X18 : Stand p l e room_1 (s.setVm s.vm) m #[(.int p0), (.int p1), (.int p2)] below meth c T18 L14 3 2 := X18
  have V18 : Own.CA Z h18 b18 .char [] := V18
  have m19 : h14.size ≤ h18.size := E18.1
  have D19 := D15.ext E18
  have K20 : ∀ t, Steps p.tables e below (T18.setTop (mkF m 35 #[.val (.int p0), .val (.int p1), .val (.int p2), .val (.int (p0 &&& (3 : Int32))), .val (.ref b2), .val (.ref b10), .unset, .unset, .unset, .unset, .unset, .unset, .unset, .unset, .unset] [(.ref b18)])) t → Steps p.tables e below B0 t := fun t k => K17 t (st18 t k)
  have K21 : ∀ t, Steps p.tables e below (T18.setTop (mkF m 37 #[.val (.int p0), .val (.int p1), .val (.int p2), .val (.int (p0 &&& (3 : Int32))), .val (.ref b2), .val (.ref b10), .val (.ref b18), .unset, .unset, .unset, .unset, .unset, .unset, .unset, .unset] [])) t → Steps p.tables e below B0 t := fun t k => K20 t (by
    refine Own.astore X18 hx #[.val (.int p0), .val (.int p1), .val (.int p2), .val (.int (p0 &&& (3 : Int32))), .val (.ref b2), .val (.ref b10), .val (.ref b18), .unset, .unset, .unset, .unset, .unset, .unset, .unset, .unset] (hb hby at_35) rfl rfl ?_
    exact k)
  obtain ⟨T22, h22, b22, X22, e22, E22, g22, A22, D22, st22⟩ := Own.newO (Ls := #[.val (.int p0), .val (.int p1), .val (.int p2), .val (.int (p0 &&& (3 : Int32))), .val (.ref b2), .val (.ref b10), .val (.ref b18), .unset, .unset, .unset, .unset, .unset, .unset, .unset, .unset]) (S := []) X18 hx D19.hZ e18 D19.hown (hw _ (List.mem_of_getElem? (i := 1) rfl)) (hw _ (List.mem_of_getElem? (i := 2) rfl)) (hw _ (List.mem_of_getElem? (i := 3) rfl)) (hb hby at_37) (by decide) (by decide)
  have le_b22 : h18.size ≤ b22 := Nat.le_of_eq g22.symm
  have X22 : Stand p l e room_1 (s.setVm s.vm) m #[(.int p0), (.int p1), (.int p2)] below meth c T22 L14 4 6 := X22
  have m23 : h18.size ≤ h22.size := E22.1
  have D23 := D19.ext E22
  have F22_coder : Fld Z h22 b22 "java/lang/String" "coder" "B" (.int (0 : Int32)) := D22 (Or.inr (hw _ (List.mem_of_getElem? (i := 27) rfl))) (ty := .byte) (by decide)
  have F22_value : Fld Z h22 b22 "java/lang/String" "value" "[B" .null := D22 (Or.inr (hw _ (List.mem_of_getElem? (i := 29) rfl))) (ty := (.array .byte)) (by decide)
  have K24 : ∀ t, Steps p.tables e below (T22.setTop (mkF m 40 #[.val (.int p0), .val (.int p1), .val (.int p2), .val (.int (p0 &&& (3 : Int32))), .val (.ref b2), .val (.ref b10), .val (.ref b18), .unset, .unset, .unset, .unset, .unset, .unset, .unset, .unset] [(.ref b22)])) t → Steps p.tables e below B0 t := fun t k => K21 t (st22 t k)
  have f25 := ((((V6.ext E10).other W14 (Nat.ne_of_lt (Nat.lt_of_lt_of_le V6.lt le_b10))).ext E18).ext E22)
  have K26 : ∀ t, Steps p.tables e below (T22.setTop (mkF m 43 #[.val (.int p0), .val (.int p1), .val (.int p2), .val (.int (p0 &&& (3 : Int32))), .val (.ref b2), .val (.ref b10), .val (.ref b18), .unset, .unset, .unset, .unset, .unset, .unset, .unset, .unset] [(.ref b2), (.ref b22), (.ref b22)])) t → Steps p.tables e below B0 t := fun t k => K24 t (by
    refine Own.dup X22 hx (hb hby at_40) rfl ?_
    refine Own.aload X22 hx (hb hby at_41) rfl rfl ?_
    exact k)
  have f28 := ((((((SC.ext E2).wr W6).ext E10).wr W14).ext E18).ext E22)
  obtain ⟨T27, h27, J27, L27, X27, e27, n27, NN27, K27, t27, st27⟩ := own_newS (Ls := #[.val (.int p0), .val (.int p1), .val (.int p2), .val (.int (p0 &&& (3 : Int32))), .val (.ref b2), .val (.ref b10), .val (.ref b18), .unset, .unset, .unset, .unset, .unset, .unset, .unset, .unset]) (cs := [(nar .char ((p1 &&& (255 : Int32)).toUInt32.toUInt16.toUInt32.toInt32))]) (n := 1) (n0 := n0) X22 hx D23.hZ e22 hw (hw _ (List.mem_of_getElem? (i := 2) rfl)) D23.hown rfl (Nat.le_trans Z0 (Nat.le_trans (Nat.le_trans (Nat.le_trans (Nat.le_trans (Nat.le_trans m3 m7) m11) m15) m19) le_b22)) (Nat.le_trans Z0 (Nat.le_trans (Nat.le_trans (Nat.le_trans (Nat.le_trans (Nat.le_trans m3 m7) m11) m15) m19) m23)) A22 F22_value F22_coder f25 f28 hG1 (by decide) (by decide) (own_hp p1) (hw _ (List.mem_of_getElem? (i := 4) rfl)) (hw _ (List.mem_of_getElem? (i := 5) rfl)) (hw _ (List.mem_of_getElem? (i := 6) rfl)) [(.ref b22)] 1 (by decide) (by decide) (by decide) (by decide) (by rw [hml]; rfl) (lenOf pd_4 rfl) (Nat.le_of_eq rfl) (hb hby at_43)
  have X27 : Stand p l e room_1 (s.setVm s.vm) m #[(.int p0), (.int p1), (.int p2)] below meth c T27 L27 5 7 := X27
  have N27 : Fr n0 L27 := n27 n0 N14 NN27
  have m29 : h22.size ≤ h27.size := K27.1
  have D29 := D23.keep K27 (sfS (Own.safe_null D23.hZ.alike A22 F22_value) sf0)
  have K30 : ∀ t, Steps p.tables e below (T27.setTop (mkF m 46 #[.val (.int p0), .val (.int p1), .val (.int p2), .val (.int (p0 &&& (3 : Int32))), .val (.ref b2), .val (.ref b10), .val (.ref b18), .unset, .unset, .unset, .unset, .unset, .unset, .unset, .unset] [(.ref b22)])) t → Steps p.tables e below B0 t := fun t k => K26 t (st27 t k)
  have K31 : ∀ t, Steps p.tables e below (T27.setTop (mkF m 48 #[.val (.int p0), .val (.int p1), .val (.int p2), .val (.int (p0 &&& (3 : Int32))), .val (.ref b2), .val (.ref b10), .val (.ref b18), .val (.ref b22), .unset, .unset, .unset, .unset, .unset, .unset, .unset] [])) t → Steps p.tables e below B0 t := fun t k => K30 t (by
    refine Own.astore X27 hx #[.val (.int p0), .val (.int p1), .val (.int p2), .val (.int (p0 &&& (3 : Int32))), .val (.ref b2), .val (.ref b10), .val (.ref b18), .val (.ref b22), .unset, .unset, .unset, .unset, .unset, .unset, .unset] (hb hby at_46) rfl rfl ?_
    exact k)
  obtain ⟨T32, h32, b32, X32, e32, E32, g32, A32, D32, st32⟩ := Own.newO (Ls := #[.val (.int p0), .val (.int p1), .val (.int p2), .val (.int (p0 &&& (3 : Int32))), .val (.ref b2), .val (.ref b10), .val (.ref b18), .val (.ref b22), .unset, .unset, .unset, .unset, .unset, .unset, .unset]) (S := []) X27 hx D29.hZ e27 D29.hown (hw _ (List.mem_of_getElem? (i := 1) rfl)) (hw _ (List.mem_of_getElem? (i := 2) rfl)) (hw _ (List.mem_of_getElem? (i := 3) rfl)) (hb hby at_48) (by decide) (by decide)
  have le_b32 : h27.size ≤ b32 := Nat.le_of_eq g32.symm
  have X32 : Stand p l e room_1 (s.setVm s.vm) m #[(.int p0), (.int p1), (.int p2)] below meth c T32 L27 6 11 := X32
  have m33 : h27.size ≤ h32.size := E32.1
  have D33 := D29.ext E32
  have F32_coder : Fld Z h32 b32 "java/lang/String" "coder" "B" (.int (0 : Int32)) := D32 (Or.inr (hw _ (List.mem_of_getElem? (i := 27) rfl))) (ty := .byte) (by decide)
  have F32_value : Fld Z h32 b32 "java/lang/String" "value" "[B" .null := D32 (Or.inr (hw _ (List.mem_of_getElem? (i := 29) rfl))) (ty := (.array .byte)) (by decide)
  have K34 : ∀ t, Steps p.tables e below (T32.setTop (mkF m 51 #[.val (.int p0), .val (.int p1), .val (.int p2), .val (.int (p0 &&& (3 : Int32))), .val (.ref b2), .val (.ref b10), .val (.ref b18), .val (.ref b22), .unset, .unset, .unset, .unset, .unset, .unset, .unset] [(.ref b32)])) t → Steps p.tables e below B0 t := fun t k => K31 t (st32 t k)
  have f35 := ((((V14.ext E18).ext E22).keep K27 (ninS (Nat.ne_of_lt (Nat.lt_of_lt_of_le (V14.ext E18).lt le_b22)) nin0)).ext E32)
  have K36 : ∀ t, Steps p.tables e below (T32.setTop (mkF m 54 #[.val (.int p0), .val (.int p1), .val (.int p2), .val (.int (p0 &&& (3 : Int32))), .val (.ref b2), .val (.ref b10), .val (.ref b18), .val (.ref b22), .unset, .unset, .unset, .unset, .unset, .unset, .unset] [(.ref b10), (.ref b32), (.ref b32)])) t → Steps p.tables e below B0 t := fun t k => K34 t (by
    refine Own.dup X32 hx (hb hby at_51) rfl ?_
    refine Own.aload X32 hx (hb hby at_52) rfl rfl ?_
    exact k)
  have f38 := ((Own.sta_keep f28 K27 A22).ext E32)
  obtain ⟨T37, h37, J37, L37, X37, e37, n37, NN37, K37, t37, st37⟩ := own_newS (Ls := #[.val (.int p0), .val (.int p1), .val (.int p2), .val (.int (p0 &&& (3 : Int32))), .val (.ref b2), .val (.ref b10), .val (.ref b18), .val (.ref b22), .unset, .unset, .unset, .unset, .unset, .unset, .unset]) (cs := [(nar .char ((p2 &&& (255 : Int32)).toUInt32.toUInt16.toUInt32.toInt32))]) (n := 1) (n0 := n0) X32 hx D33.hZ e32 hw (hw _ (List.mem_of_getElem? (i := 2) rfl)) D33.hown rfl (Nat.le_trans Z0 (Nat.le_trans (Nat.le_trans (Nat.le_trans (Nat.le_trans (Nat.le_trans (Nat.le_trans (Nat.le_trans m3 m7) m11) m15) m19) m23) m29) le_b32)) (Nat.le_trans Z0 (Nat.le_trans (Nat.le_trans (Nat.le_trans (Nat.le_trans (Nat.le_trans (Nat.le_trans (Nat.le_trans m3 m7) m11) m15) m19) m23) m29) m33)) A32 F32_value F32_coder f35 f38 hG1 (by decide) (by decide) (own_hp p2) (hw _ (List.mem_of_getElem? (i := 4) rfl)) (hw _ (List.mem_of_getElem? (i := 5) rfl)) (hw _ (List.mem_of_getElem? (i := 6) rfl)) [(.ref b32)] 1 (by decide) (by decide) (by decide) (by decide) (by rw [hml]; rfl) (lenOf pd_4 rfl) (Nat.le_of_eq rfl) (hb hby at_54)
  have X37 : Stand p l e room_1 (s.setVm s.vm) m #[(.int p0), (.int p1), (.int p2)] below meth c T37 L37 7 12 := X37
  have N37 : Fr n0 L37 := n37 n0 N27 NN37
  have m39 : h32.size ≤ h37.size := K37.1
  have D39 := D33.keep K37 (sfS (Own.safe_null D33.hZ.alike A32 F32_value) sf0)
  have K40 : ∀ t, Steps p.tables e below (T37.setTop (mkF m 57 #[.val (.int p0), .val (.int p1), .val (.int p2), .val (.int (p0 &&& (3 : Int32))), .val (.ref b2), .val (.ref b10), .val (.ref b18), .val (.ref b22), .unset, .unset, .unset, .unset, .unset, .unset, .unset] [(.ref b32)])) t → Steps p.tables e below B0 t := fun t k => K36 t (st37 t k)
  have K41 : ∀ t, Steps p.tables e below (T37.setTop (mkF m 59 #[.val (.int p0), .val (.int p1), .val (.int p2), .val (.int (p0 &&& (3 : Int32))), .val (.ref b2), .val (.ref b10), .val (.ref b18), .val (.ref b22), .val (.ref b32), .unset, .unset, .unset, .unset, .unset, .unset] [])) t → Steps p.tables e below B0 t := fun t k => K40 t (by
    refine Own.astore X37 hx #[.val (.int p0), .val (.int p1), .val (.int p2), .val (.int (p0 &&& (3 : Int32))), .val (.ref b2), .val (.ref b10), .val (.ref b18), .val (.ref b22), .val (.ref b32), .unset, .unset, .unset, .unset, .unset, .unset] (hb hby at_57) rfl rfl ?_
    exact k)
  obtain ⟨T42, h42, b42, X42, e42, E42, g42, A42, D42, st42⟩ := Own.newO (Ls := #[.val (.int p0), .val (.int p1), .val (.int p2), .val (.int (p0 &&& (3 : Int32))), .val (.ref b2), .val (.ref b10), .val (.ref b18), .val (.ref b22), .val (.ref b32), .unset, .unset, .unset, .unset, .unset, .unset]) (S := []) X37 hx D39.hZ e37 D39.hown (hw _ (List.mem_of_getElem? (i := 1) rfl)) (hw _ (List.mem_of_getElem? (i := 2) rfl)) (hw _ (List.mem_of_getElem? (i := 3) rfl)) (hb hby at_59) (by decide) (by decide)
  have le_b42 : h37.size ≤ b42 := Nat.le_of_eq g42.symm
  have X42 : Stand p l e room_1 (s.setVm s.vm) m #[(.int p0), (.int p1), (.int p2)] below meth c T42 L37 8 16 := X42
  have m43 : h37.size ≤ h42.size := E42.1
  have D43 := D39.ext E42
  have F42_coder : Fld Z h42 b42 "java/lang/String" "coder" "B" (.int (0 : Int32)) := D42 (Or.inr (hw _ (List.mem_of_getElem? (i := 27) rfl))) (ty := .byte) (by decide)
  have F42_value : Fld Z h42 b42 "java/lang/String" "value" "[B" .null := D42 (Or.inr (hw _ (List.mem_of_getElem? (i := 29) rfl))) (ty := (.array .byte)) (by decide)
  have K44 : ∀ t, Steps p.tables e below (T42.setTop (mkF m 62 #[.val (.int p0), .val (.int p1), .val (.int p2), .val (.int (p0 &&& (3 : Int32))), .val (.ref b2), .val (.ref b10), .val (.ref b18), .val (.ref b22), .val (.ref b32), .unset, .unset, .unset, .unset, .unset, .unset] [(.ref b42)])) t → Steps p.tables e below B0 t := fun t k => K41 t (st42 t k)
  have f45 := ((((f25.keep K27 (ninS (Nat.ne_of_lt (Nat.lt_of_lt_of_le (((V6.ext E10).other W14 (Nat.ne_of_lt (Nat.lt_of_lt_of_le V6.lt le_b10))).ext E18).lt le_b22)) nin0)).ext E32).keep K37 (ninS (Nat.ne_of_lt (Nat.lt_of_lt_of_le (f25.keep K27 (ninS (Nat.ne_of_lt (Nat.lt_of_lt_of_le (((V6.ext E10).other W14 (Nat.ne_of_lt (Nat.lt_of_lt_of_le V6.lt le_b10))).ext E18).lt le_b22)) nin0)).lt le_b32)) nin0)).ext E42)
  have K46 : ∀ t, Steps p.tables e below (T42.setTop (mkF m 65 #[.val (.int p0), .val (.int p1), .val (.int p2), .val (.int (p0 &&& (3 : Int32))), .val (.ref b2), .val (.ref b10), .val (.ref b18), .val (.ref b22), .val (.ref b32), .unset, .unset, .unset, .unset, .unset, .unset] [(.ref b2), (.ref b42), (.ref b42)])) t → Steps p.tables e below B0 t := fun t k => K44 t (by
    refine Own.dup X42 hx (hb hby at_62) rfl ?_
    refine Own.aload X42 hx (hb hby at_63) rfl rfl ?_
    exact k)
  have f48 := ((Own.sta_keep f38 K37 A32).ext E42)
  obtain ⟨T47, h47, J47, L47, X47, e47, n47, NN47, K47, t47, st47⟩ := own_newS (Ls := #[.val (.int p0), .val (.int p1), .val (.int p2), .val (.int (p0 &&& (3 : Int32))), .val (.ref b2), .val (.ref b10), .val (.ref b18), .val (.ref b22), .val (.ref b32), .unset, .unset, .unset, .unset, .unset, .unset]) (cs := [(nar .char ((p1 &&& (255 : Int32)).toUInt32.toUInt16.toUInt32.toInt32))]) (n := 1) (n0 := n0) X42 hx D43.hZ e42 hw (hw _ (List.mem_of_getElem? (i := 2) rfl)) D43.hown rfl (Nat.le_trans Z0 (Nat.le_trans (Nat.le_trans (Nat.le_trans (Nat.le_trans (Nat.le_trans (Nat.le_trans (Nat.le_trans (Nat.le_trans (Nat.le_trans m3 m7) m11) m15) m19) m23) m29) m33) m39) le_b42)) (Nat.le_trans Z0 (Nat.le_trans (Nat.le_trans (Nat.le_trans (Nat.le_trans (Nat.le_trans (Nat.le_trans (Nat.le_trans (Nat.le_trans (Nat.le_trans m3 m7) m11) m15) m19) m23) m29) m33) m39) m43)) A42 F42_value F42_coder f45 f48 hG1 (by decide) (by decide) (own_hp p1) (hw _ (List.mem_of_getElem? (i := 4) rfl)) (hw _ (List.mem_of_getElem? (i := 5) rfl)) (hw _ (List.mem_of_getElem? (i := 6) rfl)) [(.ref b42)] 1 (by decide) (by decide) (by decide) (by decide) (by rw [hml]; rfl) (lenOf pd_4 rfl) (Nat.le_of_eq rfl) (hb hby at_65)
  have X47 : Stand p l e room_1 (s.setVm s.vm) m #[(.int p0), (.int p1), (.int p2)] below meth c T47 L47 9 17 := X47
  have N47 : Fr n0 L47 := n47 n0 N37 NN47
  have m49 : h42.size ≤ h47.size := K47.1
  have D49 := D43.keep K47 (sfS (Own.safe_null D43.hZ.alike A42 F42_value) sf0)
  have K50 : ∀ t, Steps p.tables e below (T47.setTop (mkF m 68 #[.val (.int p0), .val (.int p1), .val (.int p2), .val (.int (p0 &&& (3 : Int32))), .val (.ref b2), .val (.ref b10), .val (.ref b18), .val (.ref b22), .val (.ref b32), .unset, .unset, .unset, .unset, .unset, .unset] [(.ref b42)])) t → Steps p.tables e below B0 t := fun t k => K46 t (st47 t k)
  have K51 : ∀ t, Steps p.tables e below (T47.setTop (mkF m 75 #[.val (.int p0), .val (.int p1), .val (.int p2), .val (.int (p0 &&& (3 : Int32))), .val (.ref b2), .val (.ref b10), .val (.ref b18), .val (.ref b22), .val (.ref b32), .val (.ref b42), .unset, .unset, .unset, .unset, .unset] [(.int (((p0.toUInt32 >>> ((4 : Int32) &&& 31).toUInt32).toInt32) &&& (1 : Int32)))])) t → Steps p.tables e below B0 t := fun t k => K50 t (by
    refine Own.astore X47 hx #[.val (.int p0), .val (.int p1), .val (.int p2), .val (.int (p0 &&& (3 : Int32))), .val (.ref b2), .val (.ref b10), .val (.ref b18), .val (.ref b22), .val (.ref b32), .val (.ref b42), .unset, .unset, .unset, .unset, .unset] (hb hby at_68) rfl rfl ?_
    refine Own.iloadN X47 hx (hb hby at_70) rfl ?_
    refine Own.iconst X47 hx (4 : Int32) (hb hby at_71) rfl ?_
    refine Own.iushr X47 hx (hb hby at_72) ?_
    refine Own.iconst X47 hx (1 : Int32) (hb hby at_73) rfl ?_
    refine Own.iand X47 hx (hb hby at_74) ?_
    exact k)
  by_cases hc52 : (((p0.toUInt32 >>> ((4 : Int32) &&& 31).toUInt32).toInt32) &&& (1 : Int32)) = (0 : Int32)
  · have K53 : ∀ t, Steps p.tables e below (T47.setTop (mkF m 90 #[.val (.int p0), .val (.int p1), .val (.int p2), .val (.int (p0 &&& (3 : Int32))), .val (.ref b2), .val (.ref b10), .val (.ref b18), .val (.ref b22), .val (.ref b32), .val (.ref b42), .unset, .unset, .unset, .unset, .unset] [])) t → Steps p.tables e below B0 t := fun t k => K51 t (by
      refine Own.ifYes X47 hx 90 (hb hby at_75) ((if0 _ _).trans (teq hc52).1) (by decide) (by decide) ?_
      exact k)
    obtain ⟨T54, h54, b54, X54, e54, E54, g54, A54, D54, st54⟩ := Own.newO (Ls := #[.val (.int p0), .val (.int p1), .val (.int p2), .val (.int (p0 &&& (3 : Int32))), .val (.ref b2), .val (.ref b10), .val (.ref b18), .val (.ref b22), .val (.ref b32), .val (.ref b42), .unset, .unset, .unset, .unset, .unset]) (S := []) X47 hx D49.hZ e47 D49.hown (hw _ (List.mem_of_getElem? (i := 1) rfl)) (hw _ (List.mem_of_getElem? (i := 2) rfl)) (hw _ (List.mem_of_getElem? (i := 3) rfl)) (hb hby at_90) (by decide) (by decide)
    have le_b54 : h47.size ≤ b54 := Nat.le_of_eq g54.symm
    have X54 : Stand p l e room_1 (s.setVm s.vm) m #[(.int p0), (.int p1), (.int p2)] below meth c T54 L47 10 21 := X54
    have m55 : h47.size ≤ h54.size := E54.1
    have D55 := D49.ext E54
    have F54_coder : Fld Z h54 b54 "java/lang/String" "coder" "B" (.int (0 : Int32)) := D54 (Or.inr (hw _ (List.mem_of_getElem? (i := 27) rfl))) (ty := .byte) (by decide)
    have F54_value : Fld Z h54 b54 "java/lang/String" "value" "[B" .null := D54 (Or.inr (hw _ (List.mem_of_getElem? (i := 29) rfl))) (ty := (.array .byte)) (by decide)
    have K56 : ∀ t, Steps p.tables e below (T54.setTop (mkF m 93 #[.val (.int p0), .val (.int p1), .val (.int p2), .val (.int (p0 &&& (3 : Int32))), .val (.ref b2), .val (.ref b10), .val (.ref b18), .val (.ref b22), .val (.ref b32), .val (.ref b42), .unset, .unset, .unset, .unset, .unset] [(.ref b54)])) t → Steps p.tables e below B0 t := fun t k => K53 t (st54 t k)
    have f57 := ((f45.keep K47 (ninS (Nat.ne_of_lt (Nat.lt_of_lt_of_le (((f25.keep K27 (ninS (Nat.ne_of_lt (Nat.lt_of_lt_of_le (((V6.ext E10).other W14 (Nat.ne_of_lt (Nat.lt_of_lt_of_le V6.lt le_b10))).ext E18).lt le_b22)) nin0)).ext E32).keep K37 (ninS (Nat.ne_of_lt (Nat.lt_of_lt_of_le (f25.keep K27 (ninS (Nat.ne_of_lt (Nat.lt_of_lt_of_le (((V6.ext E10).other W14 (Nat.ne_of_lt (Nat.lt_of_lt_of_le V6.lt le_b10))).ext E18).lt le_b22)) nin0)).lt le_b32)) nin0)).lt le_b42)) nin0)).ext E54)
    have K58 : ∀ t, Steps p.tables e below (T54.setTop (mkF m 96 #[.val (.int p0), .val (.int p1), .val (.int p2), .val (.int (p0 &&& (3 : Int32))), .val (.ref b2), .val (.ref b10), .val (.ref b18), .val (.ref b22), .val (.ref b32), .val (.ref b42), .unset, .unset, .unset, .unset, .unset] [(.ref b2), (.ref b54), (.ref b54)])) t → Steps p.tables e below B0 t := fun t k => K56 t (by
      refine Own.dup X54 hx (hb hby at_93) rfl ?_
      refine Own.aload X54 hx (hb hby at_94) rfl rfl ?_
      exact k)
    have f60 := ((Own.sta_keep f48 K47 A42).ext E54)
    obtain ⟨T59, h59, J59, L59, X59, e59, n59, NN59, K59, t59, st59⟩ := own_newS (Ls := #[.val (.int p0), .val (.int p1), .val (.int p2), .val (.int (p0 &&& (3 : Int32))), .val (.ref b2), .val (.ref b10), .val (.ref b18), .val (.ref b22), .val (.ref b32), .val (.ref b42), .unset, .unset, .unset, .unset, .unset]) (cs := [(nar .char ((p1 &&& (255 : Int32)).toUInt32.toUInt16.toUInt32.toInt32))]) (n := 1) (n0 := n0) X54 hx D55.hZ e54 hw (hw _ (List.mem_of_getElem? (i := 2) rfl)) D55.hown rfl (Nat.le_trans Z0 (Nat.le_trans (Nat.le_trans (Nat.le_trans (Nat.le_trans (Nat.le_trans (Nat.le_trans (Nat.le_trans (Nat.le_trans (Nat.le_trans (Nat.le_trans (Nat.le_trans m3 m7) m11) m15) m19) m23) m29) m33) m39) m43) m49) le_b54)) (Nat.le_trans Z0 (Nat.le_trans (Nat.le_trans (Nat.le_trans (Nat.le_trans (Nat.le_trans (Nat.le_trans (Nat.le_trans (Nat.le_trans (Nat.le_trans (Nat.le_trans (Nat.le_trans m3 m7) m11) m15) m19) m23) m29) m33) m39) m43) m49) m55)) A54 F54_value F54_coder f57 f60 hG1 (by decide) (by decide) (own_hp p1) (hw _ (List.mem_of_getElem? (i := 4) rfl)) (hw _ (List.mem_of_getElem? (i := 5) rfl)) (hw _ (List.mem_of_getElem? (i := 6) rfl)) [(.ref b54)] 1 (by decide) (by decide) (by decide) (by decide) (by rw [hml]; rfl) (lenOf pd_4 rfl) (Nat.le_of_eq rfl) (hb hby at_96)
    have X59 : Stand p l e room_1 (s.setVm s.vm) m #[(.int p0), (.int p1), (.int p2)] below meth c T59 L59 11 22 := X59
    have N59 : Fr n0 L59 := n59 n0 N47 NN59
    have m61 : h54.size ≤ h59.size := K59.1
    have D61 := D55.keep K59 (sfS (Own.safe_null D55.hZ.alike A54 F54_value) sf0)
    have K62 : ∀ t, Steps p.tables e below (T59.setTop (mkF m 99 #[.val (.int p0), .val (.int p1), .val (.int p2), .val (.int (p0 &&& (3 : Int32))), .val (.ref b2), .val (.ref b10), .val (.ref b18), .val (.ref b22), .val (.ref b32), .val (.ref b42), .unset, .unset, .unset, .unset, .unset] [(.ref b54)])) t → Steps p.tables e below B0 t := fun t k => K58 t (st59 t k)
    have K63 : ∀ t, Steps p.tables e below (T59.setTop (mkF m 106 #[.val (.int p0), .val (.int p1), .val (.int p2), .val (.int (p0 &&& (3 : Int32))), .val (.ref b2), .val (.ref b10), .val (.ref b18), .val (.ref b22), .val (.ref b32), .val (.ref b42), .val (.ref b54), .unset, .unset, .unset, .unset] [(.int (((p0.toUInt32 >>> ((5 : Int32) &&& 31).toUInt32).toInt32) &&& (1 : Int32)))])) t → Steps p.tables e below B0 t := fun t k => K62 t (by
      refine Own.astore X59 hx #[.val (.int p0), .val (.int p1), .val (.int p2), .val (.int (p0 &&& (3 : Int32))), .val (.ref b2), .val (.ref b10), .val (.ref b18), .val (.ref b22), .val (.ref b32), .val (.ref b42), .val (.ref b54), .unset, .unset, .unset, .unset] (hb hby at_99) rfl rfl ?_
      refine Own.iloadN X59 hx (hb hby at_101) rfl ?_
      refine Own.iconst X59 hx (5 : Int32) (hb hby at_102) rfl ?_
      refine Own.iushr X59 hx (hb hby at_103) ?_
      refine Own.iconst X59 hx (1 : Int32) (hb hby at_104) rfl ?_
      refine Own.iand X59 hx (hb hby at_105) ?_
      exact k)
    by_cases hc64 : (((p0.toUInt32 >>> ((5 : Int32) &&& 31).toUInt32).toInt32) &&& (1 : Int32)) = (0 : Int32)
    · have K65 : ∀ t, Steps p.tables e below (T59.setTop (mkF m 121 #[.val (.int p0), .val (.int p1), .val (.int p2), .val (.int (p0 &&& (3 : Int32))), .val (.ref b2), .val (.ref b10), .val (.ref b18), .val (.ref b22), .val (.ref b32), .val (.ref b42), .val (.ref b54), .unset, .unset, .unset, .unset] [])) t → Steps p.tables e below B0 t := fun t k => K63 t (by
        refine Own.ifYes X59 hx 121 (hb hby at_106) ((if0 _ _).trans (teq hc64).1) (by decide) (by decide) ?_
        exact k)
      obtain ⟨T66, h66, b66, X66, e66, E66, g66, A66, D66, st66⟩ := Own.newO (Ls := #[.val (.int p0), .val (.int p1), .val (.int p2), .val (.int (p0 &&& (3 : Int32))), .val (.ref b2), .val (.ref b10), .val (.ref b18), .val (.ref b22), .val (.ref b32), .val (.ref b42), .val (.ref b54), .unset, .unset, .unset, .unset]) (S := []) X59 hx D61.hZ e59 D61.hown (hw _ (List.mem_of_getElem? (i := 1) rfl)) (hw _ (List.mem_of_getElem? (i := 2) rfl)) (hw _ (List.mem_of_getElem? (i := 3) rfl)) (hb hby at_121) (by decide) (by decide)
      have le_b66 : h59.size ≤ b66 := Nat.le_of_eq g66.symm
      have X66 : Stand p l e room_1 (s.setVm s.vm) m #[(.int p0), (.int p1), (.int p2)] below meth c T66 L59 12 26 := X66
      have m67 : h59.size ≤ h66.size := E66.1
      have D67 := D61.ext E66
      have F66_coder : Fld Z h66 b66 "java/lang/String" "coder" "B" (.int (0 : Int32)) := D66 (Or.inr (hw _ (List.mem_of_getElem? (i := 27) rfl))) (ty := .byte) (by decide)
      have F66_value : Fld Z h66 b66 "java/lang/String" "value" "[B" .null := D66 (Or.inr (hw _ (List.mem_of_getElem? (i := 29) rfl))) (ty := (.array .byte)) (by decide)
      have K68 : ∀ t, Steps p.tables e below (T66.setTop (mkF m 124 #[.val (.int p0), .val (.int p1), .val (.int p2), .val (.int (p0 &&& (3 : Int32))), .val (.ref b2), .val (.ref b10), .val (.ref b18), .val (.ref b22), .val (.ref b32), .val (.ref b42), .val (.ref b54), .unset, .unset, .unset, .unset] [(.ref b66)])) t → Steps p.tables e below B0 t := fun t k => K65 t (st66 t k)
      have f69 := ((((((f35.keep K37 (ninS (Nat.ne_of_lt (Nat.lt_of_lt_of_le (((V14.ext E18).ext E22).keep K27 (ninS (Nat.ne_of_lt (Nat.lt_of_lt_of_le (V14.ext E18).lt le_b22)) nin0)).lt le_b32)) nin0)).ext E42).keep K47 (ninS (Nat.ne_of_lt (Nat.lt_of_lt_of_le (f35.keep K37 (ninS (Nat.ne_of_lt (Nat.lt_of_lt_of_le (((V14.ext E18).ext E22).keep K27 (ninS (Nat.ne_of_lt (Nat.lt_of_lt_of_le (V14.ext E18).lt le_b22)) nin0)).lt le_b32)) nin0)).lt le_b42)) nin0)).ext E54).keep K59 (ninS (Nat.ne_of_lt (Nat.lt_of_lt_of_le (((f35.keep K37 (ninS (Nat.ne_of_lt (Nat.lt_of_lt_of_le (((V14.ext E18).ext E22).keep K27 (ninS (Nat.ne_of_lt (Nat.lt_of_lt_of_le (V14.ext E18).lt le_b22)) nin0)).lt le_b32)) nin0)).ext E42).keep K47 (ninS (Nat.ne_of_lt (Nat.lt_of_lt_of_le (f35.keep K37 (ninS (Nat.ne_of_lt (Nat.lt_of_lt_of_le (((V14.ext E18).ext E22).keep K27 (ninS (Nat.ne_of_lt (Nat.lt_of_lt_of_le (V14.ext E18).lt le_b22)) nin0)).lt le_b32)) nin0)).lt le_b42)) nin0)).lt le_b54)) nin0)).ext E66)
      have K70 : ∀ t, Steps p.tables e below (T66.setTop (mkF m 127 #[.val (.int p0), .val (.int p1), .val (.int p2), .val (.int (p0 &&& (3 : Int32))), .val (.ref b2), .val (.ref b10), .val (.ref b18), .val (.ref b22), .val (.ref b32), .val (.ref b42), .val (.ref b54), .unset, .unset, .unset, .unset] [(.ref b10), (.ref b66), (.ref b66)])) t → Steps p.tables e below B0 t := fun t k => K68 t (by
        refine Own.dup X66 hx (hb hby at_124) rfl ?_
        refine Own.aload X66 hx (hb hby at_125) rfl rfl ?_
        exact k)
      have f72 := ((Own.sta_keep f60 K59 A54).ext E66)
      obtain ⟨T71, h71, J71, L71, X71, e71, n71, NN71, K71, t71, st71⟩ := own_newS (Ls := #[.val (.int p0), .val (.int p1), .val (.int p2), .val (.int (p0 &&& (3 : Int32))), .val (.ref b2), .val (.ref b10), .val (.ref b18), .val (.ref b22), .val (.ref b32), .val (.ref b42), .val (.ref b54), .unset, .unset, .unset, .unset]) (cs := [(nar .char ((p2 &&& (255 : Int32)).toUInt32.toUInt16.toUInt32.toInt32))]) (n := 1) (n0 := n0) X66 hx D67.hZ e66 hw (hw _ (List.mem_of_getElem? (i := 2) rfl)) D67.hown rfl (Nat.le_trans Z0 (Nat.le_trans (Nat.le_trans (Nat.le_trans (Nat.le_trans (Nat.le_trans (Nat.le_trans (Nat.le_trans (Nat.le_trans (Nat.le_trans (Nat.le_trans (Nat.le_trans (Nat.le_trans (Nat.le_trans m3 m7) m11) m15) m19) m23) m29) m33) m39) m43) m49) m55) m61) le_b66)) (Nat.le_trans Z0 (Nat.le_trans (Nat.le_trans (Nat.le_trans (Nat.le_trans (Nat.le_trans (Nat.le_trans (Nat.le_trans (Nat.le_trans (Nat.le_trans (Nat.le_trans (Nat.le_trans (Nat.le_trans (Nat.le_trans m3 m7) m11) m15) m19) m23) m29) m33) m39) m43) m49) m55) m61) m67)) A66 F66_value F66_coder f69 f72 hG1 (by decide) (by decide) (own_hp p2) (hw _ (List.mem_of_getElem? (i := 4) rfl)) (hw _ (List.mem_of_getElem? (i := 5) rfl)) (hw _ (List.mem_of_getElem? (i := 6) rfl)) [(.ref b66)] 1 (by decide) (by decide) (by decide) (by decide) (by rw [hml]; rfl) (lenOf pd_4 rfl) (Nat.le_of_eq rfl) (hb hby at_127)
      have X71 : Stand p l e room_1 (s.setVm s.vm) m #[(.int p0), (.int p1), (.int p2)] below meth c T71 L71 13 27 := X71
      have N71 : Fr n0 L71 := n71 n0 N59 NN71
      have m73 : h66.size ≤ h71.size := K71.1
      have D73 := D67.keep K71 (sfS (Own.safe_null D67.hZ.alike A66 F66_value) sf0)
      have K74 : ∀ t, Steps p.tables e below (T71.setTop (mkF m 130 #[.val (.int p0), .val (.int p1), .val (.int p2), .val (.int (p0 &&& (3 : Int32))), .val (.ref b2), .val (.ref b10), .val (.ref b18), .val (.ref b22), .val (.ref b32), .val (.ref b42), .val (.ref b54), .unset, .unset, .unset, .unset] [(.ref b66)])) t → Steps p.tables e below B0 t := fun t k => K70 t (st71 t k)
      have K75 : ∀ t, Steps p.tables e below (T71.setTop (mkF m 133 #[.val (.int p0), .val (.int p1), .val (.int p2), .val (.int (p0 &&& (3 : Int32))), .val (.ref b2), .val (.ref b10), .val (.ref b18), .val (.ref b22), .val (.ref b32), .val (.ref b42), .val (.ref b54), .val (.ref b66), .unset, .unset, .unset] [(.int (p0 &&& (3 : Int32)))])) t → Steps p.tables e below B0 t := fun t k => K74 t (by
        refine Own.astore X71 hx #[.val (.int p0), .val (.int p1), .val (.int p2), .val (.int (p0 &&& (3 : Int32))), .val (.ref b2), .val (.ref b10), .val (.ref b18), .val (.ref b22), .val (.ref b32), .val (.ref b42), .val (.ref b54), .val (.ref b66), .unset, .unset, .unset] (hb hby at_130) rfl rfl ?_
        refine Own.iloadN X71 hx (hb hby at_132) rfl ?_
        exact k)
      by_cases hc76 : (p0 &&& (3 : Int32)) = (0 : Int32)
      · have K77 : ∀ t, Steps p.tables e below (T71.setTop (mkF m 136 #[.val (.int p0), .val (.int p1), .val (.int p2), .val (.int (p0 &&& (3 : Int32))), .val (.ref b2), .val (.ref b10), .val (.ref b18), .val (.ref b22), .val (.ref b32), .val (.ref b42), .val (.ref b54), .val (.ref b66), .unset, .unset, .unset] [])) t → Steps p.tables e below B0 t := fun t k => K75 t (by
          refine Own.ifNo X71 hx (hb hby at_133) ((if0 _ _).trans (teq hc76).2) ?_
          exact k)
        obtain ⟨T78, h78, b78, X78, e78, E78, g78, A78, D78, st78⟩ := Own.newO (Ls := #[.val (.int p0), .val (.int p1), .val (.int p2), .val (.int (p0 &&& (3 : Int32))), .val (.ref b2), .val (.ref b10), .val (.ref b18), .val (.ref b22), .val (.ref b32), .val (.ref b42), .val (.ref b54), .val (.ref b66), .unset, .unset, .unset]) (S := []) X71 hx D73.hZ e71 D73.hown (hw _ (List.mem_of_getElem? (i := 30) rfl)) (hw _ (List.mem_of_getElem? (i := 31) rfl)) (hw _ (List.mem_of_getElem? (i := 32) rfl)) (hb hby at_136) (by decide) (by decide)
        have le_b78 : h71.size ≤ b78 := Nat.le_of_eq g78.symm
        have X78 : Stand p l e room_1 (s.setVm s.vm) m #[(.int p0), (.int p1), (.int p2)] below meth c T78 L71 14 32 := X78
        have m79 : h71.size ≤ h78.size := E78.1
        have D79 := D73.ext E78
        have F78_site : Fld Z h78 b78 "com/example/cyclewarden/cyclewarden/core/Wait" "site" "Ljava/lang/String;" .null := D78 (Or.inr (hw _ (List.mem_of_getElem? (i := 55) rfl))) (ty := (.object "java/lang/String")) (by decide)
        have F78_waiter : Fld Z h78 b78 "com/example/cyclewarden/cyclewarden/core/Wait" "waiter" "Ljava/lang/String;" .null := D78 (Or.inr (hw _ (List.mem_of_getElem? (i := 57) rfl))) (ty := (.object "java/lang/String")) (by decide)
        have F78_holder : Fld Z h78 b78 "com/example/cyclewarden/cyclewarden/core/Wait" "holder" "Ljava/lang/String;" .null := D78 (Or.inr (hw _ (List.mem_of_getElem? (i := 59) rfl))) (ty := (.object "java/lang/String")) (by decide)
        have F78_waiterSession : Fld Z h78 b78 "com/example/cyclewarden/cyclewarden/core/Wait" "waiterSession" "Ljava/lang/String;" .null := D78 (Or.inr (hw _ (List.mem_of_getElem? (i := 61) rfl))) (ty := (.object "java/lang/String")) (by decide)
        have F78_holderSession : Fld Z h78 b78 "com/example/cyclewarden/cyclewarden/core/Wait" "holderSession" "Ljava/lang/String;" .null := D78 (Or.inr (hw _ (List.mem_of_getElem? (i := 63) rfl))) (ty := (.object "java/lang/String")) (by decide)
        have K80 : ∀ t, Steps p.tables e below (T78.setTop (mkF m 139 #[.val (.int p0), .val (.int p1), .val (.int p2), .val (.int (p0 &&& (3 : Int32))), .val (.ref b2), .val (.ref b10), .val (.ref b18), .val (.ref b22), .val (.ref b32), .val (.ref b42), .val (.ref b54), .val (.ref b66), .unset, .unset, .unset] [(.ref b78)])) t → Steps p.tables e below B0 t := fun t k => K77 t (st78 t k)
        have K81 : ∀ t, Steps p.tables e below (T78.setTop (mkF m 146 #[.val (.int p0), .val (.int p1), .val (.int p2), .val (.int (p0 &&& (3 : Int32))), .val (.ref b2), .val (.ref b10), .val (.ref b18), .val (.ref b22), .val (.ref b32), .val (.ref b42), .val (.ref b54), .val (.ref b66), .unset, .unset, .unset] [(.ref b42), (.ref b32), (.ref b22), (.ref b78), (.ref b78)])) t → Steps p.tables e below B0 t := fun t k => K80 t (by
          refine Own.dup X78 hx (hb hby at_139) rfl ?_
          refine Own.aload X78 hx (hb hby at_140) rfl rfl ?_
          refine Own.aload X78 hx (hb hby at_142) rfl rfl ?_
          refine Own.aload X78 hx (hb hby at_144) rfl rfl ?_
          exact k)
        obtain ⟨vm82, T82, h82, v82, J82, L82, X82, e82, D82, mm82, n82, hQ82, st82⟩ := Own.callIW (Ls := #[.val (.int p0), .val (.int p1), .val (.int p2), .val (.int (p0 &&& (3 : Int32))), .val (.ref b2), .val (.ref b10), .val (.ref b18), .val (.ref b22), .val (.ref b32), .val (.ref b42), .val (.ref b54), .val (.ref b66), .unset, .unset, .unset]) X78 hx (own_hEL hw) D79 e78 rfl b78 [(.ref b22), (.ref b32), (.ref b42)] [(.ref b78)] (cW3 l Z a0 hw b78 b22 b32 b42 n0 h78 (Nat.le_trans Z0 (Nat.le_trans (Nat.le_trans (Nat.le_trans (Nat.le_trans (Nat.le_trans (Nat.le_trans (Nat.le_trans (Nat.le_trans (Nat.le_trans (Nat.le_trans (Nat.le_trans (Nat.le_trans (Nat.le_trans (Nat.le_trans (Nat.le_trans m3 m7) m11) m15) m19) m23) m29) m33) m39) m43) m49) m55) m61) m67) m73) m79)) A78 (Nat.le_trans Z0 (Nat.le_trans (Nat.le_trans (Nat.le_trans (Nat.le_trans (Nat.le_trans (Nat.le_trans (Nat.le_trans (Nat.le_trans (Nat.le_trans (Nat.le_trans (Nat.le_trans (Nat.le_trans (Nat.le_trans (Nat.le_trans (Nat.le_trans m3 m7) m11) m15) m19) m23) m29) m33) m39) m43) m49) m55) m61) m67) m73) le_b78)) F78_site F78_waiter F78_holder F78_waiterSession F78_holderSession) (hw _ (List.mem_of_getElem? (i := 33) rfl)) (hw _ (List.mem_of_getElem? (i := 34) rfl)) (hw _ (List.mem_of_getElem? (i := 32) rfl)) (hw _ (List.mem_of_getElem? (i := 35) rfl)) (by decide) 1 (by decide) (by decide) (by decide) (by decide) (by rw [hml]; rfl) (lenOf pd_5 rfl) rfl (Nat.le_of_eq rfl) (hb hby at_146)
        have X82 : Stand p l e room_1 (s.setVm vm82) m #[(.int p0), (.int p1), (.int p2)] below meth c T82 L82 20 108 := X82
        obtain ⟨rfl, NN82, K82, E82, F82, G82⟩ := hQ82
        have N82 : Fr n0 L82 := n82 n0 N71 NN82
        have m83 : h78.size ≤ h82.size := K82.1
        have K84 : ∀ t, Steps p.tables e below (T82.setTop (mkF m 149 #[.val (.int p0), .val (.int p1), .val (.int p2), .val (.int (p0 &&& (3 : Int32))), .val (.ref b2), .val (.ref b10), .val (.ref b18), .val (.ref b22), .val (.ref b32), .val (.ref b42), .val (.ref b54), .val (.ref b66), .unset, .unset, .unset] [(.ref b78)])) t → Steps p.tables e below B0 t := fun t k => K81 t (st82 t k)
        have K85 : ∀ t, Steps p.tables e below (T82.setTop (mkF m 209 #[.val (.int p0), .val (.int p1), .val (.int p2), .val (.int (p0 &&& (3 : Int32))), .val (.ref b2), .val (.ref b10), .val (.ref b18), .val (.ref b22), .val (.ref b32), .val (.ref b42), .val (.ref b54), .val (.ref b66), .val (.ref b78), .val (.int (0 : Int32)), .unset] [(.ref b78)])) t → Steps p.tables e below B0 t := fun t k => K84 t (by
          refine Own.astore X82 hx #[.val (.int p0), .val (.int p1), .val (.int p2), .val (.int (p0 &&& (3 : Int32))), .val (.ref b2), .val (.ref b10), .val (.ref b18), .val (.ref b22), .val (.ref b32), .val (.ref b42), .val (.ref b54), .val (.ref b66), .val (.ref b78), .unset, .unset] (hb hby at_149) rfl rfl ?_
          refine Own.iconst X82 hx (0 : Int32) (hb hby at_151) rfl ?_
          refine Own.istore X82 hx #[.val (.int p0), .val (.int p1), .val (.int p2), .val (.int (p0 &&& (3 : Int32))), .val (.ref b2), .val (.ref b10), .val (.ref b18), .val (.ref b22), .val (.ref b32), .val (.ref b42), .val (.ref b54), .val (.ref b66), .val (.ref b78), .val (.int (0 : Int32)), .unset] (hb hby at_152) rfl ?_
          refine Own.goto X82 hx 207 (hb hby at_154) (by decide) (by decide) ?_
          refine Own.aload X82 hx (hb hby at_207) rfl rfl ?_
          exact k)
        obtain ⟨T86, X86, e86, st86⟩ := Own.callVP (Ls := #[.val (.int p0), .val (.int p1), .val (.int p2), .val (.int (p0 &&& (3 : Int32))), .val (.ref b2), .val (.ref b10), .val (.ref b18), .val (.ref b22), .val (.ref b32), .val (.ref b42), .val (.ref b54), .val (.ref b66), .val (.ref b78), .val (.int (0 : Int32)), .unset]) X82 hx D82.hZ e82 b78 [] [] (cNSN l Z a0 hw b78  h82 F82) D82.hown E82 (hw _ (List.mem_of_getElem? (i := 64) rfl)) (hw _ (List.mem_of_getElem? (i := 65) rfl)) (hw _ (List.mem_of_getElem? (i := 67) rfl)) (hw _ (List.mem_of_getElem? (i := 66) rfl)) (hw _ (List.mem_of_getElem? (i := 32) rfl)) (hw _ (List.mem_of_getElem? (i := 68) rfl)) (by decide) 0 rfl rfl (by decide) (by decide) (by decide) (by decide) (by rw [hml]; rfl) (lenOf pd_6 rfl) rfl (Nat.le_of_eq rfl) (hb hby at_209)
        have K87 : ∀ t, Steps p.tables e below (T86.setTop (mkF m 212 #[.val (.int p0), .val (.int p1), .val (.int p2), .val (.int (p0 &&& (3 : Int32))), .val (.ref b2), .val (.ref b10), .val (.ref b18), .val (.ref b22), .val (.ref b32), .val (.ref b42), .val (.ref b54), .val (.ref b66), .val (.ref b78), .val (.int (0 : Int32)), .unset] [(.int (0 : Int32))])) t → Steps p.tables e below B0 t := fun t k => K85 t (st86 t k)
        have K88 : ∀ t, Steps p.tables e below (T86.setTop (mkF m 218 #[.val (.int p0), .val (.int p1), .val (.int p2), .val (.int (p0 &&& (3 : Int32))), .val (.ref b2), .val (.ref b10), .val (.ref b18), .val (.ref b22), .val (.ref b32), .val (.ref b42), .val (.ref b54), .val (.ref b66), .val (.ref b78), .val (.int (0 : Int32)), .val (.int (0 : Int32))] [(.int (0 : Int32)), (.int (0 : Int32))])) t → Steps p.tables e below B0 t := fun t k => K87 t (by
          refine Own.istore X86 hx #[.val (.int p0), .val (.int p1), .val (.int p2), .val (.int (p0 &&& (3 : Int32))), .val (.ref b2), .val (.ref b10), .val (.ref b18), .val (.ref b22), .val (.ref b32), .val (.ref b42), .val (.ref b54), .val (.ref b66), .val (.ref b78), .val (.int (0 : Int32)), .val (.int (0 : Int32))] (hb hby at_212) rfl ?_
          refine Own.iload X86 hx (hb hby at_214) rfl ?_
          refine Own.iload X86 hx (hb hby at_216) rfl ?_
          exact k)
        have K89 : ∀ t, Steps p.tables e below (T86.setTop (mkF m 225 #[.val (.int p0), .val (.int p1), .val (.int p2), .val (.int (p0 &&& (3 : Int32))), .val (.ref b2), .val (.ref b10), .val (.ref b18), .val (.ref b22), .val (.ref b32), .val (.ref b42), .val (.ref b54), .val (.ref b66), .val (.ref b78), .val (.int (0 : Int32)), .val (.int (0 : Int32))] [(.ref b78), (.int (0 : Int32))])) t → Steps p.tables e below B0 t := fun t k => K88 t (by
          refine Own.icmpNo X86 hx (hb hby at_218) (teq (by decide : (0 : Int32) = (0 : Int32))).2 ?_
          refine Own.iload X86 hx (hb hby at_221) rfl ?_
          refine Own.aload X86 hx (hb hby at_223) rfl rfl ?_
          exact k)
        obtain ⟨T90, X90, e90, st90⟩ := Own.callVP (Ls := #[.val (.int p0), .val (.int p1), .val (.int p2), .val (.int (p0 &&& (3 : Int32))), .val (.ref b2), .val (.ref b10), .val (.ref b18), .val (.ref b22), .val (.ref b32), .val (.ref b42), .val (.ref b54), .val (.ref b66), .val (.ref b78), .val (.int (0 : Int32)), .val (.int (0 : Int32))]) X86 hx D82.hZ e86 b78 [] [(.int (0 : Int32))] (cHSN l Z a0 hw b78  h82 G82) D82.hown E82 (hw _ (List.mem_of_getElem? (i := 69) rfl)) (hw _ (List.mem_of_getElem? (i := 70) rfl)) (hw _ (List.mem_of_getElem? (i := 72) rfl)) (hw _ (List.mem_of_getElem? (i := 71) rfl)) (hw _ (List.mem_of_getElem? (i := 32) rfl)) (hw _ (List.mem_of_getElem? (i := 73) rfl)) (by decide) 1 rfl rfl (by decide) (by decide) (by decide) (by decide) (by rw [hml]; rfl) (lenOf pd_7 rfl) rfl (Nat.le_of_eq rfl) (hb hby at_225)
        have K91 : ∀ t, Steps p.tables e below (T90.setTop (mkF m 228 #[.val (.int p0), .val (.int p1), .val (.int p2), .val (.int (p0 &&& (3 : Int32))), .val (.ref b2), .val (.ref b10), .val (.ref b18), .val (.ref b22), .val (.ref b32), .val (.ref b42), .val (.ref b54), .val (.ref b66), .val (.ref b78), .val (.int (0 : Int32)), .val (.int (0 : Int32))] [.null, (.int (0 : Int32))])) t → Steps p.tables e below B0 t := fun t k => K89 t (st90 t k)
        have K92 : ∀ t, Steps p.tables e below (T90.setTop (mkF m 236 #[.val (.int p0), .val (.int p1), .val (.int p2), .val (.int (p0 &&& (3 : Int32))), .val (.ref b2), .val (.ref b10), .val (.ref b18), .val (.ref b22), .val (.ref b32), .val (.ref b42), .val (.ref b54), .val (.ref b66), .val (.ref b78), .val (.int (0 : Int32)), .val (.int (0 : Int32))] [(.int (0 : Int32)), (.int (0 : Int32))])) t → Steps p.tables e below B0 t := fun t k => K91 t (by
          refine Own.ifnullYes X90 hx 235 (hb hby at_228) (by decide) (by decide) ?_
          refine Own.iconst X90 hx (0 : Int32) (hb hby at_235) rfl ?_
          exact k)
        have K93 : ∀ t, Steps p.tables e below (T90.setTop (mkF m 244 #[.val (.int p0), .val (.int p1), .val (.int p2), .val (.int (p0 &&& (3 : Int32))), .val (.ref b2), .val (.ref b10), .val (.ref b18), .val (.ref b22), .val (.ref b32), .val (.ref b42), .val (.ref b54), .val (.ref b66), .val (.ref b78), .val (.int (0 : Int32)), .val (.int (0 : Int32))] [(.int (1 : Int32))])) t → Steps p.tables e below B0 t := fun t k => K92 t (by
          refine Own.icmpNo X90 hx (hb hby at_236) (teq (by decide : (0 : Int32) = (0 : Int32))).2 ?_
          refine Own.iconst X90 hx (1 : Int32) (hb hby at_239) rfl ?_
          refine Own.goto X90 hx 244 (hb hby at_240) (by decide) (by decide) ?_
          exact k)
        exact Own.finHN X90 hx (own_hEL hw) e90 D82 (BodyLoose.notSynchronized Bd) Bd.returns (by simp) (hb hby at_244) K93 (by decide) (by decide) ⟨rfl, hn0 ▸ N82⟩
      · have K94 : ∀ t, Steps p.tables e below (T71.setTop (mkF m 159 #[.val (.int p0), .val (.int p1), .val (.int p2), .val (.int (p0 &&& (3 : Int32))), .val (.ref b2), .val (.ref b10), .val (.ref b18), .val (.ref b22), .val (.ref b32), .val (.ref b42), .val (.ref b54), .val (.ref b66), .unset, .unset, .unset] [(.int (1 : Int32)), (.int (p0 &&& (3 : Int32)))])) t → Steps p.tables e below B0 t := fun t k => K75 t (by
          refine Own.ifYes X71 hx 157 (hb hby at_133) ((if0 _ _).trans (feq hc76).2) (by decide) (by decide) ?_
          refine Own.iloadN X71 hx (hb hby at_157) rfl ?_
          refine Own.iconst X71 hx (1 : Int32) (hb hby at_158) rfl ?_
          exact k)
        by_cases hc95 : (p0 &&& (3 : Int32)) = (1 : Int32)
        · have K96 : ∀ t, Steps p.tables e below (T71.setTop (mkF m 162 #[.val (.int p0), .val (.int p1), .val (.int p2), .val (.int (p0 &&& (3 : Int32))), .val (.ref b2), .val (.ref b10), .val (.ref b18), .val (.ref b22), .val (.ref b32), .val (.ref b42), .val (.ref b54), .val (.ref b66), .unset, .unset, .unset] [])) t → Steps p.tables e below B0 t := fun t k => K94 t (by
            refine Own.icmpNo X71 hx (hb hby at_159) (teq hc95).2 ?_
            exact k)
          obtain ⟨T97, h97, b97, X97, e97, E97, g97, A97, D97, st97⟩ := Own.newO (Ls := #[.val (.int p0), .val (.int p1), .val (.int p2), .val (.int (p0 &&& (3 : Int32))), .val (.ref b2), .val (.ref b10), .val (.ref b18), .val (.ref b22), .val (.ref b32), .val (.ref b42), .val (.ref b54), .val (.ref b66), .unset, .unset, .unset]) (S := []) X71 hx D73.hZ e71 D73.hown (hw _ (List.mem_of_getElem? (i := 30) rfl)) (hw _ (List.mem_of_getElem? (i := 31) rfl)) (hw _ (List.mem_of_getElem? (i := 32) rfl)) (hb hby at_162) (by decide) (by decide)
          have le_b97 : h71.size ≤ b97 := Nat.le_of_eq g97.symm
          have X97 : Stand p l e room_1 (s.setVm s.vm) m #[(.int p0), (.int p1), (.int p2)] below meth c T97 L71 14 32 := X97
          have m98 : h71.size ≤ h97.size := E97.1
          have D98 := D73.ext E97
          have F97_site : Fld Z h97 b97 "com/example/cyclewarden/cyclewarden/core/Wait" "site" "Ljava/lang/String;" .null := D97 (Or.inr (hw _ (List.mem_of_getElem? (i := 55) rfl))) (ty := (.object "java/lang/String")) (by decide)
          have F97_waiter : Fld Z h97 b97 "com/example/cyclewarden/cyclewarden/core/Wait" "waiter" "Ljava/lang/String;" .null := D97 (Or.inr (hw _ (List.mem_of_getElem? (i := 57) rfl))) (ty := (.object "java/lang/String")) (by decide)
          have F97_holder : Fld Z h97 b97 "com/example/cyclewarden/cyclewarden/core/Wait" "holder" "Ljava/lang/String;" .null := D97 (Or.inr (hw _ (List.mem_of_getElem? (i := 59) rfl))) (ty := (.object "java/lang/String")) (by decide)
          have F97_waiterSession : Fld Z h97 b97 "com/example/cyclewarden/cyclewarden/core/Wait" "waiterSession" "Ljava/lang/String;" .null := D97 (Or.inr (hw _ (List.mem_of_getElem? (i := 61) rfl))) (ty := (.object "java/lang/String")) (by decide)
          have F97_holderSession : Fld Z h97 b97 "com/example/cyclewarden/cyclewarden/core/Wait" "holderSession" "Ljava/lang/String;" .null := D97 (Or.inr (hw _ (List.mem_of_getElem? (i := 63) rfl))) (ty := (.object "java/lang/String")) (by decide)
          have K99 : ∀ t, Steps p.tables e below (T97.setTop (mkF m 165 #[.val (.int p0), .val (.int p1), .val (.int p2), .val (.int (p0 &&& (3 : Int32))), .val (.ref b2), .val (.ref b10), .val (.ref b18), .val (.ref b22), .val (.ref b32), .val (.ref b42), .val (.ref b54), .val (.ref b66), .unset, .unset, .unset] [(.ref b97)])) t → Steps p.tables e below B0 t := fun t k => K96 t (st97 t k)
          have K100 : ∀ t, Steps p.tables e below (T97.setTop (mkF m 174 #[.val (.int p0), .val (.int p1), .val (.int p2), .val (.int (p0 &&& (3 : Int32))), .val (.ref b2), .val (.ref b10), .val (.ref b18), .val (.ref b22), .val (.ref b32), .val (.ref b42), .val (.ref b54), .val (.ref b66), .unset, .unset, .unset] [.null, .null, (.ref b42), (.ref b32), (.ref b22), (.ref b97), (.ref b97)])) t → Steps p.tables e below B0 t := fun t k => K99 t (by
            refine Own.dup X97 hx (hb hby at_165) rfl ?_
            refine Own.aload X97 hx (hb hby at_166) rfl rfl ?_
            refine Own.aload X97 hx (hb hby at_168) rfl rfl ?_
            refine Own.aload X97 hx (hb hby at_170) rfl rfl ?_
            refine Own.aconstNull X97 hx (hb hby at_172) ?_
            refine Own.aconstNull X97 hx (hb hby at_173) ?_
            exact k)
          obtain ⟨vm101, T101, h101, v101, J101, L101, X101, e101, D101, mm101, n101, hQ101, st101⟩ := Own.callIW (Ls := #[.val (.int p0), .val (.int p1), .val (.int p2), .val (.int (p0 &&& (3 : Int32))), .val (.ref b2), .val (.ref b10), .val (.ref b18), .val (.ref b22), .val (.ref b32), .val (.ref b42), .val (.ref b54), .val (.ref b66), .unset, .unset, .unset]) X97 hx (own_hEL hw) D98 e97 rfl b97 [(.ref b22), (.ref b32), (.ref b42), .null, .null] [(.ref b97)] (cWN l Z a0 hw b97 b22 b32 b42 n0 h97 (Nat.le_trans Z0 (Nat.le_trans (Nat.le_trans (Nat.le_trans (Nat.le_trans (Nat.le_trans (Nat.le_trans (Nat.le_trans (Nat.le_trans (Nat.le_trans (Nat.le_trans (Nat.le_trans (Nat.le_trans (Nat.le_trans (Nat.le_trans (Nat.le_trans m3 m7) m11) m15) m19) m23) m29) m33) m39) m43) m49) m55) m61) m67) m73) m98)) A97 (Nat.le_trans Z0 (Nat.le_trans (Nat.le_trans (Nat.le_trans (Nat.le_trans (Nat.le_trans (Nat.le_trans (Nat.le_trans (Nat.le_trans (Nat.le_trans (Nat.le_trans (Nat.le_trans (Nat.le_trans (Nat.le_trans (Nat.le_trans (Nat.le_trans m3 m7) m11) m15) m19) m23) m29) m33) m39) m43) m49) m55) m61) m67) m73) le_b97)) F97_site F97_waiter F97_holder F97_waiterSession F97_holderSession) (hw _ (List.mem_of_getElem? (i := 74) rfl)) (hw _ (List.mem_of_getElem? (i := 37) rfl)) (hw _ (List.mem_of_getElem? (i := 32) rfl)) (hw _ (List.mem_of_getElem? (i := 38) rfl)) (by decide) 1 (by decide) (by decide) (by decide) (by decide) (by rw [hml]; rfl) (lenOf pd_3 rfl) rfl (Nat.le_of_eq rfl) (hb hby at_174)
          have X101 : Stand p l e room_1 (s.setVm vm101) m #[(.int p0), (.int p1), (.int p2)] below meth c T101 L101 20 108 := X101
          obtain ⟨rfl, NN101, K101, E101, F101, G101⟩ := hQ101
          have N101 : Fr n0 L101 := n101 n0 N71 NN101
          have m102 : h97.size ≤ h101.size := K101.1
          have K103 : ∀ t, Steps p.tables e below (T101.setTop (mkF m 177 #[.val (.int p0), .val (.int p1), .val (.int p2), .val (.int (p0 &&& (3 : Int32))), .val (.ref b2), .val (.ref b10), .val (.ref b18), .val (.ref b22), .val (.ref b32), .val (.ref b42), .val (.ref b54), .val (.ref b66), .unset, .unset, .unset] [(.ref b97)])) t → Steps p.tables e below B0 t := fun t k => K100 t (st101 t k)
          have K104 : ∀ t, Steps p.tables e below (T101.setTop (mkF m 209 #[.val (.int p0), .val (.int p1), .val (.int p2), .val (.int (p0 &&& (3 : Int32))), .val (.ref b2), .val (.ref b10), .val (.ref b18), .val (.ref b22), .val (.ref b32), .val (.ref b42), .val (.ref b54), .val (.ref b66), .val (.ref b97), .val (.int (0 : Int32)), .unset] [(.ref b97)])) t → Steps p.tables e below B0 t := fun t k => K103 t (by
            refine Own.astore X101 hx #[.val (.int p0), .val (.int p1), .val (.int p2), .val (.int (p0 &&& (3 : Int32))), .val (.ref b2), .val (.ref b10), .val (.ref b18), .val (.ref b22), .val (.ref b32), .val (.ref b42), .val (.ref b54), .val (.ref b66), .val (.ref b97), .unset, .unset] (hb hby at_177) rfl rfl ?_
            refine Own.iconst X101 hx (0 : Int32) (hb hby at_179) rfl ?_
            refine Own.istore X101 hx #[.val (.int p0), .val (.int p1), .val (.int p2), .val (.int (p0 &&& (3 : Int32))), .val (.ref b2), .val (.ref b10), .val (.ref b18), .val (.ref b22), .val (.ref b32), .val (.ref b42), .val (.ref b54), .val (.ref b66), .val (.ref b97), .val (.int (0 : Int32)), .unset] (hb hby at_180) rfl ?_
            refine Own.goto X101 hx 207 (hb hby at_182) (by decide) (by decide) ?_
            refine Own.aload X101 hx (hb hby at_207) rfl rfl ?_
            exact k)
          obtain ⟨T105, X105, e105, st105⟩ := Own.callVP (Ls := #[.val (.int p0), .val (.int p1), .val (.int p2), .val (.int (p0 &&& (3 : Int32))), .val (.ref b2), .val (.ref b10), .val (.ref b18), .val (.ref b22), .val (.ref b32), .val (.ref b42), .val (.ref b54), .val (.ref b66), .val (.ref b97), .val (.int (0 : Int32)), .unset]) X101 hx D101.hZ e101 b97 [] [] (cNSN l Z a0 hw b97  h101 F101) D101.hown E101 (hw _ (List.mem_of_getElem? (i := 64) rfl)) (hw _ (List.mem_of_getElem? (i := 65) rfl)) (hw _ (List.mem_of_getElem? (i := 67) rfl)) (hw _ (List.mem_of_getElem? (i := 66) rfl)) (hw _ (List.mem_of_getElem? (i := 32) rfl)) (hw _ (List.mem_of_getElem? (i := 68) rfl)) (by decide) 0 rfl rfl (by decide) (by decide) (by decide) (by decide) (by rw [hml]; rfl) (lenOf pd_6 rfl) rfl (Nat.le_of_eq rfl) (hb hby at_209)
          have K106 : ∀ t, Steps p.tables e below (T105.setTop (mkF m 212 #[.val (.int p0), .val (.int p1), .val (.int p2), .val (.int (p0 &&& (3 : Int32))), .val (.ref b2), .val (.ref b10), .val (.ref b18), .val (.ref b22), .val (.ref b32), .val (.ref b42), .val (.ref b54), .val (.ref b66), .val (.ref b97), .val (.int (0 : Int32)), .unset] [(.int (0 : Int32))])) t → Steps p.tables e below B0 t := fun t k => K104 t (st105 t k)
          have K107 : ∀ t, Steps p.tables e below (T105.setTop (mkF m 218 #[.val (.int p0), .val (.int p1), .val (.int p2), .val (.int (p0 &&& (3 : Int32))), .val (.ref b2), .val (.ref b10), .val (.ref b18), .val (.ref b22), .val (.ref b32), .val (.ref b42), .val (.ref b54), .val (.ref b66), .val (.ref b97), .val (.int (0 : Int32)), .val (.int (0 : Int32))] [(.int (0 : Int32)), (.int (0 : Int32))])) t → Steps p.tables e below B0 t := fun t k => K106 t (by
            refine Own.istore X105 hx #[.val (.int p0), .val (.int p1), .val (.int p2), .val (.int (p0 &&& (3 : Int32))), .val (.ref b2), .val (.ref b10), .val (.ref b18), .val (.ref b22), .val (.ref b32), .val (.ref b42), .val (.ref b54), .val (.ref b66), .val (.ref b97), .val (.int (0 : Int32)), .val (.int (0 : Int32))] (hb hby at_212) rfl ?_
            refine Own.iload X105 hx (hb hby at_214) rfl ?_
            refine Own.iload X105 hx (hb hby at_216) rfl ?_
            exact k)
          have K108 : ∀ t, Steps p.tables e below (T105.setTop (mkF m 225 #[.val (.int p0), .val (.int p1), .val (.int p2), .val (.int (p0 &&& (3 : Int32))), .val (.ref b2), .val (.ref b10), .val (.ref b18), .val (.ref b22), .val (.ref b32), .val (.ref b42), .val (.ref b54), .val (.ref b66), .val (.ref b97), .val (.int (0 : Int32)), .val (.int (0 : Int32))] [(.ref b97), (.int (0 : Int32))])) t → Steps p.tables e below B0 t := fun t k => K107 t (by
            refine Own.icmpNo X105 hx (hb hby at_218) (teq (by decide : (0 : Int32) = (0 : Int32))).2 ?_
            refine Own.iload X105 hx (hb hby at_221) rfl ?_
            refine Own.aload X105 hx (hb hby at_223) rfl rfl ?_
            exact k)
          obtain ⟨T109, X109, e109, st109⟩ := Own.callVP (Ls := #[.val (.int p0), .val (.int p1), .val (.int p2), .val (.int (p0 &&& (3 : Int32))), .val (.ref b2), .val (.ref b10), .val (.ref b18), .val (.ref b22), .val (.ref b32), .val (.ref b42), .val (.ref b54), .val (.ref b66), .val (.ref b97), .val (.int (0 : Int32)), .val (.int (0 : Int32))]) X105 hx D101.hZ e105 b97 [] [(.int (0 : Int32))] (cHSN l Z a0 hw b97  h101 G101) D101.hown E101 (hw _ (List.mem_of_getElem? (i := 69) rfl)) (hw _ (List.mem_of_getElem? (i := 70) rfl)) (hw _ (List.mem_of_getElem? (i := 72) rfl)) (hw _ (List.mem_of_getElem? (i := 71) rfl)) (hw _ (List.mem_of_getElem? (i := 32) rfl)) (hw _ (List.mem_of_getElem? (i := 73) rfl)) (by decide) 1 rfl rfl (by decide) (by decide) (by decide) (by decide) (by rw [hml]; rfl) (lenOf pd_7 rfl) rfl (Nat.le_of_eq rfl) (hb hby at_225)
          have K110 : ∀ t, Steps p.tables e below (T109.setTop (mkF m 228 #[.val (.int p0), .val (.int p1), .val (.int p2), .val (.int (p0 &&& (3 : Int32))), .val (.ref b2), .val (.ref b10), .val (.ref b18), .val (.ref b22), .val (.ref b32), .val (.ref b42), .val (.ref b54), .val (.ref b66), .val (.ref b97), .val (.int (0 : Int32)), .val (.int (0 : Int32))] [.null, (.int (0 : Int32))])) t → Steps p.tables e below B0 t := fun t k => K108 t (st109 t k)
          have K111 : ∀ t, Steps p.tables e below (T109.setTop (mkF m 236 #[.val (.int p0), .val (.int p1), .val (.int p2), .val (.int (p0 &&& (3 : Int32))), .val (.ref b2), .val (.ref b10), .val (.ref b18), .val (.ref b22), .val (.ref b32), .val (.ref b42), .val (.ref b54), .val (.ref b66), .val (.ref b97), .val (.int (0 : Int32)), .val (.int (0 : Int32))] [(.int (0 : Int32)), (.int (0 : Int32))])) t → Steps p.tables e below B0 t := fun t k => K110 t (by
            refine Own.ifnullYes X109 hx 235 (hb hby at_228) (by decide) (by decide) ?_
            refine Own.iconst X109 hx (0 : Int32) (hb hby at_235) rfl ?_
            exact k)
          have K112 : ∀ t, Steps p.tables e below (T109.setTop (mkF m 244 #[.val (.int p0), .val (.int p1), .val (.int p2), .val (.int (p0 &&& (3 : Int32))), .val (.ref b2), .val (.ref b10), .val (.ref b18), .val (.ref b22), .val (.ref b32), .val (.ref b42), .val (.ref b54), .val (.ref b66), .val (.ref b97), .val (.int (0 : Int32)), .val (.int (0 : Int32))] [(.int (1 : Int32))])) t → Steps p.tables e below B0 t := fun t k => K111 t (by
            refine Own.icmpNo X109 hx (hb hby at_236) (teq (by decide : (0 : Int32) = (0 : Int32))).2 ?_
            refine Own.iconst X109 hx (1 : Int32) (hb hby at_239) rfl ?_
            refine Own.goto X109 hx 244 (hb hby at_240) (by decide) (by decide) ?_
            exact k)
          exact Own.finHN X109 hx (own_hEL hw) e109 D101 (BodyLoose.notSynchronized Bd) Bd.returns (by simp) (hb hby at_244) K112 (by decide) (by decide) ⟨rfl, hn0 ▸ N101⟩
        · have K113 : ∀ t, Steps p.tables e below (T71.setTop (mkF m 185 #[.val (.int p0), .val (.int p1), .val (.int p2), .val (.int (p0 &&& (3 : Int32))), .val (.ref b2), .val (.ref b10), .val (.ref b18), .val (.ref b22), .val (.ref b32), .val (.ref b42), .val (.ref b54), .val (.ref b66), .unset, .unset, .unset] [])) t → Steps p.tables e below B0 t := fun t k => K94 t (by
            refine Own.icmpYes X71 hx 185 (hb hby at_159) (feq hc95).2 (by decide) (by decide) ?_
            exact k)
          obtain ⟨T114, h114, b114, X114, e114, E114, g114, A114, D114, st114⟩ := Own.newO (Ls := #[.val (.int p0), .val (.int p1), .val (.int p2), .val (.int (p0 &&& (3 : Int32))), .val (.ref b2), .val (.ref b10), .val (.ref b18), .val (.ref b22), .val (.ref b32), .val (.ref b42), .val (.ref b54), .val (.ref b66), .unset, .unset, .unset]) (S := []) X71 hx D73.hZ e71 D73.hown (hw _ (List.mem_of_getElem? (i := 30) rfl)) (hw _ (List.mem_of_getElem? (i := 31) rfl)) (hw _ (List.mem_of_getElem? (i := 32) rfl)) (hb hby at_185) (by decide) (by decide)
          have le_b114 : h71.size ≤ b114 := Nat.le_of_eq g114.symm
          have X114 : Stand p l e room_1 (s.setVm s.vm) m #[(.int p0), (.int p1), (.int p2)] below meth c T114 L71 14 32 := X114
          have m115 : h71.size ≤ h114.size := E114.1
          have D115 := D73.ext E114
          have F114_site : Fld Z h114 b114 "com/example/cyclewarden/cyclewarden/core/Wait" "site" "Ljava/lang/String;" .null := D114 (Or.inr (hw _ (List.mem_of_getElem? (i := 55) rfl))) (ty := (.object "java/lang/String")) (by decide)
          have F114_waiter : Fld Z h114 b114 "com/example/cyclewarden/cyclewarden/core/Wait" "waiter" "Ljava/lang/String;" .null := D114 (Or.inr (hw _ (List.mem_of_getElem? (i := 57) rfl))) (ty := (.object "java/lang/String")) (by decide)
          have F114_holder : Fld Z h114 b114 "com/example/cyclewarden/cyclewarden/core/Wait" "holder" "Ljava/lang/String;" .null := D114 (Or.inr (hw _ (List.mem_of_getElem? (i := 59) rfl))) (ty := (.object "java/lang/String")) (by decide)
          have F114_waiterSession : Fld Z h114 b114 "com/example/cyclewarden/cyclewarden/core/Wait" "waiterSession" "Ljava/lang/String;" .null := D114 (Or.inr (hw _ (List.mem_of_getElem? (i := 61) rfl))) (ty := (.object "java/lang/String")) (by decide)
          have F114_holderSession : Fld Z h114 b114 "com/example/cyclewarden/cyclewarden/core/Wait" "holderSession" "Ljava/lang/String;" .null := D114 (Or.inr (hw _ (List.mem_of_getElem? (i := 63) rfl))) (ty := (.object "java/lang/String")) (by decide)
          have K116 : ∀ t, Steps p.tables e below (T114.setTop (mkF m 188 #[.val (.int p0), .val (.int p1), .val (.int p2), .val (.int (p0 &&& (3 : Int32))), .val (.ref b2), .val (.ref b10), .val (.ref b18), .val (.ref b22), .val (.ref b32), .val (.ref b42), .val (.ref b54), .val (.ref b66), .unset, .unset, .unset] [(.ref b114)])) t → Steps p.tables e below B0 t := fun t k => K113 t (st114 t k)
          have K117 : ∀ t, Steps p.tables e below (T114.setTop (mkF m 199 #[.val (.int p0), .val (.int p1), .val (.int p2), .val (.int (p0 &&& (3 : Int32))), .val (.ref b2), .val (.ref b10), .val (.ref b18), .val (.ref b22), .val (.ref b32), .val (.ref b42), .val (.ref b54), .val (.ref b66), .unset, .unset, .unset] [(.ref b66), (.ref b54), (.ref b42), (.ref b32), (.ref b22), (.ref b114), (.ref b114)])) t → Steps p.tables e below B0 t := fun t k => K116 t (by
            refine Own.dup X114 hx (hb hby at_188) rfl ?_
            refine Own.aload X114 hx (hb hby at_189) rfl rfl ?_
            refine Own.aload X114 hx (hb hby at_191) rfl rfl ?_
            refine Own.aload X114 hx (hb hby at_193) rfl rfl ?_
            refine Own.aload X114 hx (hb hby at_195) rfl rfl ?_
            refine Own.aload X114 hx (hb hby at_197) rfl rfl ?_
            exact k)
          obtain ⟨vm118, T118, h118, v118, J118, L118, X118, e118, D118, mm118, n118, hQ118, st118⟩ := Own.callIW (Ls := #[.val (.int p0), .val (.int p1), .val (.int p2), .val (.int (p0 &&& (3 : Int32))), .val (.ref b2), .val (.ref b10), .val (.ref b18), .val (.ref b22), .val (.ref b32), .val (.ref b42), .val (.ref b54), .val (.ref b66), .unset, .unset, .unset]) X114 hx (own_hEL hw) D115 e114 rfl b114 [(.ref b22), (.ref b32), (.ref b42), (.ref b54), (.ref b66)] [(.ref b114)] (cWR l Z a0 hw b114 b22 b32 b42 b54 b66 n0 h114 (Nat.le_trans Z0 (Nat.le_trans (Nat.le_trans (Nat.le_trans (Nat.le_trans (Nat.le_trans (Nat.le_trans (Nat.le_trans (Nat.le_trans (Nat.le_trans (Nat.le_trans (Nat.le_trans (Nat.le_trans (Nat.le_trans (Nat.le_trans (Nat.le_trans m3 m7) m11) m15) m19) m23) m29) m33) m39) m43) m49) m55) m61) m67) m73) m115)) A114 (Nat.le_trans Z0 (Nat.le_trans (Nat.le_trans (Nat.le_trans (Nat.le_trans (Nat.le_trans (Nat.le_trans (Nat.le_trans (Nat.le_trans (Nat.le_trans (Nat.le_trans (Nat.le_trans (Nat.le_trans (Nat.le_trans (Nat.le_trans (Nat.le_trans m3 m7) m11) m15) m19) m23) m29) m33) m39) m43) m49) m55) m61) m67) m73) le_b114)) F114_site F114_waiter F114_holder F114_waiterSession F114_holderSession) (hw _ (List.mem_of_getElem? (i := 74) rfl)) (hw _ (List.mem_of_getElem? (i := 37) rfl)) (hw _ (List.mem_of_getElem? (i := 32) rfl)) (hw _ (List.mem_of_getElem? (i := 38) rfl)) (by decide) 1 (by decide) (by decide) (by decide) (by decide) (by rw [hml]; rfl) (lenOf pd_3 rfl) rfl (Nat.le_of_eq rfl) (hb hby at_199)
          have X118 : Stand p l e room_1 (s.setVm vm118) m #[(.int p0), (.int p1), (.int p2)] below meth c T118 L118 20 108 := X118
          obtain ⟨rfl, NN118, K118, E118, F118, G118⟩ := hQ118
          have N118 : Fr n0 L118 := n118 n0 N71 NN118
          have m119 : h114.size ≤ h118.size := K118.1
          have K120 : ∀ t, Steps p.tables e below (T118.setTop (mkF m 202 #[.val (.int p0), .val (.int p1), .val (.int p2), .val (.int (p0 &&& (3 : Int32))), .val (.ref b2), .val (.ref b10), .val (.ref b18), .val (.ref b22), .val (.ref b32), .val (.ref b42), .val (.ref b54), .val (.ref b66), .unset, .unset, .unset] [(.ref b114)])) t → Steps p.tables e below B0 t := fun t k => K117 t (st118 t k)
          have K121 : ∀ t, Steps p.tables e below (T118.setTop (mkF m 209 #[.val (.int p0), .val (.int p1), .val (.int p2), .val (.int (p0 &&& (3 : Int32))), .val (.ref b2), .val (.ref b10), .val (.ref b18), .val (.ref b22), .val (.ref b32), .val (.ref b42), .val (.ref b54), .val (.ref b66), .val (.ref b114), .val (.int (1 : Int32)), .unset] [(.ref b114)])) t → Steps p.tables e below B0 t := fun t k => K120 t (by
            refine Own.astore X118 hx #[.val (.int p0), .val (.int p1), .val (.int p2), .val (.int (p0 &&& (3 : Int32))), .val (.ref b2), .val (.ref b10), .val (.ref b18), .val (.ref b22), .val (.ref b32), .val (.ref b42), .val (.ref b54), .val (.ref b66), .val (.ref b114), .unset, .unset] (hb hby at_202) rfl rfl ?_
            refine Own.iconst X118 hx (1 : Int32) (hb hby at_204) rfl ?_
            refine Own.istore X118 hx #[.val (.int p0), .val (.int p1), .val (.int p2), .val (.int (p0 &&& (3 : Int32))), .val (.ref b2), .val (.ref b10), .val (.ref b18), .val (.ref b22), .val (.ref b32), .val (.ref b42), .val (.ref b54), .val (.ref b66), .val (.ref b114), .val (.int (1 : Int32)), .unset] (hb hby at_205) rfl ?_
            refine Own.aload X118 hx (hb hby at_207) rfl rfl ?_
            exact k)
          obtain ⟨T122, X122, e122, st122⟩ := Own.callVP (Ls := #[.val (.int p0), .val (.int p1), .val (.int p2), .val (.int (p0 &&& (3 : Int32))), .val (.ref b2), .val (.ref b10), .val (.ref b18), .val (.ref b22), .val (.ref b32), .val (.ref b42), .val (.ref b54), .val (.ref b66), .val (.ref b114), .val (.int (1 : Int32)), .unset]) X118 hx D118.hZ e118 b114 [] [] (cNSR l Z a0 hw b114 b54 h118 F118) D118.hown E118 (hw _ (List.mem_of_getElem? (i := 64) rfl)) (hw _ (List.mem_of_getElem? (i := 65) rfl)) (hw _ (List.mem_of_getElem? (i := 67) rfl)) (hw _ (List.mem_of_getElem? (i := 66) rfl)) (hw _ (List.mem_of_getElem? (i := 32) rfl)) (hw _ (List.mem_of_getElem? (i := 68) rfl)) (by decide) 0 rfl rfl (by decide) (by decide) (by decide) (by decide) (by rw [hml]; rfl) (lenOf pd_6 rfl) rfl (Nat.le_of_eq rfl) (hb hby at_209)
          have K123 : ∀ t, Steps p.tables e below (T122.setTop (mkF m 212 #[.val (.int p0), .val (.int p1), .val (.int p2), .val (.int (p0 &&& (3 : Int32))), .val (.ref b2), .val (.ref b10), .val (.ref b18), .val (.ref b22), .val (.ref b32), .val (.ref b42), .val (.ref b54), .val (.ref b66), .val (.ref b114), .val (.int (1 : Int32)), .unset] [(.int (1 : Int32))])) t → Steps p.tables e below B0 t := fun t k => K121 t (st122 t k)
          have K124 : ∀ t, Steps p.tables e below (T122.setTop (mkF m 218 #[.val (.int p0), .val (.int p1), .val (.int p2), .val (.int (p0 &&& (3 : Int32))), .val (.ref b2), .val (.ref b10), .val (.ref b18), .val (.ref b22), .val (.ref b32), .val (.ref b42), .val (.ref b54), .val (.ref b66), .val (.ref b114), .val (.int (1 : Int32)), .val (.int (1 : Int32))] [(.int (1 : Int32)), (.int (1 : Int32))])) t → Steps p.tables e below B0 t := fun t k => K123 t (by
            refine Own.istore X122 hx #[.val (.int p0), .val (.int p1), .val (.int p2), .val (.int (p0 &&& (3 : Int32))), .val (.ref b2), .val (.ref b10), .val (.ref b18), .val (.ref b22), .val (.ref b32), .val (.ref b42), .val (.ref b54), .val (.ref b66), .val (.ref b114), .val (.int (1 : Int32)), .val (.int (1 : Int32))] (hb hby at_212) rfl ?_
            refine Own.iload X122 hx (hb hby at_214) rfl ?_
            refine Own.iload X122 hx (hb hby at_216) rfl ?_
            exact k)
          have K125 : ∀ t, Steps p.tables e below (T122.setTop (mkF m 225 #[.val (.int p0), .val (.int p1), .val (.int p2), .val (.int (p0 &&& (3 : Int32))), .val (.ref b2), .val (.ref b10), .val (.ref b18), .val (.ref b22), .val (.ref b32), .val (.ref b42), .val (.ref b54), .val (.ref b66), .val (.ref b114), .val (.int (1 : Int32)), .val (.int (1 : Int32))] [(.ref b114), (.int (1 : Int32))])) t → Steps p.tables e below B0 t := fun t k => K124 t (by
            refine Own.icmpNo X122 hx (hb hby at_218) (teq (by decide : (1 : Int32) = (1 : Int32))).2 ?_
            refine Own.iload X122 hx (hb hby at_221) rfl ?_
            refine Own.aload X122 hx (hb hby at_223) rfl rfl ?_
            exact k)
          obtain ⟨T126, X126, e126, st126⟩ := Own.callVP (Ls := #[.val (.int p0), .val (.int p1), .val (.int p2), .val (.int (p0 &&& (3 : Int32))), .val (.ref b2), .val (.ref b10), .val (.ref b18), .val (.ref b22), .val (.ref b32), .val (.ref b42), .val (.ref b54), .val (.ref b66), .val (.ref b114), .val (.int (1 : Int32)), .val (.int (1 : Int32))]) X122 hx D118.hZ e122 b114 [] [(.int (1 : Int32))] (cHSR l Z a0 hw b114 b66 h118 G118) D118.hown E118 (hw _ (List.mem_of_getElem? (i := 69) rfl)) (hw _ (List.mem_of_getElem? (i := 70) rfl)) (hw _ (List.mem_of_getElem? (i := 72) rfl)) (hw _ (List.mem_of_getElem? (i := 71) rfl)) (hw _ (List.mem_of_getElem? (i := 32) rfl)) (hw _ (List.mem_of_getElem? (i := 73) rfl)) (by decide) 1 rfl rfl (by decide) (by decide) (by decide) (by decide) (by rw [hml]; rfl) (lenOf pd_7 rfl) rfl (Nat.le_of_eq rfl) (hb hby at_225)
          have K127 : ∀ t, Steps p.tables e below (T126.setTop (mkF m 228 #[.val (.int p0), .val (.int p1), .val (.int p2), .val (.int (p0 &&& (3 : Int32))), .val (.ref b2), .val (.ref b10), .val (.ref b18), .val (.ref b22), .val (.ref b32), .val (.ref b42), .val (.ref b54), .val (.ref b66), .val (.ref b114), .val (.int (1 : Int32)), .val (.int (1 : Int32))] [(.ref b66), (.int (1 : Int32))])) t → Steps p.tables e below B0 t := fun t k => K125 t (st126 t k)
          have K128 : ∀ t, Steps p.tables e below (T126.setTop (mkF m 236 #[.val (.int p0), .val (.int p1), .val (.int p2), .val (.int (p0 &&& (3 : Int32))), .val (.ref b2), .val (.ref b10), .val (.ref b18), .val (.ref b22), .val (.ref b32), .val (.ref b42), .val (.ref b54), .val (.ref b66), .val (.ref b114), .val (.int (1 : Int32)), .val (.int (1 : Int32))] [(.int (1 : Int32)), (.int (1 : Int32))])) t → Steps p.tables e below B0 t := fun t k => K127 t (by
            refine Own.ifnullNo X126 hx (hb hby at_228) ?_
            refine Own.iconst X126 hx (1 : Int32) (hb hby at_231) rfl ?_
            refine Own.goto X126 hx 236 (hb hby at_232) (by decide) (by decide) ?_
            exact k)
          have K129 : ∀ t, Steps p.tables e below (T126.setTop (mkF m 244 #[.val (.int p0), .val (.int p1), .val (.int p2), .val (.int (p0 &&& (3 : Int32))), .val (.ref b2), .val (.ref b10), .val (.ref b18), .val (.ref b22), .val (.ref b32), .val (.ref b42), .val (.ref b54), .val (.ref b66), .val (.ref b114), .val (.int (1 : Int32)), .val (.int (1 : Int32))] [(.int (1 : Int32))])) t → Steps p.tables e below B0 t := fun t k => K128 t (by
            refine Own.icmpNo X126 hx (hb hby at_236) (teq (by decide : (1 : Int32) = (1 : Int32))).2 ?_
            refine Own.iconst X126 hx (1 : Int32) (hb hby at_239) rfl ?_
            refine Own.goto X126 hx 244 (hb hby at_240) (by decide) (by decide) ?_
            exact k)
          exact Own.finHN X126 hx (own_hEL hw) e126 D118 (BodyLoose.notSynchronized Bd) Bd.returns (by simp) (hb hby at_244) K129 (by decide) (by decide) ⟨rfl, hn0 ▸ N118⟩
    · have K130 : ∀ t, Steps p.tables e below (T59.setTop (mkF m 109 #[.val (.int p0), .val (.int p1), .val (.int p2), .val (.int (p0 &&& (3 : Int32))), .val (.ref b2), .val (.ref b10), .val (.ref b18), .val (.ref b22), .val (.ref b32), .val (.ref b42), .val (.ref b54), .unset, .unset, .unset, .unset] [])) t → Steps p.tables e below B0 t := fun t k => K63 t (by
        refine Own.ifNo X59 hx (hb hby at_106) ((if0 _ _).trans (feq hc64).1) ?_
        exact k)
      obtain ⟨T131, h131, b131, X131, e131, E131, g131, A131, D131, st131⟩ := Own.newO (Ls := #[.val (.int p0), .val (.int p1), .val (.int p2), .val (.int (p0 &&& (3 : Int32))), .val (.ref b2), .val (.ref b10), .val (.ref b18), .val (.ref b22), .val (.ref b32), .val (.ref b42), .val (.ref b54), .unset, .unset, .unset, .unset]) (S := []) X59 hx D61.hZ e59 D61.hown (hw _ (List.mem_of_getElem? (i := 1) rfl)) (hw _ (List.mem_of_getElem? (i := 2) rfl)) (hw _ (List.mem_of_getElem? (i := 3) rfl)) (hb hby at_109) (by decide) (by decide)
      have le_b131 : h59.size ≤ b131 := Nat.le_of_eq g131.symm
      have X131 : Stand p l e room_1 (s.setVm s.vm) m #[(.int p0), (.int p1), (.int p2)] below meth c T131 L59 12 26 := X131
      have m132 : h59.size ≤ h131.size := E131.1
      have D132 := D61.ext E131
      have F131_coder : Fld Z h131 b131 "java/lang/String" "coder" "B" (.int (0 : Int32)) := D131 (Or.inr (hw _ (List.mem_of_getElem? (i := 27) rfl))) (ty := .byte) (by decide)
      have F131_value : Fld Z h131 b131 "java/lang/String" "value" "[B" .null := D131 (Or.inr (hw _ (List.mem_of_getElem? (i := 29) rfl))) (ty := (.array .byte)) (by decide)
      have K133 : ∀ t, Steps p.tables e below (T131.setTop (mkF m 112 #[.val (.int p0), .val (.int p1), .val (.int p2), .val (.int (p0 &&& (3 : Int32))), .val (.ref b2), .val (.ref b10), .val (.ref b18), .val (.ref b22), .val (.ref b32), .val (.ref b42), .val (.ref b54), .unset, .unset, .unset, .unset] [(.ref b131)])) t → Steps p.tables e below B0 t := fun t k => K130 t (st131 t k)
      have f134 := (((((((((V18.ext E22).keep K27 (ninS (Nat.ne_of_lt (Nat.lt_of_lt_of_le V18.lt le_b22)) nin0)).ext E32).keep K37 (ninS (Nat.ne_of_lt (Nat.lt_of_lt_of_le ((V18.ext E22).keep K27 (ninS (Nat.ne_of_lt (Nat.lt_of_lt_of_le V18.lt le_b22)) nin0)).lt le_b32)) nin0)).ext E42).keep K47 (ninS (Nat.ne_of_lt (Nat.lt_of_lt_of_le ((((V18.ext E22).keep K27 (ninS (Nat.ne_of_lt (Nat.lt_of_lt_of_le V18.lt le_b22)) nin0)).ext E32).keep K37 (ninS (Nat.ne_of_lt (Nat.lt_of_lt_of_le ((V18.ext E22).keep K27 (ninS (Nat.ne_of_lt (Nat.lt_of_lt_of_le V18.lt le_b22)) nin0)).lt le_b32)) nin0)).lt le_b42)) nin0)).ext E54).keep K59 (ninS (Nat.ne_of_lt (Nat.lt_of_lt_of_le ((((((V18.ext E22).keep K27 (ninS (Nat.ne_of_lt (Nat.lt_of_lt_of_le V18.lt le_b22)) nin0)).ext E32).keep K37 (ninS (Nat.ne_of_lt (Nat.lt_of_lt_of_le ((V18.ext E22).keep K27 (ninS (Nat.ne_of_lt (Nat.lt_of_lt_of_le V18.lt le_b22)) nin0)).lt le_b32)) nin0)).ext E42).keep K47 (ninS (Nat.ne_of_lt (Nat.lt_of_lt_of_le ((((V18.ext E22).keep K27 (ninS (Nat.ne_of_lt (Nat.lt_of_lt_of_le V18.lt le_b22)) nin0)).ext E32).keep K37 (ninS (Nat.ne_of_lt (Nat.lt_of_lt_of_le ((V18.ext E22).keep K27 (ninS (Nat.ne_of_lt (Nat.lt_of_lt_of_le V18.lt le_b22)) nin0)).lt le_b32)) nin0)).lt le_b42)) nin0)).lt le_b54)) nin0)).ext E131)
      have K135 : ∀ t, Steps p.tables e below (T131.setTop (mkF m 115 #[.val (.int p0), .val (.int p1), .val (.int p2), .val (.int (p0 &&& (3 : Int32))), .val (.ref b2), .val (.ref b10), .val (.ref b18), .val (.ref b22), .val (.ref b32), .val (.ref b42), .val (.ref b54), .unset, .unset, .unset, .unset] [(.ref b18), (.ref b131), (.ref b131)])) t → Steps p.tables e below B0 t := fun t k => K133 t (by
        refine Own.dup X131 hx (hb hby at_112) rfl ?_
        refine Own.aload X131 hx (hb hby at_113) rfl rfl ?_
        exact k)
      obtain ⟨vm136, T136, h136, v136, J136, L136, X136, e136, D136, mm136, n136, hQ136, st136⟩ := Own.callIW (Ls := #[.val (.int p0), .val (.int p1), .val (.int p2), .val (.int (p0 &&& (3 : Int32))), .val (.ref b2), .val (.ref b10), .val (.ref b18), .val (.ref b22), .val (.ref b32), .val (.ref b42), .val (.ref b54), .unset, .unset, .unset, .unset]) X131 hx (own_hEL hw) D132 e131 rfl b131 [(.ref b18)] [(.ref b131)] (cE1 l Z a0 hw b131 b18 n0 (.int (0 : Int32)) h131 (Nat.le_trans Z0 (Nat.le_trans (Nat.le_trans (Nat.le_trans (Nat.le_trans (Nat.le_trans (Nat.le_trans (Nat.le_trans (Nat.le_trans (Nat.le_trans (Nat.le_trans (Nat.le_trans (Nat.le_trans (Nat.le_trans m3 m7) m11) m15) m19) m23) m29) m33) m39) m43) m49) m55) m61) m132)) A131 F131_value F131_coder (Nat.le_trans Z0 (Nat.le_trans (Nat.le_trans (Nat.le_trans (Nat.le_trans (Nat.le_trans (Nat.le_trans (Nat.le_trans (Nat.le_trans (Nat.le_trans (Nat.le_trans (Nat.le_trans (Nat.le_trans (Nat.le_trans m3 m7) m11) m15) m19) m23) m29) m33) m39) m43) m49) m55) m61) le_b131)) f134) (hw _ (List.mem_of_getElem? (i := 4) rfl)) (hw _ (List.mem_of_getElem? (i := 5) rfl)) (hw _ (List.mem_of_getElem? (i := 3) rfl)) (hw _ (List.mem_of_getElem? (i := 6) rfl)) (by decide) 1 (by decide) (by decide) (by decide) (by decide) (by rw [hml]; rfl) (lenOf pd_4 rfl) rfl (Nat.le_of_eq rfl) (hb hby at_115)
      have X136 : Stand p l e room_1 (s.setVm vm136) m #[(.int p0), (.int p1), (.int p2)] below meth c T136 L136 16 34 := X136
      obtain ⟨rfl, NN136, K136, t136⟩ := hQ136
      have N136 : Fr n0 L136 := n136 n0 N59 NN136
      have m137 : h131.size ≤ h136.size := K136.1
      have K138 : ∀ t, Steps p.tables e below (T136.setTop (mkF m 118 #[.val (.int p0), .val (.int p1), .val (.int p2), .val (.int (p0 &&& (3 : Int32))), .val (.ref b2), .val (.ref b10), .val (.ref b18), .val (.ref b22), .val (.ref b32), .val (.ref b42), .val (.ref b54), .unset, .unset, .unset, .unset] [(.ref b131)])) t → Steps p.tables e below B0 t := fun t k => K135 t (st136 t k)
      have K139 : ∀ t, Steps p.tables e below (T136.setTop (mkF m 133 #[.val (.int p0), .val (.int p1), .val (.int p2), .val (.int (p0 &&& (3 : Int32))), .val (.ref b2), .val (.ref b10), .val (.ref b18), .val (.ref b22), .val (.ref b32), .val (.ref b42), .val (.ref b54), .val (.ref b131), .unset, .unset, .unset] [(.int (p0 &&& (3 : Int32)))])) t → Steps p.tables e below B0 t := fun t k => K138 t (by
        refine Own.goto X136 hx 130 (hb hby at_118) (by decide) (by decide) ?_
        refine Own.astore X136 hx #[.val (.int p0), .val (.int p1), .val (.int p2), .val (.int (p0 &&& (3 : Int32))), .val (.ref b2), .val (.ref b10), .val (.ref b18), .val (.ref b22), .val (.ref b32), .val (.ref b42), .val (.ref b54), .val (.ref b131), .unset, .unset, .unset] (hb hby at_130) rfl rfl ?_
        refine Own.iloadN X136 hx (hb hby at_132) rfl ?_
        exact k)
      by_cases hc140 : (p0 &&& (3 : Int32)) = (0 : Int32)
      · have K141 : ∀ t, Steps p.tables e below (T136.setTop (mkF m 136 #[.val (.int p0), .val (.int p1), .val (.int p2), .val (.int (p0 &&& (3 : Int32))), .val (.ref b2), .val (.ref b10), .val (.ref b18), .val (.ref b22), .val (.ref b32), .val (.ref b42), .val (.ref b54), .val (.ref b131), .unset, .unset, .unset] [])) t → Steps p.tables e below B0 t := fun t k => K139 t (by
          refine Own.ifNo X136 hx (hb hby at_133) ((if0 _ _).trans (teq hc140).2) ?_
          exact k)
        obtain ⟨T142, h142, b142, X142, e142, E142, g142, A142, D142, st142⟩ := Own.newO (Ls := #[.val (.int p0), .val (.int p1), .val (.int p2), .val (.int (p0 &&& (3 : Int32))), .val (.ref b2), .val (.ref b10), .val (.ref b18), .val (.ref b22), .val (.ref b32), .val (.ref b42), .val (.ref b54), .val (.ref b131), .unset, .unset, .unset]) (S := []) X136 hx D136.hZ e136 D136.hown (hw _ (List.mem_of_getElem? (i := 30) rfl)) (hw _ (List.mem_of_getElem? (i := 31) rfl)) (hw _ (List.mem_of_getElem? (i := 32) rfl)) (hb hby at_136) (by decide) (by decide)
        have le_b142 : h136.size ≤ b142 := Nat.le_of_eq g142.symm
        have X142 : Stand p l e room_1 (s.setVm vm136) m #[(.int p0), (.int p1), (.int p2)] below meth c T142 L136 17 39 := X142
        have m143 : h136.size ≤ h142.size := E142.1
        have D143 := D136.ext E142
        have F142_site : Fld Z h142 b142 "com/example/cyclewarden/cyclewarden/core/Wait" "site" "Ljava/lang/String;" .null := D142 (Or.inr (hw _ (List.mem_of_getElem? (i := 55) rfl))) (ty := (.object "java/lang/String")) (by decide)
        have F142_waiter : Fld Z h142 b142 "com/example/cyclewarden/cyclewarden/core/Wait" "waiter" "Ljava/lang/String;" .null := D142 (Or.inr (hw _ (List.mem_of_getElem? (i := 57) rfl))) (ty := (.object "java/lang/String")) (by decide)
        have F142_holder : Fld Z h142 b142 "com/example/cyclewarden/cyclewarden/core/Wait" "holder" "Ljava/lang/String;" .null := D142 (Or.inr (hw _ (List.mem_of_getElem? (i := 59) rfl))) (ty := (.object "java/lang/String")) (by decide)
        have F142_waiterSession : Fld Z h142 b142 "com/example/cyclewarden/cyclewarden/core/Wait" "waiterSession" "Ljava/lang/String;" .null := D142 (Or.inr (hw _ (List.mem_of_getElem? (i := 61) rfl))) (ty := (.object "java/lang/String")) (by decide)
        have F142_holderSession : Fld Z h142 b142 "com/example/cyclewarden/cyclewarden/core/Wait" "holderSession" "Ljava/lang/String;" .null := D142 (Or.inr (hw _ (List.mem_of_getElem? (i := 63) rfl))) (ty := (.object "java/lang/String")) (by decide)
        have K144 : ∀ t, Steps p.tables e below (T142.setTop (mkF m 139 #[.val (.int p0), .val (.int p1), .val (.int p2), .val (.int (p0 &&& (3 : Int32))), .val (.ref b2), .val (.ref b10), .val (.ref b18), .val (.ref b22), .val (.ref b32), .val (.ref b42), .val (.ref b54), .val (.ref b131), .unset, .unset, .unset] [(.ref b142)])) t → Steps p.tables e below B0 t := fun t k => K141 t (st142 t k)
        have K145 : ∀ t, Steps p.tables e below (T142.setTop (mkF m 146 #[.val (.int p0), .val (.int p1), .val (.int p2), .val (.int (p0 &&& (3 : Int32))), .val (.ref b2), .val (.ref b10), .val (.ref b18), .val (.ref b22), .val (.ref b32), .val (.ref b42), .val (.ref b54), .val (.ref b131), .unset, .unset, .unset] [(.ref b42), (.ref b32), (.ref b22), (.ref b142), (.ref b142)])) t → Steps p.tables e below B0 t := fun t k => K144 t (by
          refine Own.dup X142 hx (hb hby at_139) rfl ?_
          refine Own.aload X142 hx (hb hby at_140) rfl rfl ?_
          refine Own.aload X142 hx (hb hby at_142) rfl rfl ?_
          refine Own.aload X142 hx (hb hby at_144) rfl rfl ?_
          exact k)
        obtain ⟨vm146, T146, h146, v146, J146, L146, X146, e146, D146, mm146, n146, hQ146, st146⟩ := Own.callIW (Ls := #[.val (.int p0), .val (.int p1), .val (.int p2), .val (.int (p0 &&& (3 : Int32))), .val (.ref b2), .val (.ref b10), .val (.ref b18), .val (.ref b22), .val (.ref b32), .val (.ref b42), .val (.ref b54), .val (.ref b131), .unset, .unset, .unset]) X142 hx (own_hEL hw) D143 e142 rfl b142 [(.ref b22), (.ref b32), (.ref b42)] [(.ref b142)] (cW3 l Z a0 hw b142 b22 b32 b42 n0 h142 (Nat.le_trans Z0 (Nat.le_trans (Nat.le_trans (Nat.le_trans (Nat.le_trans (Nat.le_trans (Nat.le_trans (Nat.le_trans (Nat.le_trans (Nat.le_trans (Nat.le_trans (Nat.le_trans (Nat.le_trans (Nat.le_trans (Nat.le_trans (Nat.le_trans m3 m7) m11) m15) m19) m23) m29) m33) m39) m43) m49) m55) m61) m132) m137) m143)) A142 (Nat.le_trans Z0 (Nat.le_trans (Nat.le_trans (Nat.le_trans (Nat.le_trans (Nat.le_trans (Nat.le_trans (Nat.le_trans (Nat.le_trans (Nat.le_trans (Nat.le_trans (Nat.le_trans (Nat.le_trans (Nat.le_trans (Nat.le_trans (Nat.le_trans m3 m7) m11) m15) m19) m23) m29) m33) m39) m43) m49) m55) m61) m132) m137) le_b142)) F142_site F142_waiter F142_holder F142_waiterSession F142_holderSession) (hw _ (List.mem_of_getElem? (i := 33) rfl)) (hw _ (List.mem_of_getElem? (i := 34) rfl)) (hw _ (List.mem_of_getElem? (i := 32) rfl)) (hw _ (List.mem_of_getElem? (i := 35) rfl)) (by decide) 1 (by decide) (by decide) (by decide) (by decide) (by rw [hml]; rfl) (lenOf pd_5 rfl) rfl (Nat.le_of_eq rfl) (hb hby at_146)
        have X146 : Stand p l e room_1 (s.setVm vm146) m #[(.int p0), (.int p1), (.int p2)] below meth c T146 L146 23 115 := X146
        obtain ⟨rfl, NN146, K146, E146, F146, G146⟩ := hQ146
        have N146 : Fr n0 L146 := n146 n0 N136 NN146
        have m147 : h142.size ≤ h146.size := K146.1
        have K148 : ∀ t, Steps p.tables e below (T146.setTop (mkF m 149 #[.val (.int p0), .val (.int p1), .val (.int p2), .val (.int (p0 &&& (3 : Int32))), .val (.ref b2), .val (.ref b10), .val (.ref b18), .val (.ref b22), .val (.ref b32), .val (.ref b42), .val (.ref b54), .val (.ref b131), .unset, .unset, .unset] [(.ref b142)])) t → Steps p.tables e below B0 t := fun t k => K145 t (st146 t k)
        have K149 : ∀ t, Steps p.tables e below (T146.setTop (mkF m 209 #[.val (.int p0), .val (.int p1), .val (.int p2), .val (.int (p0 &&& (3 : Int32))), .val (.ref b2), .val (.ref b10), .val (.ref b18), .val (.ref b22), .val (.ref b32), .val (.ref b42), .val (.ref b54), .val (.ref b131), .val (.ref b142), .val (.int (0 : Int32)), .unset] [(.ref b142)])) t → Steps p.tables e below B0 t := fun t k => K148 t (by
          refine Own.astore X146 hx #[.val (.int p0), .val (.int p1), .val (.int p2), .val (.int (p0 &&& (3 : Int32))), .val (.ref b2), .val (.ref b10), .val (.ref b18), .val (.ref b22), .val (.ref b32), .val (.ref b42), .val (.ref b54), .val (.ref b131), .val (.ref b142), .unset, .unset] (hb hby at_149) rfl rfl ?_
          refine Own.iconst X146 hx (0 : Int32) (hb hby at_151) rfl ?_
          refine Own.istore X146 hx #[.val (.int p0), .val (.int p1), .val (.int p2), .val (.int (p0 &&& (3 : Int32))), .val (.ref b2), .val (.ref b10), .val (.ref b18), .val (.ref b22), .val (.ref b32), .val (.ref b42), .val (.ref b54), .val (.ref b131), .val (.ref b142), .val (.int (0 : Int32)), .unset] (hb hby at_152) rfl ?_
          refine Own.goto X146 hx 207 (hb hby at_154) (by decide) (by decide) ?_
          refine Own.aload X146 hx (hb hby at_207) rfl rfl ?_
          exact k)
        obtain ⟨T150, X150, e150, st150⟩ := Own.callVP (Ls := #[.val (.int p0), .val (.int p1), .val (.int p2), .val (.int (p0 &&& (3 : Int32))), .val (.ref b2), .val (.ref b10), .val (.ref b18), .val (.ref b22), .val (.ref b32), .val (.ref b42), .val (.ref b54), .val (.ref b131), .val (.ref b142), .val (.int (0 : Int32)), .unset]) X146 hx D146.hZ e146 b142 [] [] (cNSN l Z a0 hw b142  h146 F146) D146.hown E146 (hw _ (List.mem_of_getElem? (i := 64) rfl)) (hw _ (List.mem_of_getElem? (i := 65) rfl)) (hw _ (List.mem_of_getElem? (i := 67) rfl)) (hw _ (List.mem_of_getElem? (i := 66) rfl)) (hw _ (List.mem_of_getElem? (i := 32) rfl)) (hw _ (List.mem_of_getElem? (i := 68) rfl)) (by decide) 0 rfl rfl (by decide) (by decide) (by decide) (by decide) (by rw [hml]; rfl) (lenOf pd_6 rfl) rfl (Nat.le_of_eq rfl) (hb hby at_209)
        have K151 : ∀ t, Steps p.tables e below (T150.setTop (mkF m 212 #[.val (.int p0), .val (.int p1), .val (.int p2), .val (.int (p0 &&& (3 : Int32))), .val (.ref b2), .val (.ref b10), .val (.ref b18), .val (.ref b22), .val (.ref b32), .val (.ref b42), .val (.ref b54), .val (.ref b131), .val (.ref b142), .val (.int (0 : Int32)), .unset] [(.int (0 : Int32))])) t → Steps p.tables e below B0 t := fun t k => K149 t (st150 t k)
        have K152 : ∀ t, Steps p.tables e below (T150.setTop (mkF m 218 #[.val (.int p0), .val (.int p1), .val (.int p2), .val (.int (p0 &&& (3 : Int32))), .val (.ref b2), .val (.ref b10), .val (.ref b18), .val (.ref b22), .val (.ref b32), .val (.ref b42), .val (.ref b54), .val (.ref b131), .val (.ref b142), .val (.int (0 : Int32)), .val (.int (0 : Int32))] [(.int (0 : Int32)), (.int (0 : Int32))])) t → Steps p.tables e below B0 t := fun t k => K151 t (by
          refine Own.istore X150 hx #[.val (.int p0), .val (.int p1), .val (.int p2), .val (.int (p0 &&& (3 : Int32))), .val (.ref b2), .val (.ref b10), .val (.ref b18), .val (.ref b22), .val (.ref b32), .val (.ref b42), .val (.ref b54), .val (.ref b131), .val (.ref b142), .val (.int (0 : Int32)), .val (.int (0 : Int32))] (hb hby at_212) rfl ?_
          refine Own.iload X150 hx (hb hby at_214) rfl ?_
          refine Own.iload X150 hx (hb hby at_216) rfl ?_
          exact k)
        have K153 : ∀ t, Steps p.tables e below (T150.setTop (mkF m 225 #[.val (.int p0), .val (.int p1), .val (.int p2), .val (.int (p0 &&& (3 : Int32))), .val (.ref b2), .val (.ref b10), .val (.ref b18), .val (.ref b22), .val (.ref b32), .val (.ref b42), .val (.ref b54), .val (.ref b131), .val (.ref b142), .val (.int (0 : Int32)), .val (.int (0 : Int32))] [(.ref b142), (.int (0 : Int32))])) t → Steps p.tables e below B0 t := fun t k => K152 t (by
          refine Own.icmpNo X150 hx (hb hby at_218) (teq (by decide : (0 : Int32) = (0 : Int32))).2 ?_
          refine Own.iload X150 hx (hb hby at_221) rfl ?_
          refine Own.aload X150 hx (hb hby at_223) rfl rfl ?_
          exact k)
        obtain ⟨T154, X154, e154, st154⟩ := Own.callVP (Ls := #[.val (.int p0), .val (.int p1), .val (.int p2), .val (.int (p0 &&& (3 : Int32))), .val (.ref b2), .val (.ref b10), .val (.ref b18), .val (.ref b22), .val (.ref b32), .val (.ref b42), .val (.ref b54), .val (.ref b131), .val (.ref b142), .val (.int (0 : Int32)), .val (.int (0 : Int32))]) X150 hx D146.hZ e150 b142 [] [(.int (0 : Int32))] (cHSN l Z a0 hw b142  h146 G146) D146.hown E146 (hw _ (List.mem_of_getElem? (i := 69) rfl)) (hw _ (List.mem_of_getElem? (i := 70) rfl)) (hw _ (List.mem_of_getElem? (i := 72) rfl)) (hw _ (List.mem_of_getElem? (i := 71) rfl)) (hw _ (List.mem_of_getElem? (i := 32) rfl)) (hw _ (List.mem_of_getElem? (i := 73) rfl)) (by decide) 1 rfl rfl (by decide) (by decide) (by decide) (by decide) (by rw [hml]; rfl) (lenOf pd_7 rfl) rfl (Nat.le_of_eq rfl) (hb hby at_225)
        have K155 : ∀ t, Steps p.tables e below (T154.setTop (mkF m 228 #[.val (.int p0), .val (.int p1), .val (.int p2), .val (.int (p0 &&& (3 : Int32))), .val (.ref b2), .val (.ref b10), .val (.ref b18), .val (.ref b22), .val (.ref b32), .val (.ref b42), .val (.ref b54), .val (.ref b131), .val (.ref b142), .val (.int (0 : Int32)), .val (.int (0 : Int32))] [.null, (.int (0 : Int32))])) t → Steps p.tables e below B0 t := fun t k => K153 t (st154 t k)
        have K156 : ∀ t, Steps p.tables e below (T154.setTop (mkF m 236 #[.val (.int p0), .val (.int p1), .val (.int p2), .val (.int (p0 &&& (3 : Int32))), .val (.ref b2), .val (.ref b10), .val (.ref b18), .val (.ref b22), .val (.ref b32), .val (.ref b42), .val (.ref b54), .val (.ref b131), .val (.ref b142), .val (.int (0 : Int32)), .val (.int (0 : Int32))] [(.int (0 : Int32)), (.int (0 : Int32))])) t → Steps p.tables e below B0 t := fun t k => K155 t (by
          refine Own.ifnullYes X154 hx 235 (hb hby at_228) (by decide) (by decide) ?_
          refine Own.iconst X154 hx (0 : Int32) (hb hby at_235) rfl ?_
          exact k)
        have K157 : ∀ t, Steps p.tables e below (T154.setTop (mkF m 244 #[.val (.int p0), .val (.int p1), .val (.int p2), .val (.int (p0 &&& (3 : Int32))), .val (.ref b2), .val (.ref b10), .val (.ref b18), .val (.ref b22), .val (.ref b32), .val (.ref b42), .val (.ref b54), .val (.ref b131), .val (.ref b142), .val (.int (0 : Int32)), .val (.int (0 : Int32))] [(.int (1 : Int32))])) t → Steps p.tables e below B0 t := fun t k => K156 t (by
          refine Own.icmpNo X154 hx (hb hby at_236) (teq (by decide : (0 : Int32) = (0 : Int32))).2 ?_
          refine Own.iconst X154 hx (1 : Int32) (hb hby at_239) rfl ?_
          refine Own.goto X154 hx 244 (hb hby at_240) (by decide) (by decide) ?_
          exact k)
        exact Own.finHN X154 hx (own_hEL hw) e154 D146 (BodyLoose.notSynchronized Bd) Bd.returns (by simp) (hb hby at_244) K157 (by decide) (by decide) ⟨rfl, hn0 ▸ N146⟩
      · have K158 : ∀ t, Steps p.tables e below (T136.setTop (mkF m 159 #[.val (.int p0), .val (.int p1), .val (.int p2), .val (.int (p0 &&& (3 : Int32))), .val (.ref b2), .val (.ref b10), .val (.ref b18), .val (.ref b22), .val (.ref b32), .val (.ref b42), .val (.ref b54), .val (.ref b131), .unset, .unset, .unset] [(.int (1 : Int32)), (.int (p0 &&& (3 : Int32)))])) t → Steps p.tables e below B0 t := fun t k => K139 t (by
          refine Own.ifYes X136 hx 157 (hb hby at_133) ((if0 _ _).trans (feq hc140).2) (by decide) (by decide) ?_
          refine Own.iloadN X136 hx (hb hby at_157) rfl ?_
          refine Own.iconst X136 hx (1 : Int32) (hb hby at_158) rfl ?_
          exact k)
        by_cases hc159 : (p0 &&& (3 : Int32)) = (1 : Int32)
        · have K160 : ∀ t, Steps p.tables e below (T136.setTop (mkF m 162 #[.val (.int p0), .val (.int p1), .val (.int p2), .val (.int (p0 &&& (3 : Int32))), .val (.ref b2), .val (.ref b10), .val (.ref b18), .val (.ref b22), .val (.ref b32), .val (.ref b42), .val (.ref b54), .val (.ref b131), .unset, .unset, .unset] [])) t → Steps p.tables e below B0 t := fun t k => K158 t (by
            refine Own.icmpNo X136 hx (hb hby at_159) (teq hc159).2 ?_
            exact k)
          obtain ⟨T161, h161, b161, X161, e161, E161, g161, A161, D161, st161⟩ := Own.newO (Ls := #[.val (.int p0), .val (.int p1), .val (.int p2), .val (.int (p0 &&& (3 : Int32))), .val (.ref b2), .val (.ref b10), .val (.ref b18), .val (.ref b22), .val (.ref b32), .val (.ref b42), .val (.ref b54), .val (.ref b131), .unset, .unset, .unset]) (S := []) X136 hx D136.hZ e136 D136.hown (hw _ (List.mem_of_getElem? (i := 30) rfl)) (hw _ (List.mem_of_getElem? (i := 31) rfl)) (hw _ (List.mem_of_getElem? (i := 32) rfl)) (hb hby at_162) (by decide) (by decide)
          have le_b161 : h136.size ≤ b161 := Nat.le_of_eq g161.symm
          have X161 : Stand p l e room_1 (s.setVm vm136) m #[(.int p0), (.int p1), (.int p2)] below meth c T161 L136 17 39 := X161
          have m162 : h136.size ≤ h161.size := E161.1
          have D162 := D136.ext E161
          have F161_site : Fld Z h161 b161 "com/example/cyclewarden/cyclewarden/core/Wait" "site" "Ljava/lang/String;" .null := D161 (Or.inr (hw _ (List.mem_of_getElem? (i := 55) rfl))) (ty := (.object "java/lang/String")) (by decide)
          have F161_waiter : Fld Z h161 b161 "com/example/cyclewarden/cyclewarden/core/Wait" "waiter" "Ljava/lang/String;" .null := D161 (Or.inr (hw _ (List.mem_of_getElem? (i := 57) rfl))) (ty := (.object "java/lang/String")) (by decide)
          have F161_holder : Fld Z h161 b161 "com/example/cyclewarden/cyclewarden/core/Wait" "holder" "Ljava/lang/String;" .null := D161 (Or.inr (hw _ (List.mem_of_getElem? (i := 59) rfl))) (ty := (.object "java/lang/String")) (by decide)
          have F161_waiterSession : Fld Z h161 b161 "com/example/cyclewarden/cyclewarden/core/Wait" "waiterSession" "Ljava/lang/String;" .null := D161 (Or.inr (hw _ (List.mem_of_getElem? (i := 61) rfl))) (ty := (.object "java/lang/String")) (by decide)
          have F161_holderSession : Fld Z h161 b161 "com/example/cyclewarden/cyclewarden/core/Wait" "holderSession" "Ljava/lang/String;" .null := D161 (Or.inr (hw _ (List.mem_of_getElem? (i := 63) rfl))) (ty := (.object "java/lang/String")) (by decide)
          have K163 : ∀ t, Steps p.tables e below (T161.setTop (mkF m 165 #[.val (.int p0), .val (.int p1), .val (.int p2), .val (.int (p0 &&& (3 : Int32))), .val (.ref b2), .val (.ref b10), .val (.ref b18), .val (.ref b22), .val (.ref b32), .val (.ref b42), .val (.ref b54), .val (.ref b131), .unset, .unset, .unset] [(.ref b161)])) t → Steps p.tables e below B0 t := fun t k => K160 t (st161 t k)
          have K164 : ∀ t, Steps p.tables e below (T161.setTop (mkF m 174 #[.val (.int p0), .val (.int p1), .val (.int p2), .val (.int (p0 &&& (3 : Int32))), .val (.ref b2), .val (.ref b10), .val (.ref b18), .val (.ref b22), .val (.ref b32), .val (.ref b42), .val (.ref b54), .val (.ref b131), .unset, .unset, .unset] [.null, .null, (.ref b42), (.ref b32), (.ref b22), (.ref b161), (.ref b161)])) t → Steps p.tables e below B0 t := fun t k => K163 t (by
            refine Own.dup X161 hx (hb hby at_165) rfl ?_
            refine Own.aload X161 hx (hb hby at_166) rfl rfl ?_
            refine Own.aload X161 hx (hb hby at_168) rfl rfl ?_
            refine Own.aload X161 hx (hb hby at_170) rfl rfl ?_
            refine Own.aconstNull X161 hx (hb hby at_172) ?_
            refine Own.aconstNull X161 hx (hb hby at_173) ?_
            exact k)
          obtain ⟨vm165, T165, h165, v165, J165, L165, X165, e165, D165, mm165, n165, hQ165, st165⟩ := Own.callIW (Ls := #[.val (.int p0), .val (.int p1), .val (.int p2), .val (.int (p0 &&& (3 : Int32))), .val (.ref b2), .val (.ref b10), .val (.ref b18), .val (.ref b22), .val (.ref b32), .val (.ref b42), .val (.ref b54), .val (.ref b131), .unset, .unset, .unset]) X161 hx (own_hEL hw) D162 e161 rfl b161 [(.ref b22), (.ref b32), (.ref b42), .null, .null] [(.ref b161)] (cWN l Z a0 hw b161 b22 b32 b42 n0 h161 (Nat.le_trans Z0 (Nat.le_trans (Nat.le_trans (Nat.le_trans (Nat.le_trans (Nat.le_trans (Nat.le_trans (Nat.le_trans (Nat.le_trans (Nat.le_trans (Nat.le_trans (Nat.le_trans (Nat.le_trans (Nat.le_trans (Nat.le_trans (Nat.le_trans m3 m7) m11) m15) m19) m23) m29) m33) m39) m43) m49) m55) m61) m132) m137) m162)) A161 (Nat.le_trans Z0 (Nat.le_trans (Nat.le_trans (Nat.le_trans (Nat.le_trans (Nat.le_trans (Nat.le_trans (Nat.le_trans (Nat.le_trans (Nat.le_trans (Nat.le_trans (Nat.le_trans (Nat.le_trans (Nat.le_trans (Nat.le_trans (Nat.le_trans m3 m7) m11) m15) m19) m23) m29) m33) m39) m43) m49) m55) m61) m132) m137) le_b161)) F161_site F161_waiter F161_holder F161_waiterSession F161_holderSession) (hw _ (List.mem_of_getElem? (i := 74) rfl)) (hw _ (List.mem_of_getElem? (i := 37) rfl)) (hw _ (List.mem_of_getElem? (i := 32) rfl)) (hw _ (List.mem_of_getElem? (i := 38) rfl)) (by decide) 1 (by decide) (by decide) (by decide) (by decide) (by rw [hml]; rfl) (lenOf pd_3 rfl) rfl (Nat.le_of_eq rfl) (hb hby at_174)
          have X165 : Stand p l e room_1 (s.setVm vm165) m #[(.int p0), (.int p1), (.int p2)] below meth c T165 L165 23 115 := X165
          obtain ⟨rfl, NN165, K165, E165, F165, G165⟩ := hQ165
          have N165 : Fr n0 L165 := n165 n0 N136 NN165
          have m166 : h161.size ≤ h165.size := K165.1
          have K167 : ∀ t, Steps p.tables e below (T165.setTop (mkF m 177 #[.val (.int p0), .val (.int p1), .val (.int p2), .val (.int (p0 &&& (3 : Int32))), .val (.ref b2), .val (.ref b10), .val (.ref b18), .val (.ref b22), .val (.ref b32), .val (.ref b42), .val (.ref b54), .val (.ref b131), .unset, .unset, .unset] [(.ref b161)])) t → Steps p.tables e below B0 t := fun t k => K164 t (st165 t k)
          have K168 : ∀ t, Steps p.tables e below (T165.setTop (mkF m 209 #[.val (.int p0), .val (.int p1), .val (.int p2), .val (.int (p0 &&& (3 : Int32))), .val (.ref b2), .val (.ref b10), .val (.ref b18), .val (.ref b22), .val (.ref b32), .val (.ref b42), .val (.ref b54), .val (.ref b131), .val (.ref b161), .val (.int (0 : Int32)), .unset] [(.ref b161)])) t → Steps p.tables e below B0 t := fun t k => K167 t (by
            refine Own.astore X165 hx #[.val (.int p0), .val (.int p1), .val (.int p2), .val (.int (p0 &&& (3 : Int32))), .val (.ref b2), .val (.ref b10), .val (.ref b18), .val (.ref b22), .val (.ref b32), .val (.ref b42), .val (.ref b54), .val (.ref b131), .val (.ref b161), .unset, .unset] (hb hby at_177) rfl rfl ?_
            refine Own.iconst X165 hx (0 : Int32) (hb hby at_179) rfl ?_
            refine Own.istore X165 hx #[.val (.int p0), .val (.int p1), .val (.int p2), .val (.int (p0 &&& (3 : Int32))), .val (.ref b2), .val (.ref b10), .val (.ref b18), .val (.ref b22), .val (.ref b32), .val (.ref b42), .val (.ref b54), .val (.ref b131), .val (.ref b161), .val (.int (0 : Int32)), .unset] (hb hby at_180) rfl ?_
            refine Own.goto X165 hx 207 (hb hby at_182) (by decide) (by decide) ?_
            refine Own.aload X165 hx (hb hby at_207) rfl rfl ?_
            exact k)
          obtain ⟨T169, X169, e169, st169⟩ := Own.callVP (Ls := #[.val (.int p0), .val (.int p1), .val (.int p2), .val (.int (p0 &&& (3 : Int32))), .val (.ref b2), .val (.ref b10), .val (.ref b18), .val (.ref b22), .val (.ref b32), .val (.ref b42), .val (.ref b54), .val (.ref b131), .val (.ref b161), .val (.int (0 : Int32)), .unset]) X165 hx D165.hZ e165 b161 [] [] (cNSN l Z a0 hw b161  h165 F165) D165.hown E165 (hw _ (List.mem_of_getElem? (i := 64) rfl)) (hw _ (List.mem_of_getElem? (i := 65) rfl)) (hw _ (List.mem_of_getElem? (i := 67) rfl)) (hw _ (List.mem_of_getElem? (i := 66) rfl)) (hw _ (List.mem_of_getElem? (i := 32) rfl)) (hw _ (List.mem_of_getElem? (i := 68) rfl)) (by decide) 0 rfl rfl (by decide) (by decide) (by decide) (by decide) (by rw [hml]; rfl) (lenOf pd_6 rfl) rfl (Nat.le_of_eq rfl) (hb hby at_209)
          have K170 : ∀ t, Steps p.tables e below (T169.setTop (mkF m 212 #[.val (.int p0), .val (.int p1), .val (.int p2), .val (.int (p0 &&& (3 : Int32))), .val (.ref b2), .val (.ref b10), .val (.ref b18), .val (.ref b22), .val (.ref b32), .val (.ref b42), .val (.ref b54), .val (.ref b131), .val (.ref b161), .val (.int (0 : Int32)), .unset] [(.int (0 : Int32))])) t → Steps p.tables e below B0 t := fun t k => K168 t (st169 t k)
          have K171 : ∀ t, Steps p.tables e below (T169.setTop (mkF m 218 #[.val (.int p0), .val (.int p1), .val (.int p2), .val (.int (p0 &&& (3 : Int32))), .val (.ref b2), .val (.ref b10), .val (.ref b18), .val (.ref b22), .val (.ref b32), .val (.ref b42), .val (.ref b54), .val (.ref b131), .val (.ref b161), .val (.int (0 : Int32)), .val (.int (0 : Int32))] [(.int (0 : Int32)), (.int (0 : Int32))])) t → Steps p.tables e below B0 t := fun t k => K170 t (by
            refine Own.istore X169 hx #[.val (.int p0), .val (.int p1), .val (.int p2), .val (.int (p0 &&& (3 : Int32))), .val (.ref b2), .val (.ref b10), .val (.ref b18), .val (.ref b22), .val (.ref b32), .val (.ref b42), .val (.ref b54), .val (.ref b131), .val (.ref b161), .val (.int (0 : Int32)), .val (.int (0 : Int32))] (hb hby at_212) rfl ?_
            refine Own.iload X169 hx (hb hby at_214) rfl ?_
            refine Own.iload X169 hx (hb hby at_216) rfl ?_
            exact k)
          have K172 : ∀ t, Steps p.tables e below (T169.setTop (mkF m 225 #[.val (.int p0), .val (.int p1), .val (.int p2), .val (.int (p0 &&& (3 : Int32))), .val (.ref b2), .val (.ref b10), .val (.ref b18), .val (.ref b22), .val (.ref b32), .val (.ref b42), .val (.ref b54), .val (.ref b131), .val (.ref b161), .val (.int (0 : Int32)), .val (.int (0 : Int32))] [(.ref b161), (.int (0 : Int32))])) t → Steps p.tables e below B0 t := fun t k => K171 t (by
            refine Own.icmpNo X169 hx (hb hby at_218) (teq (by decide : (0 : Int32) = (0 : Int32))).2 ?_
            refine Own.iload X169 hx (hb hby at_221) rfl ?_
            refine Own.aload X169 hx (hb hby at_223) rfl rfl ?_
            exact k)
          obtain ⟨T173, X173, e173, st173⟩ := Own.callVP (Ls := #[.val (.int p0), .val (.int p1), .val (.int p2), .val (.int (p0 &&& (3 : Int32))), .val (.ref b2), .val (.ref b10), .val (.ref b18), .val (.ref b22), .val (.ref b32), .val (.ref b42), .val (.ref b54), .val (.ref b131), .val (.ref b161), .val (.int (0 : Int32)), .val (.int (0 : Int32))]) X169 hx D165.hZ e169 b161 [] [(.int (0 : Int32))] (cHSN l Z a0 hw b161  h165 G165) D165.hown E165 (hw _ (List.mem_of_getElem? (i := 69) rfl)) (hw _ (List.mem_of_getElem? (i := 70) rfl)) (hw _ (List.mem_of_getElem? (i := 72) rfl)) (hw _ (List.mem_of_getElem? (i := 71) rfl)) (hw _ (List.mem_of_getElem? (i := 32) rfl)) (hw _ (List.mem_of_getElem? (i := 73) rfl)) (by decide) 1 rfl rfl (by decide) (by decide) (by decide) (by decide) (by rw [hml]; rfl) (lenOf pd_7 rfl) rfl (Nat.le_of_eq rfl) (hb hby at_225)
          have K174 : ∀ t, Steps p.tables e below (T173.setTop (mkF m 228 #[.val (.int p0), .val (.int p1), .val (.int p2), .val (.int (p0 &&& (3 : Int32))), .val (.ref b2), .val (.ref b10), .val (.ref b18), .val (.ref b22), .val (.ref b32), .val (.ref b42), .val (.ref b54), .val (.ref b131), .val (.ref b161), .val (.int (0 : Int32)), .val (.int (0 : Int32))] [.null, (.int (0 : Int32))])) t → Steps p.tables e below B0 t := fun t k => K172 t (st173 t k)
          have K175 : ∀ t, Steps p.tables e below (T173.setTop (mkF m 236 #[.val (.int p0), .val (.int p1), .val (.int p2), .val (.int (p0 &&& (3 : Int32))), .val (.ref b2), .val (.ref b10), .val (.ref b18), .val (.ref b22), .val (.ref b32), .val (.ref b42), .val (.ref b54), .val (.ref b131), .val (.ref b161), .val (.int (0 : Int32)), .val (.int (0 : Int32))] [(.int (0 : Int32)), (.int (0 : Int32))])) t → Steps p.tables e below B0 t := fun t k => K174 t (by
            refine Own.ifnullYes X173 hx 235 (hb hby at_228) (by decide) (by decide) ?_
            refine Own.iconst X173 hx (0 : Int32) (hb hby at_235) rfl ?_
            exact k)
          have K176 : ∀ t, Steps p.tables e below (T173.setTop (mkF m 244 #[.val (.int p0), .val (.int p1), .val (.int p2), .val (.int (p0 &&& (3 : Int32))), .val (.ref b2), .val (.ref b10), .val (.ref b18), .val (.ref b22), .val (.ref b32), .val (.ref b42), .val (.ref b54), .val (.ref b131), .val (.ref b161), .val (.int (0 : Int32)), .val (.int (0 : Int32))] [(.int (1 : Int32))])) t → Steps p.tables e below B0 t := fun t k => K175 t (by
            refine Own.icmpNo X173 hx (hb hby at_236) (teq (by decide : (0 : Int32) = (0 : Int32))).2 ?_
            refine Own.iconst X173 hx (1 : Int32) (hb hby at_239) rfl ?_
            refine Own.goto X173 hx 244 (hb hby at_240) (by decide) (by decide) ?_
            exact k)
          exact Own.finHN X173 hx (own_hEL hw) e173 D165 (BodyLoose.notSynchronized Bd) Bd.returns (by simp) (hb hby at_244) K176 (by decide) (by decide) ⟨rfl, hn0 ▸ N165⟩
        · have K177 : ∀ t, Steps p.tables e below (T136.setTop (mkF m 185 #[.val (.int p0), .val (.int p1), .val (.int p2), .val (.int (p0 &&& (3 : Int32))), .val (.ref b2), .val (.ref b10), .val (.ref b18), .val (.ref b22), .val (.ref b32), .val (.ref b42), .val (.ref b54), .val (.ref b131), .unset, .unset, .unset] [])) t → Steps p.tables e below B0 t := fun t k => K158 t (by
            refine Own.icmpYes X136 hx 185 (hb hby at_159) (feq hc159).2 (by decide) (by decide) ?_
            exact k)
          obtain ⟨T178, h178, b178, X178, e178, E178, g178, A178, D178, st178⟩ := Own.newO (Ls := #[.val (.int p0), .val (.int p1), .val (.int p2), .val (.int (p0 &&& (3 : Int32))), .val (.ref b2), .val (.ref b10), .val (.ref b18), .val (.ref b22), .val (.ref b32), .val (.ref b42), .val (.ref b54), .val (.ref b131), .unset, .unset, .unset]) (S := []) X136 hx D136.hZ e136 D136.hown (hw _ (List.mem_of_getElem? (i := 30) rfl)) (hw _ (List.mem_of_getElem? (i := 31) rfl)) (hw _ (List.mem_of_getElem? (i := 32) rfl)) (hb hby at_185) (by decide) (by decide)
          have le_b178 : h136.size ≤ b178 := Nat.le_of_eq g178.symm
          have X178 : Stand p l e room_1 (s.setVm vm136) m #[(.int p0), (.int p1), (.int p2)] below meth c T178 L136 17 39 := X178
          have m179 : h136.size ≤ h178.size := E178.1
          have D179 := D136.ext E178
          have F178_site : Fld Z h178 b178 "com/example/cyclewarden/cyclewarden/core/Wait" "site" "Ljava/lang/String;" .null := D178 (Or.inr (hw _ (List.mem_of_getElem? (i := 55) rfl))) (ty := (.object "java/lang/String")) (by decide)
          have F178_waiter : Fld Z h178 b178 "com/example/cyclewarden/cyclewarden/core/Wait" "waiter" "Ljava/lang/String;" .null := D178 (Or.inr (hw _ (List.mem_of_getElem? (i := 57) rfl))) (ty := (.object "java/lang/String")) (by decide)
          have F178_holder : Fld Z h178 b178 "com/example/cyclewarden/cyclewarden/core/Wait" "holder" "Ljava/lang/String;" .null := D178 (Or.inr (hw _ (List.mem_of_getElem? (i := 59) rfl))) (ty := (.object "java/lang/String")) (by decide)
          have F178_waiterSession : Fld Z h178 b178 "com/example/cyclewarden/cyclewarden/core/Wait" "waiterSession" "Ljava/lang/String;" .null := D178 (Or.inr (hw _ (List.mem_of_getElem? (i := 61) rfl))) (ty := (.object "java/lang/String")) (by decide)
          have F178_holderSession : Fld Z h178 b178 "com/example/cyclewarden/cyclewarden/core/Wait" "holderSession" "Ljava/lang/String;" .null := D178 (Or.inr (hw _ (List.mem_of_getElem? (i := 63) rfl))) (ty := (.object "java/lang/String")) (by decide)
          have K180 : ∀ t, Steps p.tables e below (T178.setTop (mkF m 188 #[.val (.int p0), .val (.int p1), .val (.int p2), .val (.int (p0 &&& (3 : Int32))), .val (.ref b2), .val (.ref b10), .val (.ref b18), .val (.ref b22), .val (.ref b32), .val (.ref b42), .val (.ref b54), .val (.ref b131), .unset, .unset, .unset] [(.ref b178)])) t → Steps p.tables e below B0 t := fun t k => K177 t (st178 t k)
          have K181 : ∀ t, Steps p.tables e below (T178.setTop (mkF m 199 #[.val (.int p0), .val (.int p1), .val (.int p2), .val (.int (p0 &&& (3 : Int32))), .val (.ref b2), .val (.ref b10), .val (.ref b18), .val (.ref b22), .val (.ref b32), .val (.ref b42), .val (.ref b54), .val (.ref b131), .unset, .unset, .unset] [(.ref b131), (.ref b54), (.ref b42), (.ref b32), (.ref b22), (.ref b178), (.ref b178)])) t → Steps p.tables e below B0 t := fun t k => K180 t (by
            refine Own.dup X178 hx (hb hby at_188) rfl ?_
            refine Own.aload X178 hx (hb hby at_189) rfl rfl ?_
            refine Own.aload X178 hx (hb hby at_191) rfl rfl ?_
            refine Own.aload X178 hx (hb hby at_193) rfl rfl ?_
            refine Own.aload X178 hx (hb hby at_195) rfl rfl ?_
            refine Own.aload X178 hx (hb hby at_197) rfl rfl ?_
            exact k)
          obtain ⟨vm182, T182, h182, v182, J182, L182, X182, e182, D182, mm182, n182, hQ182, st182⟩ := Own.callIW (Ls := #[.val (.int p0), .val (.int p1), .val (.int p2), .val (.int (p0 &&& (3 : Int32))), .val (.ref b2), .val (.ref b10), .val (.ref b18), .val (.ref b22), .val (.ref b32), .val (.ref b42), .val (.ref b54), .val (.ref b131), .unset, .unset, .unset]) X178 hx (own_hEL hw) D179 e178 rfl b178 [(.ref b22), (.ref b32), (.ref b42), (.ref b54), (.ref b131)] [(.ref b178)] (cWR l Z a0 hw b178 b22 b32 b42 b54 b131 n0 h178 (Nat.le_trans Z0 (Nat.le_trans (Nat.le_trans (Nat.le_trans (Nat.le_trans (Nat.le_trans (Nat.le_trans (Nat.le_trans (Nat.le_trans (Nat.le_trans (Nat.le_trans (Nat.le_trans (Nat.le_trans (Nat.le_trans (Nat.le_trans (Nat.le_trans m3 m7) m11) m15) m19) m23) m29) m33) m39) m43) m49) m55) m61) m132) m137) m179)) A178 (Nat.le_trans Z0 (Nat.le_trans (Nat.le_trans (Nat.le_trans (Nat.le_trans (Nat.le_trans (Nat.le_trans (Nat.le_trans (Nat.le_trans (Nat.le_trans (Nat.le_trans (Nat.le_trans (Nat.le_trans (Nat.le_trans (Nat.le_trans (Nat.le_trans m3 m7) m11) m15) m19) m23) m29) m33) m39) m43) m49) m55) m61) m132) m137) le_b178)) F178_site F178_waiter F178_holder F178_waiterSession F178_holderSession) (hw _ (List.mem_of_getElem? (i := 74) rfl)) (hw _ (List.mem_of_getElem? (i := 37) rfl)) (hw _ (List.mem_of_getElem? (i := 32) rfl)) (hw _ (List.mem_of_getElem? (i := 38) rfl)) (by decide) 1 (by decide) (by decide) (by decide) (by decide) (by rw [hml]; rfl) (lenOf pd_3 rfl) rfl (Nat.le_of_eq rfl) (hb hby at_199)
          have X182 : Stand p l e room_1 (s.setVm vm182) m #[(.int p0), (.int p1), (.int p2)] below meth c T182 L182 23 115 := X182
          obtain ⟨rfl, NN182, K182, E182, F182, G182⟩ := hQ182
          have N182 : Fr n0 L182 := n182 n0 N136 NN182
          have m183 : h178.size ≤ h182.size := K182.1
          have K184 : ∀ t, Steps p.tables e below (T182.setTop (mkF m 202 #[.val (.int p0), .val (.int p1), .val (.int p2), .val (.int (p0 &&& (3 : Int32))), .val (.ref b2), .val (.ref b10), .val (.ref b18), .val (.ref b22), .val (.ref b32), .val (.ref b42), .val (.ref b54), .val (.ref b131), .unset, .unset, .unset] [(.ref b178)])) t → Steps p.tables e below B0 t := fun t k => K181 t (st182 t k)
          have K185 : ∀ t, Steps p.tables e below (T182.setTop (mkF m 209 #[.val (.int p0), .val (.int p1), .val (.int p2), .val (.int (p0 &&& (3 : Int32))), .val (.ref b2), .val (.ref b10), .val (.ref b18), .val (.ref b22), .val (.ref b32), .val (.ref b42), .val (.ref b54), .val (.ref b131), .val (.ref b178), .val (.int (1 : Int32)), .unset] [(.ref b178)])) t → Steps p.tables e below B0 t := fun t k => K184 t (by
            refine Own.astore X182 hx #[.val (.int p0), .val (.int p1), .val (.int p2), .val (.int (p0 &&& (3 : Int32))), .val (.ref b2), .val (.ref b10), .val (.ref b18), .val (.ref b22), .val (.ref b32), .val (.ref b42), .val (.ref b54), .val (.ref b131), .val (.ref b178), .unset, .unset] (hb hby at_202) rfl rfl ?_
            refine Own.iconst X182 hx (1 : Int32) (hb hby at_204) rfl ?_
            refine Own.istore X182 hx #[.val (.int p0), .val (.int p1), .val (.int p2), .val (.int (p0 &&& (3 : Int32))), .val (.ref b2), .val (.ref b10), .val (.ref b18), .val (.ref b22), .val (.ref b32), .val (.ref b42), .val (.ref b54), .val (.ref b131), .val (.ref b178), .val (.int (1 : Int32)), .unset] (hb hby at_205) rfl ?_
            refine Own.aload X182 hx (hb hby at_207) rfl rfl ?_
            exact k)
          obtain ⟨T186, X186, e186, st186⟩ := Own.callVP (Ls := #[.val (.int p0), .val (.int p1), .val (.int p2), .val (.int (p0 &&& (3 : Int32))), .val (.ref b2), .val (.ref b10), .val (.ref b18), .val (.ref b22), .val (.ref b32), .val (.ref b42), .val (.ref b54), .val (.ref b131), .val (.ref b178), .val (.int (1 : Int32)), .unset]) X182 hx D182.hZ e182 b178 [] [] (cNSR l Z a0 hw b178 b54 h182 F182) D182.hown E182 (hw _ (List.mem_of_getElem? (i := 64) rfl)) (hw _ (List.mem_of_getElem? (i := 65) rfl)) (hw _ (List.mem_of_getElem? (i := 67) rfl)) (hw _ (List.mem_of_getElem? (i := 66) rfl)) (hw _ (List.mem_of_getElem? (i := 32) rfl)) (hw _ (List.mem_of_getElem? (i := 68) rfl)) (by decide) 0 rfl rfl (by decide) (by decide) (by decide) (by decide) (by rw [hml]; rfl) (lenOf pd_6 rfl) rfl (Nat.le_of_eq rfl) (hb hby at_209)
          have K187 : ∀ t, Steps p.tables e below (T186.setTop (mkF m 212 #[.val (.int p0), .val (.int p1), .val (.int p2), .val (.int (p0 &&& (3 : Int32))), .val (.ref b2), .val (.ref b10), .val (.ref b18), .val (.ref b22), .val (.ref b32), .val (.ref b42), .val (.ref b54), .val (.ref b131), .val (.ref b178), .val (.int (1 : Int32)), .unset] [(.int (1 : Int32))])) t → Steps p.tables e below B0 t := fun t k => K185 t (st186 t k)
          have K188 : ∀ t, Steps p.tables e below (T186.setTop (mkF m 218 #[.val (.int p0), .val (.int p1), .val (.int p2), .val (.int (p0 &&& (3 : Int32))), .val (.ref b2), .val (.ref b10), .val (.ref b18), .val (.ref b22), .val (.ref b32), .val (.ref b42), .val (.ref b54), .val (.ref b131), .val (.ref b178), .val (.int (1 : Int32)), .val (.int (1 : Int32))] [(.int (1 : Int32)), (.int (1 : Int32))])) t → Steps p.tables e below B0 t := fun t k => K187 t (by
            refine Own.istore X186 hx #[.val (.int p0), .val (.int p1), .val (.int p2), .val (.int (p0 &&& (3 : Int32))), .val (.ref b2), .val (.ref b10), .val (.ref b18), .val (.ref b22), .val (.ref b32), .val (.ref b42), .val (.ref b54), .val (.ref b131), .val (.ref b178), .val (.int (1 : Int32)), .val (.int (1 : Int32))] (hb hby at_212) rfl ?_
            refine Own.iload X186 hx (hb hby at_214) rfl ?_
            refine Own.iload X186 hx (hb hby at_216) rfl ?_
            exact k)
          have K189 : ∀ t, Steps p.tables e below (T186.setTop (mkF m 225 #[.val (.int p0), .val (.int p1), .val (.int p2), .val (.int (p0 &&& (3 : Int32))), .val (.ref b2), .val (.ref b10), .val (.ref b18), .val (.ref b22), .val (.ref b32), .val (.ref b42), .val (.ref b54), .val (.ref b131), .val (.ref b178), .val (.int (1 : Int32)), .val (.int (1 : Int32))] [(.ref b178), (.int (1 : Int32))])) t → Steps p.tables e below B0 t := fun t k => K188 t (by
            refine Own.icmpNo X186 hx (hb hby at_218) (teq (by decide : (1 : Int32) = (1 : Int32))).2 ?_
            refine Own.iload X186 hx (hb hby at_221) rfl ?_
            refine Own.aload X186 hx (hb hby at_223) rfl rfl ?_
            exact k)
          obtain ⟨T190, X190, e190, st190⟩ := Own.callVP (Ls := #[.val (.int p0), .val (.int p1), .val (.int p2), .val (.int (p0 &&& (3 : Int32))), .val (.ref b2), .val (.ref b10), .val (.ref b18), .val (.ref b22), .val (.ref b32), .val (.ref b42), .val (.ref b54), .val (.ref b131), .val (.ref b178), .val (.int (1 : Int32)), .val (.int (1 : Int32))]) X186 hx D182.hZ e186 b178 [] [(.int (1 : Int32))] (cHSR l Z a0 hw b178 b131 h182 G182) D182.hown E182 (hw _ (List.mem_of_getElem? (i := 69) rfl)) (hw _ (List.mem_of_getElem? (i := 70) rfl)) (hw _ (List.mem_of_getElem? (i := 72) rfl)) (hw _ (List.mem_of_getElem? (i := 71) rfl)) (hw _ (List.mem_of_getElem? (i := 32) rfl)) (hw _ (List.mem_of_getElem? (i := 73) rfl)) (by decide) 1 rfl rfl (by decide) (by decide) (by decide) (by decide) (by rw [hml]; rfl) (lenOf pd_7 rfl) rfl (Nat.le_of_eq rfl) (hb hby at_225)
          have K191 : ∀ t, Steps p.tables e below (T190.setTop (mkF m 228 #[.val (.int p0), .val (.int p1), .val (.int p2), .val (.int (p0 &&& (3 : Int32))), .val (.ref b2), .val (.ref b10), .val (.ref b18), .val (.ref b22), .val (.ref b32), .val (.ref b42), .val (.ref b54), .val (.ref b131), .val (.ref b178), .val (.int (1 : Int32)), .val (.int (1 : Int32))] [(.ref b131), (.int (1 : Int32))])) t → Steps p.tables e below B0 t := fun t k => K189 t (st190 t k)
          have K192 : ∀ t, Steps p.tables e below (T190.setTop (mkF m 236 #[.val (.int p0), .val (.int p1), .val (.int p2), .val (.int (p0 &&& (3 : Int32))), .val (.ref b2), .val (.ref b10), .val (.ref b18), .val (.ref b22), .val (.ref b32), .val (.ref b42), .val (.ref b54), .val (.ref b131), .val (.ref b178), .val (.int (1 : Int32)), .val (.int (1 : Int32))] [(.int (1 : Int32)), (.int (1 : Int32))])) t → Steps p.tables e below B0 t := fun t k => K191 t (by
            refine Own.ifnullNo X190 hx (hb hby at_228) ?_
            refine Own.iconst X190 hx (1 : Int32) (hb hby at_231) rfl ?_
            refine Own.goto X190 hx 236 (hb hby at_232) (by decide) (by decide) ?_
            exact k)
          have K193 : ∀ t, Steps p.tables e below (T190.setTop (mkF m 244 #[.val (.int p0), .val (.int p1), .val (.int p2), .val (.int (p0 &&& (3 : Int32))), .val (.ref b2), .val (.ref b10), .val (.ref b18), .val (.ref b22), .val (.ref b32), .val (.ref b42), .val (.ref b54), .val (.ref b131), .val (.ref b178), .val (.int (1 : Int32)), .val (.int (1 : Int32))] [(.int (1 : Int32))])) t → Steps p.tables e below B0 t := fun t k => K192 t (by
            refine Own.icmpNo X190 hx (hb hby at_236) (teq (by decide : (1 : Int32) = (1 : Int32))).2 ?_
            refine Own.iconst X190 hx (1 : Int32) (hb hby at_239) rfl ?_
            refine Own.goto X190 hx 244 (hb hby at_240) (by decide) (by decide) ?_
            exact k)
          exact Own.finHN X190 hx (own_hEL hw) e190 D182 (BodyLoose.notSynchronized Bd) Bd.returns (by simp) (hb hby at_244) K193 (by decide) (by decide) ⟨rfl, hn0 ▸ N182⟩
  · have K194 : ∀ t, Steps p.tables e below (T47.setTop (mkF m 78 #[.val (.int p0), .val (.int p1), .val (.int p2), .val (.int (p0 &&& (3 : Int32))), .val (.ref b2), .val (.ref b10), .val (.ref b18), .val (.ref b22), .val (.ref b32), .val (.ref b42), .unset, .unset, .unset, .unset, .unset] [])) t → Steps p.tables e below B0 t := fun t k => K51 t (by
      refine Own.ifNo X47 hx (hb hby at_75) ((if0 _ _).trans (feq hc52).1) ?_
      exact k)
    obtain ⟨T195, h195, b195, X195, e195, E195, g195, A195, D195, st195⟩ := Own.newO (Ls := #[.val (.int p0), .val (.int p1), .val (.int p2), .val (.int (p0 &&& (3 : Int32))), .val (.ref b2), .val (.ref b10), .val (.ref b18), .val (.ref b22), .val (.ref b32), .val (.ref b42), .unset, .unset, .unset, .unset, .unset]) (S := []) X47 hx D49.hZ e47 D49.hown (hw _ (List.mem_of_getElem? (i := 1) rfl)) (hw _ (List.mem_of_getElem? (i := 2) rfl)) (hw _ (List.mem_of_getElem? (i := 3) rfl)) (hb hby at_78) (by decide) (by decide)
    have le_b195 : h47.size ≤ b195 := Nat.le_of_eq g195.symm
    have X195 : Stand p l e room_1 (s.setVm s.vm) m #[(.int p0), (.int p1), (.int p2)] below meth c T195 L47 10 21 := X195
    have m196 : h47.size ≤ h195.size := E195.1
    have D196 := D49.ext E195
    have F195_coder : Fld Z h195 b195 "java/lang/String" "coder" "B" (.int (0 : Int32)) := D195 (Or.inr (hw _ (List.mem_of_getElem? (i := 27) rfl))) (ty := .byte) (by decide)
    have F195_value : Fld Z h195 b195 "java/lang/String" "value" "[B" .null := D195 (Or.inr (hw _ (List.mem_of_getElem? (i := 29) rfl))) (ty := (.array .byte)) (by decide)
    have K197 : ∀ t, Steps p.tables e below (T195.setTop (mkF m 81 #[.val (.int p0), .val (.int p1), .val (.int p2), .val (.int (p0 &&& (3 : Int32))), .val (.ref b2), .val (.ref b10), .val (.ref b18), .val (.ref b22), .val (.ref b32), .val (.ref b42), .unset, .unset, .unset, .unset, .unset] [(.ref b195)])) t → Steps p.tables e below B0 t := fun t k => K194 t (st195 t k)
    have f198 := (((((((V18.ext E22).keep K27 (ninS (Nat.ne_of_lt (Nat.lt_of_lt_of_le V18.lt le_b22)) nin0)).ext E32).keep K37 (ninS (Nat.ne_of_lt (Nat.lt_of_lt_of_le ((V18.ext E22).keep K27 (ninS (Nat.ne_of_lt (Nat.lt_of_lt_of_le V18.lt le_b22)) nin0)).lt le_b32)) nin0)).ext E42).keep K47 (ninS (Nat.ne_of_lt (Nat.lt_of_lt_of_le ((((V18.ext E22).keep K27 (ninS (Nat.ne_of_lt (Nat.lt_of_lt_of_le V18.lt le_b22)) nin0)).ext E32).keep K37 (ninS (Nat.ne_of_lt (Nat.lt_of_lt_of_le ((V18.ext E22).keep K27 (ninS (Nat.ne_of_lt (Nat.lt_of_lt_of_le V18.lt le_b22)) nin0)).lt le_b32)) nin0)).lt le_b42)) nin0)).ext E195)
    have K199 : ∀ t, Steps p.tables e below (T195.setTop (mkF m 84 #[.val (.int p0), .val (.int p1), .val (.int p2), .val (.int (p0 &&& (3 : Int32))), .val (.ref b2), .val (.ref b10), .val (.ref b18), .val (.ref b22), .val (.ref b32), .val (.ref b42), .unset, .unset, .unset, .unset, .unset] [(.ref b18), (.ref b195), (.ref b195)])) t → Steps p.tables e below B0 t := fun t k => K197 t (by
      refine Own.dup X195 hx (hb hby at_81) rfl ?_
      refine Own.aload X195 hx (hb hby at_82) rfl rfl ?_
      exact k)
    obtain ⟨vm200, T200, h200, v200, J200, L200, X200, e200, D200, mm200, n200, hQ200, st200⟩ := Own.callIW (Ls := #[.val (.int p0), .val (.int p1), .val (.int p2), .val (.int (p0 &&& (3 : Int32))), .val (.ref b2), .val (.ref b10), .val (.ref b18), .val (.ref b22), .val (.ref b32), .val (.ref b42), .unset, .unset, .unset, .unset, .unset]) X195 hx (own_hEL hw) D196 e195 rfl b195 [(.ref b18)] [(.ref b195)] (cE1 l Z a0 hw b195 b18 n0 (.int (0 : Int32)) h195 (Nat.le_trans Z0 (Nat.le_trans (Nat.le_trans (Nat.le_trans (Nat.le_trans (Nat.le_trans (Nat.le_trans (Nat.le_trans (Nat.le_trans (Nat.le_trans (Nat.le_trans (Nat.le_trans m3 m7) m11) m15) m19) m23) m29) m33) m39) m43) m49) m196)) A195 F195_value F195_coder (Nat.le_trans Z0 (Nat.le_trans (Nat.le_trans (Nat.le_trans (Nat.le_trans (Nat.le_trans (Nat.le_trans (Nat.le_trans (Nat.le_trans (Nat.le_trans (Nat.le_trans (Nat.le_trans m3 m7) m11) m15) m19) m23) m29) m33) m39) m43) m49) le_b195)) f198) (hw _ (List.mem_of_getElem? (i := 4) rfl)) (hw _ (List.mem_of_getElem? (i := 5) rfl)) (hw _ (List.mem_of_getElem? (i := 3) rfl)) (hw _ (List.mem_of_getElem? (i := 6) rfl)) (by decide) 1 (by decide) (by decide) (by decide) (by decide) (by rw [hml]; rfl) (lenOf pd_4 rfl) rfl (Nat.le_of_eq rfl) (hb hby at_84)
    have X200 : Stand p l e room_1 (s.setVm vm200) m #[(.int p0), (.int p1), (.int p2)] below meth c T200 L200 14 29 := X200
    obtain ⟨rfl, NN200, K200, t200⟩ := hQ200
    have N200 : Fr n0 L200 := n200 n0 N47 NN200
    have m201 : h195.size ≤ h200.size := K200.1
    have K202 : ∀ t, Steps p.tables e below (T200.setTop (mkF m 87 #[.val (.int p0), .val (.int p1), .val (.int p2), .val (.int (p0 &&& (3 : Int32))), .val (.ref b2), .val (.ref b10), .val (.ref b18), .val (.ref b22), .val (.ref b32), .val (.ref b42), .unset, .unset, .unset, .unset, .unset] [(.ref b195)])) t → Steps p.tables e below B0 t := fun t k => K199 t (st200 t k)
    have K203 : ∀ t, Steps p.tables e below (T200.setTop (mkF m 106 #[.val (.int p0), .val (.int p1), .val (.int p2), .val (.int (p0 &&& (3 : Int32))), .val (.ref b2), .val (.ref b10), .val (.ref b18), .val (.ref b22), .val (.ref b32), .val (.ref b42), .val (.ref b195), .unset, .unset, .unset, .unset] [(.int (((p0.toUInt32 >>> ((5 : Int32) &&& 31).toUInt32).toInt32) &&& (1 : Int32)))])) t → Steps p.tables e below B0 t := fun t k => K202 t (by
      refine Own.goto X200 hx 99 (hb hby at_87) (by decide) (by decide) ?_
      refine Own.astore X200 hx #[.val (.int p0), .val (.int p1), .val (.int p2), .val (.int (p0 &&& (3 : Int32))), .val (.ref b2), .val (.ref b10), .val (.ref b18), .val (.ref b22), .val (.ref b32), .val (.ref b42), .val (.ref b195), .unset, .unset, .unset, .unset] (hb hby at_99) rfl rfl ?_
      refine Own.iloadN X200 hx (hb hby at_101) rfl ?_
      refine Own.iconst X200 hx (5 : Int32) (hb hby at_102) rfl ?_
      refine Own.iushr X200 hx (hb hby at_103) ?_
      refine Own.iconst X200 hx (1 : Int32) (hb hby at_104) rfl ?_
      refine Own.iand X200 hx (hb hby at_105) ?_
      exact k)
    by_cases hc204 : (((p0.toUInt32 >>> ((5 : Int32) &&& 31).toUInt32).toInt32) &&& (1 : Int32)) = (0 : Int32)
    · have K205 : ∀ t, Steps p.tables e below (T200.setTop (mkF m 121 #[.val (.int p0), .val (.int p1), .val (.int p2), .val (.int (p0 &&& (3 : Int32))), .val (.ref b2), .val (.ref b10), .val (.ref b18), .val (.ref b22), .val (.ref b32), .val (.ref b42), .val (.ref b195), .unset, .unset, .unset, .unset] [])) t → Steps p.tables e below B0 t := fun t k => K203 t (by
        refine Own.ifYes X200 hx 121 (hb hby at_106) ((if0 _ _).trans (teq hc204).1) (by decide) (by decide) ?_
        exact k)
      obtain ⟨T206, h206, b206, X206, e206, E206, g206, A206, D206, st206⟩ := Own.newO (Ls := #[.val (.int p0), .val (.int p1), .val (.int p2), .val (.int (p0 &&& (3 : Int32))), .val (.ref b2), .val (.ref b10), .val (.ref b18), .val (.ref b22), .val (.ref b32), .val (.ref b42), .val (.ref b195), .unset, .unset, .unset, .unset]) (S := []) X200 hx D200.hZ e200 D200.hown (hw _ (List.mem_of_getElem? (i := 1) rfl)) (hw _ (List.mem_of_getElem? (i := 2) rfl)) (hw _ (List.mem_of_getElem? (i := 3) rfl)) (hb hby at_121) (by decide) (by decide)
      have le_b206 : h200.size ≤ b206 := Nat.le_of_eq g206.symm
      have X206 : Stand p l e room_1 (s.setVm vm200) m #[(.int p0), (.int p1), (.int p2)] below meth c T206 L200 15 33 := X206
      have m207 : h200.size ≤ h206.size := E206.1
      have D207 := D200.ext E206
      have F206_coder : Fld Z h206 b206 "java/lang/String" "coder" "B" (.int (0 : Int32)) := D206 (Or.inr (hw _ (List.mem_of_getElem? (i := 27) rfl))) (ty := .byte) (by decide)
      have F206_value : Fld Z h206 b206 "java/lang/String" "value" "[B" .null := D206 (Or.inr (hw _ (List.mem_of_getElem? (i := 29) rfl))) (ty := (.array .byte)) (by decide)
      have K208 : ∀ t, Steps p.tables e below (T206.setTop (mkF m 124 #[.val (.int p0), .val (.int p1), .val (.int p2), .val (.int (p0 &&& (3 : Int32))), .val (.ref b2), .val (.ref b10), .val (.ref b18), .val (.ref b22), .val (.ref b32), .val (.ref b42), .val (.ref b195), .unset, .unset, .unset, .unset] [(.ref b206)])) t → Steps p.tables e below B0 t := fun t k => K205 t (st206 t k)
      have f209 := ((((((f35.keep K37 (ninS (Nat.ne_of_lt (Nat.lt_of_lt_of_le (((V14.ext E18).ext E22).keep K27 (ninS (Nat.ne_of_lt (Nat.lt_of_lt_of_le (V14.ext E18).lt le_b22)) nin0)).lt le_b32)) nin0)).ext E42).keep K47 (ninS (Nat.ne_of_lt (Nat.lt_of_lt_of_le (f35.keep K37 (ninS (Nat.ne_of_lt (Nat.lt_of_lt_of_le (((V14.ext E18).ext E22).keep K27 (ninS (Nat.ne_of_lt (Nat.lt_of_lt_of_le (V14.ext E18).lt le_b22)) nin0)).lt le_b32)) nin0)).lt le_b42)) nin0)).ext E195).keep K200 (ninS (Nat.ne_of_lt (Nat.lt_of_lt_of_le (((f35.keep K37 (ninS (Nat.ne_of_lt (Nat.lt_of_lt_of_le (((V14.ext E18).ext E22).keep K27 (ninS (Nat.ne_of_lt (Nat.lt_of_lt_of_le (V14.ext E18).lt le_b22)) nin0)).lt le_b32)) nin0)).ext E42).keep K47 (ninS (Nat.ne_of_lt (Nat.lt_of_lt_of_le (f35.keep K37 (ninS (Nat.ne_of_lt (Nat.lt_of_lt_of_le (((V14.ext E18).ext E22).keep K27 (ninS (Nat.ne_of_lt (Nat.lt_of_lt_of_le (V14.ext E18).lt le_b22)) nin0)).lt le_b32)) nin0)).lt le_b42)) nin0)).lt le_b195)) nin0)).ext E206)
      have K210 : ∀ t, Steps p.tables e below (T206.setTop (mkF m 127 #[.val (.int p0), .val (.int p1), .val (.int p2), .val (.int (p0 &&& (3 : Int32))), .val (.ref b2), .val (.ref b10), .val (.ref b18), .val (.ref b22), .val (.ref b32), .val (.ref b42), .val (.ref b195), .unset, .unset, .unset, .unset] [(.ref b10), (.ref b206), (.ref b206)])) t → Steps p.tables e below B0 t := fun t k => K208 t (by
        refine Own.dup X206 hx (hb hby at_124) rfl ?_
        refine Own.aload X206 hx (hb hby at_125) rfl rfl ?_
        exact k)
      have f212 := ((Own.sta_keep ((Own.sta_keep f48 K47 A42).ext E195) K200 A195).ext E206)
      obtain ⟨T211, h211, J211, L211, X211, e211, n211, NN211, K211, t211, st211⟩ := own_newS (Ls := #[.val (.int p0), .val (.int p1), .val (.int p2), .val (.int (p0 &&& (3 : Int32))), .val (.ref b2), .val (.ref b10), .val (.ref b18), .val (.ref b22), .val (.ref b32), .val (.ref b42), .val (.ref b195), .unset, .unset, .unset, .unset]) (cs := [(nar .char ((p2 &&& (255 : Int32)).toUInt32.toUInt16.toUInt32.toInt32))]) (n := 1) (n0 := n0) X206 hx D207.hZ e206 hw (hw _ (List.mem_of_getElem? (i := 2) rfl)) D207.hown rfl (Nat.le_trans Z0 (Nat.le_trans (Nat.le_trans (Nat.le_trans (Nat.le_trans (Nat.le_trans (Nat.le_trans (Nat.le_trans (Nat.le_trans (Nat.le_trans (Nat.le_trans (Nat.le_trans (Nat.le_trans (Nat.le_trans m3 m7) m11) m15) m19) m23) m29) m33) m39) m43) m49) m196) m201) le_b206)) (Nat.le_trans Z0 (Nat.le_trans (Nat.le_trans (Nat.le_trans (Nat.le_trans (Nat.le_trans (Nat.le_trans (Nat.le_trans (Nat.le_trans (Nat.le_trans (Nat.le_trans (Nat.le_trans (Nat.le_trans (Nat.le_trans m3 m7) m11) m15) m19) m23) m29) m33) m39) m43) m49) m196) m201) m207)) A206 F206_value F206_coder f209 f212 hG1 (by decide) (by decide) (own_hp p2) (hw _ (List.mem_of_getElem? (i := 4) rfl)) (hw _ (List.mem_of_getElem? (i := 5) rfl)) (hw _ (List.mem_of_getElem? (i := 6) rfl)) [(.ref b206)] 1 (by decide) (by decide) (by decide) (by decide) (by rw [hml]; rfl) (lenOf pd_4 rfl) (Nat.le_of_eq rfl) (hb hby at_127)
      have X211 : Stand p l e room_1 (s.setVm vm200) m #[(.int p0), (.int p1), (.int p2)] below meth c T211 L211 16 34 := X211
      have N211 : Fr n0 L211 := n211 n0 N200 NN211
      have m213 : h206.size ≤ h211.size := K211.1
      have D213 := D207.keep K211 (sfS (Own.safe_null D207.hZ.alike A206 F206_value) sf0)
      have K214 : ∀ t, Steps p.tables e below (T211.setTop (mkF m 130 #[.val (.int p0), .val (.int p1), .val (.int p2), .val (.int (p0 &&& (3 : Int32))), .val (.ref b2), .val (.ref b10), .val (.ref b18), .val (.ref b22), .val (.ref b32), .val (.ref b42), .val (.ref b195), .unset, .unset, .unset, .unset] [(.ref b206)])) t → Steps p.tables e below B0 t := fun t k => K210 t (st211 t k)
      have K215 : ∀ t, Steps p.tables e below (T211.setTop (mkF m 133 #[.val (.int p0), .val (.int p1), .val (.int p2), .val (.int (p0 &&& (3 : Int32))), .val (.ref b2), .val (.ref b10), .val (.ref b18), .val (.ref b22), .val (.ref b32), .val (.ref b42), .val (.ref b195), .val (.ref b206), .unset, .unset, .unset] [(.int (p0 &&& (3 : Int32)))])) t → Steps p.tables e below B0 t := fun t k => K214 t (by
        refine Own.astore X211 hx #[.val (.int p0), .val (.int p1), .val (.int p2), .val (.int (p0 &&& (3 : Int32))), .val (.ref b2), .val (.ref b10), .val (.ref b18), .val (.ref b22), .val (.ref b32), .val (.ref b42), .val (.ref b195), .val (.ref b206), .unset, .unset, .unset] (hb hby at_130) rfl rfl ?_
        refine Own.iloadN X211 hx (hb hby at_132) rfl ?_
        exact k)
      by_cases hc216 : (p0 &&& (3 : Int32)) = (0 : Int32)
      · have K217 : ∀ t, Steps p.tables e below (T211.setTop (mkF m 136 #[.val (.int p0), .val (.int p1), .val (.int p2), .val (.int (p0 &&& (3 : Int32))), .val (.ref b2), .val (.ref b10), .val (.ref b18), .val (.ref b22), .val (.ref b32), .val (.ref b42), .val (.ref b195), .val (.ref b206), .unset, .unset, .unset] [])) t → Steps p.tables e below B0 t := fun t k => K215 t (by
          refine Own.ifNo X211 hx (hb hby at_133) ((if0 _ _).trans (teq hc216).2) ?_
          exact k)
        obtain ⟨T218, h218, b218, X218, e218, E218, g218, A218, D218, st218⟩ := Own.newO (Ls := #[.val (.int p0), .val (.int p1), .val (.int p2), .val (.int (p0 &&& (3 : Int32))), .val (.ref b2), .val (.ref b10), .val (.ref b18), .val (.ref b22), .val (.ref b32), .val (.ref b42), .val (.ref b195), .val (.ref b206), .unset, .unset, .unset]) (S := []) X211 hx D213.hZ e211 D213.hown (hw _ (List.mem_of_getElem? (i := 30) rfl)) (hw _ (List.mem_of_getElem? (i := 31) rfl)) (hw _ (List.mem_of_getElem? (i := 32) rfl)) (hb hby at_136) (by decide) (by decide)
        have le_b218 : h211.size ≤ b218 := Nat.le_of_eq g218.symm
        have X218 : Stand p l e room_1 (s.setVm vm200) m #[(.int p0), (.int p1), (.int p2)] below meth c T218 L211 17 39 := X218
        have m219 : h211.size ≤ h218.size := E218.1
        have D219 := D213.ext E218
        have F218_site : Fld Z h218 b218 "com/example/cyclewarden/cyclewarden/core/Wait" "site" "Ljava/lang/String;" .null := D218 (Or.inr (hw _ (List.mem_of_getElem? (i := 55) rfl))) (ty := (.object "java/lang/String")) (by decide)
        have F218_waiter : Fld Z h218 b218 "com/example/cyclewarden/cyclewarden/core/Wait" "waiter" "Ljava/lang/String;" .null := D218 (Or.inr (hw _ (List.mem_of_getElem? (i := 57) rfl))) (ty := (.object "java/lang/String")) (by decide)
        have F218_holder : Fld Z h218 b218 "com/example/cyclewarden/cyclewarden/core/Wait" "holder" "Ljava/lang/String;" .null := D218 (Or.inr (hw _ (List.mem_of_getElem? (i := 59) rfl))) (ty := (.object "java/lang/String")) (by decide)
        have F218_waiterSession : Fld Z h218 b218 "com/example/cyclewarden/cyclewarden/core/Wait" "waiterSession" "Ljava/lang/String;" .null := D218 (Or.inr (hw _ (List.mem_of_getElem? (i := 61) rfl))) (ty := (.object "java/lang/String")) (by decide)
        have F218_holderSession : Fld Z h218 b218 "com/example/cyclewarden/cyclewarden/core/Wait" "holderSession" "Ljava/lang/String;" .null := D218 (Or.inr (hw _ (List.mem_of_getElem? (i := 63) rfl))) (ty := (.object "java/lang/String")) (by decide)
        have K220 : ∀ t, Steps p.tables e below (T218.setTop (mkF m 139 #[.val (.int p0), .val (.int p1), .val (.int p2), .val (.int (p0 &&& (3 : Int32))), .val (.ref b2), .val (.ref b10), .val (.ref b18), .val (.ref b22), .val (.ref b32), .val (.ref b42), .val (.ref b195), .val (.ref b206), .unset, .unset, .unset] [(.ref b218)])) t → Steps p.tables e below B0 t := fun t k => K217 t (st218 t k)
        have K221 : ∀ t, Steps p.tables e below (T218.setTop (mkF m 146 #[.val (.int p0), .val (.int p1), .val (.int p2), .val (.int (p0 &&& (3 : Int32))), .val (.ref b2), .val (.ref b10), .val (.ref b18), .val (.ref b22), .val (.ref b32), .val (.ref b42), .val (.ref b195), .val (.ref b206), .unset, .unset, .unset] [(.ref b42), (.ref b32), (.ref b22), (.ref b218), (.ref b218)])) t → Steps p.tables e below B0 t := fun t k => K220 t (by
          refine Own.dup X218 hx (hb hby at_139) rfl ?_
          refine Own.aload X218 hx (hb hby at_140) rfl rfl ?_
          refine Own.aload X218 hx (hb hby at_142) rfl rfl ?_
          refine Own.aload X218 hx (hb hby at_144) rfl rfl ?_
          exact k)
        obtain ⟨vm222, T222, h222, v222, J222, L222, X222, e222, D222, mm222, n222, hQ222, st222⟩ := Own.callIW (Ls := #[.val (.int p0), .val (.int p1), .val (.int p2), .val (.int (p0 &&& (3 : Int32))), .val (.ref b2), .val (.ref b10), .val (.ref b18), .val (.ref b22), .val (.ref b32), .val (.ref b42), .val (.ref b195), .val (.ref b206), .unset, .unset, .unset]) X218 hx (own_hEL hw) D219 e218 rfl b218 [(.ref b22), (.ref b32), (.ref b42)] [(.ref b218)] (cW3 l Z a0 hw b218 b22 b32 b42 n0 h218 (Nat.le_trans Z0 (Nat.le_trans (Nat.le_trans (Nat.le_trans (Nat.le_trans (Nat.le_trans (Nat.le_trans (Nat.le_trans (Nat.le_trans (Nat.le_trans (Nat.le_trans (Nat.le_trans (Nat.le_trans (Nat.le_trans (Nat.le_trans (Nat.le_trans m3 m7) m11) m15) m19) m23) m29) m33) m39) m43) m49) m196) m201) m207) m213) m219)) A218 (Nat.le_trans Z0 (Nat.le_trans (Nat.le_trans (Nat.le_trans (Nat.le_trans (Nat.le_trans (Nat.le_trans (Nat.le_trans (Nat.le_trans (Nat.le_trans (Nat.le_trans (Nat.le_trans (Nat.le_trans (Nat.le_trans (Nat.le_trans (Nat.le_trans m3 m7) m11) m15) m19) m23) m29) m33) m39) m43) m49) m196) m201) m207) m213) le_b218)) F218_site F218_waiter F218_holder F218_waiterSession F218_holderSession) (hw _ (List.mem_of_getElem? (i := 33) rfl)) (hw _ (List.mem_of_getElem? (i := 34) rfl)) (hw _ (List.mem_of_getElem? (i := 32) rfl)) (hw _ (List.mem_of_getElem? (i := 35) rfl)) (by decide) 1 (by decide) (by decide) (by decide) (by decide) (by rw [hml]; rfl) (lenOf pd_5 rfl) rfl (Nat.le_of_eq rfl) (hb hby at_146)
        have X222 : Stand p l e room_1 (s.setVm vm222) m #[(.int p0), (.int p1), (.int p2)] below meth c T222 L222 23 115 := X222
        obtain ⟨rfl, NN222, K222, E222, F222, G222⟩ := hQ222
        have N222 : Fr n0 L222 := n222 n0 N211 NN222
        have m223 : h218.size ≤ h222.size := K222.1
        have K224 : ∀ t, Steps p.tables e below (T222.setTop (mkF m 149 #[.val (.int p0), .val (.int p1), .val (.int p2), .val (.int (p0 &&& (3 : Int32))), .val (.ref b2), .val (.ref b10), .val (.ref b18), .val (.ref b22), .val (.ref b32), .val (.ref b42), .val (.ref b195), .val (.ref b206), .unset, .unset, .unset] [(.ref b218)])) t → Steps p.tables e below B0 t := fun t k => K221 t (st222 t k)
        have K225 : ∀ t, Steps p.tables e below (T222.setTop (mkF m 209 #[.val (.int p0), .val (.int p1), .val (.int p2), .val (.int (p0 &&& (3 : Int32))), .val (.ref b2), .val (.ref b10), .val (.ref b18), .val (.ref b22), .val (.ref b32), .val (.ref b42), .val (.ref b195), .val (.ref b206), .val (.ref b218), .val (.int (0 : Int32)), .unset] [(.ref b218)])) t → Steps p.tables e below B0 t := fun t k => K224 t (by
          refine Own.astore X222 hx #[.val (.int p0), .val (.int p1), .val (.int p2), .val (.int (p0 &&& (3 : Int32))), .val (.ref b2), .val (.ref b10), .val (.ref b18), .val (.ref b22), .val (.ref b32), .val (.ref b42), .val (.ref b195), .val (.ref b206), .val (.ref b218), .unset, .unset] (hb hby at_149) rfl rfl ?_
          refine Own.iconst X222 hx (0 : Int32) (hb hby at_151) rfl ?_
          refine Own.istore X222 hx #[.val (.int p0), .val (.int p1), .val (.int p2), .val (.int (p0 &&& (3 : Int32))), .val (.ref b2), .val (.ref b10), .val (.ref b18), .val (.ref b22), .val (.ref b32), .val (.ref b42), .val (.ref b195), .val (.ref b206), .val (.ref b218), .val (.int (0 : Int32)), .unset] (hb hby at_152) rfl ?_
          refine Own.goto X222 hx 207 (hb hby at_154) (by decide) (by decide) ?_
          refine Own.aload X222 hx (hb hby at_207) rfl rfl ?_
          exact k)
        obtain ⟨T226, X226, e226, st226⟩ := Own.callVP (Ls := #[.val (.int p0), .val (.int p1), .val (.int p2), .val (.int (p0 &&& (3 : Int32))), .val (.ref b2), .val (.ref b10), .val (.ref b18), .val (.ref b22), .val (.ref b32), .val (.ref b42), .val (.ref b195), .val (.ref b206), .val (.ref b218), .val (.int (0 : Int32)), .unset]) X222 hx D222.hZ e222 b218 [] [] (cNSN l Z a0 hw b218  h222 F222) D222.hown E222 (hw _ (List.mem_of_getElem? (i := 64) rfl)) (hw _ (List.mem_of_getElem? (i := 65) rfl)) (hw _ (List.mem_of_getElem? (i := 67) rfl)) (hw _ (List.mem_of_getElem? (i := 66) rfl)) (hw _ (List.mem_of_getElem? (i := 32) rfl)) (hw _ (List.mem_of_getElem? (i := 68) rfl)) (by decide) 0 rfl rfl (by decide) (by decide) (by decide) (by decide) (by rw [hml]; rfl) (lenOf pd_6 rfl) rfl (Nat.le_of_eq rfl) (hb hby at_209)
        have K227 : ∀ t, Steps p.tables e below (T226.setTop (mkF m 212 #[.val (.int p0), .val (.int p1), .val (.int p2), .val (.int (p0 &&& (3 : Int32))), .val (.ref b2), .val (.ref b10), .val (.ref b18), .val (.ref b22), .val (.ref b32), .val (.ref b42), .val (.ref b195), .val (.ref b206), .val (.ref b218), .val (.int (0 : Int32)), .unset] [(.int (0 : Int32))])) t → Steps p.tables e below B0 t := fun t k => K225 t (st226 t k)
        have K228 : ∀ t, Steps p.tables e below (T226.setTop (mkF m 218 #[.val (.int p0), .val (.int p1), .val (.int p2), .val (.int (p0 &&& (3 : Int32))), .val (.ref b2), .val (.ref b10), .val (.ref b18), .val (.ref b22), .val (.ref b32), .val (.ref b42), .val (.ref b195), .val (.ref b206), .val (.ref b218), .val (.int (0 : Int32)), .val (.int (0 : Int32))] [(.int (0 : Int32)), (.int (0 : Int32))])) t → Steps p.tables e below B0 t := fun t k => K227 t (by
          refine Own.istore X226 hx #[.val (.int p0), .val (.int p1), .val (.int p2), .val (.int (p0 &&& (3 : Int32))), .val (.ref b2), .val (.ref b10), .val (.ref b18), .val (.ref b22), .val (.ref b32), .val (.ref b42), .val (.ref b195), .val (.ref b206), .val (.ref b218), .val (.int (0 : Int32)), .val (.int (0 : Int32))] (hb hby at_212) rfl ?_
          refine Own.iload X226 hx (hb hby at_214) rfl ?_
          refine Own.iload X226 hx (hb hby at_216) rfl ?_
          exact k)
        have K229 : ∀ t, Steps p.tables e below (T226.setTop (mkF m 225 #[.val (.int p0), .val (.int p1), .val (.int p2), .val (.int (p0 &&& (3 : Int32))), .val (.ref b2), .val (.ref b10), .val (.ref b18), .val (.ref b22), .val (.ref b32), .val (.ref b42), .val (.ref b195), .val (.ref b206), .val (.ref b218), .val (.int (0 : Int32)), .val (.int (0 : Int32))] [(.ref b218), (.int (0 : Int32))])) t → Steps p.tables e below B0 t := fun t k => K228 t (by
          refine Own.icmpNo X226 hx (hb hby at_218) (teq (by decide : (0 : Int32) = (0 : Int32))).2 ?_
          refine Own.iload X226 hx (hb hby at_221) rfl ?_
          refine Own.aload X226 hx (hb hby at_223) rfl rfl ?_
          exact k)
        obtain ⟨T230, X230, e230, st230⟩ := Own.callVP (Ls := #[.val (.int p0), .val (.int p1), .val (.int p2), .val (.int (p0 &&& (3 : Int32))), .val (.ref b2), .val (.ref b10), .val (.ref b18), .val (.ref b22), .val (.ref b32), .val (.ref b42), .val (.ref b195), .val (.ref b206), .val (.ref b218), .val (.int (0 : Int32)), .val (.int (0 : Int32))]) X226 hx D222.hZ e226 b218 [] [(.int (0 : Int32))] (cHSN l Z a0 hw b218  h222 G222) D222.hown E222 (hw _ (List.mem_of_getElem? (i := 69) rfl)) (hw _ (List.mem_of_getElem? (i := 70) rfl)) (hw _ (List.mem_of_getElem? (i := 72) rfl)) (hw _ (List.mem_of_getElem? (i := 71) rfl)) (hw _ (List.mem_of_getElem? (i := 32) rfl)) (hw _ (List.mem_of_getElem? (i := 73) rfl)) (by decide) 1 rfl rfl (by decide) (by decide) (by decide) (by decide) (by rw [hml]; rfl) (lenOf pd_7 rfl) rfl (Nat.le_of_eq rfl) (hb hby at_225)
        have K231 : ∀ t, Steps p.tables e below (T230.setTop (mkF m 228 #[.val (.int p0), .val (.int p1), .val (.int p2), .val (.int (p0 &&& (3 : Int32))), .val (.ref b2), .val (.ref b10), .val (.ref b18), .val (.ref b22), .val (.ref b32), .val (.ref b42), .val (.ref b195), .val (.ref b206), .val (.ref b218), .val (.int (0 : Int32)), .val (.int (0 : Int32))] [.null, (.int (0 : Int32))])) t → Steps p.tables e below B0 t := fun t k => K229 t (st230 t k)
        have K232 : ∀ t, Steps p.tables e below (T230.setTop (mkF m 236 #[.val (.int p0), .val (.int p1), .val (.int p2), .val (.int (p0 &&& (3 : Int32))), .val (.ref b2), .val (.ref b10), .val (.ref b18), .val (.ref b22), .val (.ref b32), .val (.ref b42), .val (.ref b195), .val (.ref b206), .val (.ref b218), .val (.int (0 : Int32)), .val (.int (0 : Int32))] [(.int (0 : Int32)), (.int (0 : Int32))])) t → Steps p.tables e below B0 t := fun t k => K231 t (by
          refine Own.ifnullYes X230 hx 235 (hb hby at_228) (by decide) (by decide) ?_
          refine Own.iconst X230 hx (0 : Int32) (hb hby at_235) rfl ?_
          exact k)
        have K233 : ∀ t, Steps p.tables e below (T230.setTop (mkF m 244 #[.val (.int p0), .val (.int p1), .val (.int p2), .val (.int (p0 &&& (3 : Int32))), .val (.ref b2), .val (.ref b10), .val (.ref b18), .val (.ref b22), .val (.ref b32), .val (.ref b42), .val (.ref b195), .val (.ref b206), .val (.ref b218), .val (.int (0 : Int32)), .val (.int (0 : Int32))] [(.int (1 : Int32))])) t → Steps p.tables e below B0 t := fun t k => K232 t (by
          refine Own.icmpNo X230 hx (hb hby at_236) (teq (by decide : (0 : Int32) = (0 : Int32))).2 ?_
          refine Own.iconst X230 hx (1 : Int32) (hb hby at_239) rfl ?_
          refine Own.goto X230 hx 244 (hb hby at_240) (by decide) (by decide) ?_
          exact k)
        exact Own.finHN X230 hx (own_hEL hw) e230 D222 (BodyLoose.notSynchronized Bd) Bd.returns (by simp) (hb hby at_244) K233 (by decide) (by decide) ⟨rfl, hn0 ▸ N222⟩
      · have K234 : ∀ t, Steps p.tables e below (T211.setTop (mkF m 159 #[.val (.int p0), .val (.int p1), .val (.int p2), .val (.int (p0 &&& (3 : Int32))), .val (.ref b2), .val (.ref b10), .val (.ref b18), .val (.ref b22), .val (.ref b32), .val (.ref b42), .val (.ref b195), .val (.ref b206), .unset, .unset, .unset] [(.int (1 : Int32)), (.int (p0 &&& (3 : Int32)))])) t → Steps p.tables e below B0 t := fun t k => K215 t (by
          refine Own.ifYes X211 hx 157 (hb hby at_133) ((if0 _ _).trans (feq hc216).2) (by decide) (by decide) ?_
          refine Own.iloadN X211 hx (hb hby at_157) rfl ?_
          refine Own.iconst X211 hx (1 : Int32) (hb hby at_158) rfl ?_
          exact k)
        by_cases hc235 : (p0 &&& (3 : Int32)) = (1 : Int32)
        · have K236 : ∀ t, Steps p.tables e below (T211.setTop (mkF m 162 #[.val (.int p0), .val (.int p1), .val (.int p2), .val (.int (p0 &&& (3 : Int32))), .val (.ref b2), .val (.ref b10), .val (.ref b18), .val (.ref b22), .val (.ref b32), .val (.ref b42), .val (.ref b195), .val (.ref b206), .unset, .unset, .unset] [])) t → Steps p.tables e below B0 t := fun t k => K234 t (by
            refine Own.icmpNo X211 hx (hb hby at_159) (teq hc235).2 ?_
            exact k)
          obtain ⟨T237, h237, b237, X237, e237, E237, g237, A237, D237, st237⟩ := Own.newO (Ls := #[.val (.int p0), .val (.int p1), .val (.int p2), .val (.int (p0 &&& (3 : Int32))), .val (.ref b2), .val (.ref b10), .val (.ref b18), .val (.ref b22), .val (.ref b32), .val (.ref b42), .val (.ref b195), .val (.ref b206), .unset, .unset, .unset]) (S := []) X211 hx D213.hZ e211 D213.hown (hw _ (List.mem_of_getElem? (i := 30) rfl)) (hw _ (List.mem_of_getElem? (i := 31) rfl)) (hw _ (List.mem_of_getElem? (i := 32) rfl)) (hb hby at_162) (by decide) (by decide)
          have le_b237 : h211.size ≤ b237 := Nat.le_of_eq g237.symm
          have X237 : Stand p l e room_1 (s.setVm vm200) m #[(.int p0), (.int p1), (.int p2)] below meth c T237 L211 17 39 := X237
          have m238 : h211.size ≤ h237.size := E237.1
          have D238 := D213.ext E237
          have F237_site : Fld Z h237 b237 "com/example/cyclewarden/cyclewarden/core/Wait" "site" "Ljava/lang/String;" .null := D237 (Or.inr (hw _ (List.mem_of_getElem? (i := 55) rfl))) (ty := (.object "java/lang/String")) (by decide)
          have F237_waiter : Fld Z h237 b237 "com/example/cyclewarden/cyclewarden/core/Wait" "waiter" "Ljava/lang/String;" .null := D237 (Or.inr (hw _ (List.mem_of_getElem? (i := 57) rfl))) (ty := (.object "java/lang/String")) (by decide)
          have F237_holder : Fld Z h237 b237 "com/example/cyclewarden/cyclewarden/core/Wait" "holder" "Ljava/lang/String;" .null := D237 (Or.inr (hw _ (List.mem_of_getElem? (i := 59) rfl))) (ty := (.object "java/lang/String")) (by decide)
          have F237_waiterSession : Fld Z h237 b237 "com/example/cyclewarden/cyclewarden/core/Wait" "waiterSession" "Ljava/lang/String;" .null := D237 (Or.inr (hw _ (List.mem_of_getElem? (i := 61) rfl))) (ty := (.object "java/lang/String")) (by decide)
          have F237_holderSession : Fld Z h237 b237 "com/example/cyclewarden/cyclewarden/core/Wait" "holderSession" "Ljava/lang/String;" .null := D237 (Or.inr (hw _ (List.mem_of_getElem? (i := 63) rfl))) (ty := (.object "java/lang/String")) (by decide)
          have K239 : ∀ t, Steps p.tables e below (T237.setTop (mkF m 165 #[.val (.int p0), .val (.int p1), .val (.int p2), .val (.int (p0 &&& (3 : Int32))), .val (.ref b2), .val (.ref b10), .val (.ref b18), .val (.ref b22), .val (.ref b32), .val (.ref b42), .val (.ref b195), .val (.ref b206), .unset, .unset, .unset] [(.ref b237)])) t → Steps p.tables e below B0 t := fun t k => K236 t (st237 t k)
          have K240 : ∀ t, Steps p.tables e below (T237.setTop (mkF m 174 #[.val (.int p0), .val (.int p1), .val (.int p2), .val (.int (p0 &&& (3 : Int32))), .val (.ref b2), .val (.ref b10), .val (.ref b18), .val (.ref b22), .val (.ref b32), .val (.ref b42), .val (.ref b195), .val (.ref b206), .unset, .unset, .unset] [.null, .null, (.ref b42), (.ref b32), (.ref b22), (.ref b237), (.ref b237)])) t → Steps p.tables e below B0 t := fun t k => K239 t (by
            refine Own.dup X237 hx (hb hby at_165) rfl ?_
            refine Own.aload X237 hx (hb hby at_166) rfl rfl ?_
            refine Own.aload X237 hx (hb hby at_168) rfl rfl ?_
            refine Own.aload X237 hx (hb hby at_170) rfl rfl ?_
            refine Own.aconstNull X237 hx (hb hby at_172) ?_
            refine Own.aconstNull X237 hx (hb hby at_173) ?_
            exact k)
          obtain ⟨vm241, T241, h241, v241, J241, L241, X241, e241, D241, mm241, n241, hQ241, st241⟩ := Own.callIW (Ls := #[.val (.int p0), .val (.int p1), .val (.int p2), .val (.int (p0 &&& (3 : Int32))), .val (.ref b2), .val (.ref b10), .val (.ref b18), .val (.ref b22), .val (.ref b32), .val (.ref b42), .val (.ref b195), .val (.ref b206), .unset, .unset, .unset]) X237 hx (own_hEL hw) D238 e237 rfl b237 [(.ref b22), (.ref b32), (.ref b42), .null, .null] [(.ref b237)] (cWN l Z a0 hw b237 b22 b32 b42 n0 h237 (Nat.le_trans Z0 (Nat.le_trans (Nat.le_trans (Nat.le_trans (Nat.le_trans (Nat.le_trans (Nat.le_trans (Nat.le_trans (Nat.le_trans (Nat.le_trans (Nat.le_trans (Nat.le_trans (Nat.le_trans (Nat.le_trans (Nat.le_trans (Nat.le_trans m3 m7) m11) m15) m19) m23) m29) m33) m39) m43) m49) m196) m201) m207) m213) m238)) A237 (Nat.le_trans Z0 (Nat.le_trans (Nat.le_trans (Nat.le_trans (Nat.le_trans (Nat.le_trans (Nat.le_trans (Nat.le_trans (Nat.le_trans (Nat.le_trans (Nat.le_trans (Nat.le_trans (Nat.le_trans (Nat.le_trans (Nat.le_trans (Nat.le_trans m3 m7) m11) m15) m19) m23) m29) m33) m39) m43) m49) m196) m201) m207) m213) le_b237)) F237_site F237_waiter F237_holder F237_waiterSession F237_holderSession) (hw _ (List.mem_of_getElem? (i := 74) rfl)) (hw _ (List.mem_of_getElem? (i := 37) rfl)) (hw _ (List.mem_of_getElem? (i := 32) rfl)) (hw _ (List.mem_of_getElem? (i := 38) rfl)) (by decide) 1 (by decide) (by decide) (by decide) (by decide) (by rw [hml]; rfl) (lenOf pd_3 rfl) rfl (Nat.le_of_eq rfl) (hb hby at_174)
          have X241 : Stand p l e room_1 (s.setVm vm241) m #[(.int p0), (.int p1), (.int p2)] below meth c T241 L241 23 115 := X241
          obtain ⟨rfl, NN241, K241, E241, F241, G241⟩ := hQ241
          have N241 : Fr n0 L241 := n241 n0 N211 NN241
          have m242 : h237.size ≤ h241.size := K241.1
          have K243 : ∀ t, Steps p.tables e below (T241.setTop (mkF m 177 #[.val (.int p0), .val (.int p1), .val (.int p2), .val (.int (p0 &&& (3 : Int32))), .val (.ref b2), .val (.ref b10), .val (.ref b18), .val (.ref b22), .val (.ref b32), .val (.ref b42), .val (.ref b195), .val (.ref b206), .unset, .unset, .unset] [(.ref b237)])) t → Steps p.tables e below B0 t := fun t k => K240 t (st241 t k)
          have K244 : ∀ t, Steps p.tables e below (T241.setTop (mkF m 209 #[.val (.int p0), .val (.int p1), .val (.int p2), .val (.int (p0 &&& (3 : Int32))), .val (.ref b2), .val (.ref b10), .val (.ref b18), .val (.ref b22), .val (.ref b32), .val (.ref b42), .val (.ref b195), .val (.ref b206), .val (.ref b237), .val (.int (0 : Int32)), .unset] [(.ref b237)])) t → Steps p.tables e below B0 t := fun t k => K243 t (by
            refine Own.astore X241 hx #[.val (.int p0), .val (.int p1), .val (.int p2), .val (.int (p0 &&& (3 : Int32))), .val (.ref b2), .val (.ref b10), .val (.ref b18), .val (.ref b22), .val (.ref b32), .val (.ref b42), .val (.ref b195), .val (.ref b206), .val (.ref b237), .unset, .unset] (hb hby at_177) rfl rfl ?_
            refine Own.iconst X241 hx (0 : Int32) (hb hby at_179) rfl ?_
            refine Own.istore X241 hx #[.val (.int p0), .val (.int p1), .val (.int p2), .val (.int (p0 &&& (3 : Int32))), .val (.ref b2), .val (.ref b10), .val (.ref b18), .val (.ref b22), .val (.ref b32), .val (.ref b42), .val (.ref b195), .val (.ref b206), .val (.ref b237), .val (.int (0 : Int32)), .unset] (hb hby at_180) rfl ?_
            refine Own.goto X241 hx 207 (hb hby at_182) (by decide) (by decide) ?_
            refine Own.aload X241 hx (hb hby at_207) rfl rfl ?_
            exact k)
          obtain ⟨T245, X245, e245, st245⟩ := Own.callVP (Ls := #[.val (.int p0), .val (.int p1), .val (.int p2), .val (.int (p0 &&& (3 : Int32))), .val (.ref b2), .val (.ref b10), .val (.ref b18), .val (.ref b22), .val (.ref b32), .val (.ref b42), .val (.ref b195), .val (.ref b206), .val (.ref b237), .val (.int (0 : Int32)), .unset]) X241 hx D241.hZ e241 b237 [] [] (cNSN l Z a0 hw b237  h241 F241) D241.hown E241 (hw _ (List.mem_of_getElem? (i := 64) rfl)) (hw _ (List.mem_of_getElem? (i := 65) rfl)) (hw _ (List.mem_of_getElem? (i := 67) rfl)) (hw _ (List.mem_of_getElem? (i := 66) rfl)) (hw _ (List.mem_of_getElem? (i := 32) rfl)) (hw _ (List.mem_of_getElem? (i := 68) rfl)) (by decide) 0 rfl rfl (by decide) (by decide) (by decide) (by decide) (by rw [hml]; rfl) (lenOf pd_6 rfl) rfl (Nat.le_of_eq rfl) (hb hby at_209)
          have K246 : ∀ t, Steps p.tables e below (T245.setTop (mkF m 212 #[.val (.int p0), .val (.int p1), .val (.int p2), .val (.int (p0 &&& (3 : Int32))), .val (.ref b2), .val (.ref b10), .val (.ref b18), .val (.ref b22), .val (.ref b32), .val (.ref b42), .val (.ref b195), .val (.ref b206), .val (.ref b237), .val (.int (0 : Int32)), .unset] [(.int (0 : Int32))])) t → Steps p.tables e below B0 t := fun t k => K244 t (st245 t k)
          have K247 : ∀ t, Steps p.tables e below (T245.setTop (mkF m 218 #[.val (.int p0), .val (.int p1), .val (.int p2), .val (.int (p0 &&& (3 : Int32))), .val (.ref b2), .val (.ref b10), .val (.ref b18), .val (.ref b22), .val (.ref b32), .val (.ref b42), .val (.ref b195), .val (.ref b206), .val (.ref b237), .val (.int (0 : Int32)), .val (.int (0 : Int32))] [(.int (0 : Int32)), (.int (0 : Int32))])) t → Steps p.tables e below B0 t := fun t k => K246 t (by
            refine Own.istore X245 hx #[.val (.int p0), .val (.int p1), .val (.int p2), .val (.int (p0 &&& (3 : Int32))), .val (.ref b2), .val (.ref b10), .val (.ref b18), .val (.ref b22), .val (.ref b32), .val (.ref b42), .val (.ref b195), .val (.ref b206), .val (.ref b237), .val (.int (0 : Int32)), .val (.int (0 : Int32))] (hb hby at_212) rfl ?_
            refine Own.iload X245 hx (hb hby at_214) rfl ?_
            refine Own.iload X245 hx (hb hby at_216) rfl ?_
            exact k)
          have K248 : ∀ t, Steps p.tables e below (T245.setTop (mkF m 225 #[.val (.int p0), .val (.int p1), .val (.int p2), .val (.int (p0 &&& (3 : Int32))), .val (.ref b2), .val (.ref b10), .val (.ref b18), .val (.ref b22), .val (.ref b32), .val (.ref b42), .val (.ref b195), .val (.ref b206), .val (.ref b237), .val (.int (0 : Int32)), .val (.int (0 : Int32))] [(.ref b237), (.int (0 : Int32))])) t → Steps p.tables e below B0 t := fun t k => K247 t (by
            refine Own.icmpNo X245 hx (hb hby at_218) (teq (by decide : (0 : Int32) = (0 : Int32))).2 ?_
            refine Own.iload X245 hx (hb hby at_221) rfl ?_
            refine Own.aload X245 hx (hb hby at_223) rfl rfl ?_
            exact k)
          obtain ⟨T249, X249, e249, st249⟩ := Own.callVP (Ls := #[.val (.int p0), .val (.int p1), .val (.int p2), .val (.int (p0 &&& (3 : Int32))), .val (.ref b2), .val (.ref b10), .val (.ref b18), .val (.ref b22), .val (.ref b32), .val (.ref b42), .val (.ref b195), .val (.ref b206), .val (.ref b237), .val (.int (0 : Int32)), .val (.int (0 : Int32))]) X245 hx D241.hZ e245 b237 [] [(.int (0 : Int32))] (cHSN l Z a0 hw b237  h241 G241) D241.hown E241 (hw _ (List.mem_of_getElem? (i := 69) rfl)) (hw _ (List.mem_of_getElem? (i := 70) rfl)) (hw _ (List.mem_of_getElem? (i := 72) rfl)) (hw _ (List.mem_of_getElem? (i := 71) rfl)) (hw _ (List.mem_of_getElem? (i := 32) rfl)) (hw _ (List.mem_of_getElem? (i := 73) rfl)) (by decide) 1 rfl rfl (by decide) (by decide) (by decide) (by decide) (by rw [hml]; rfl) (lenOf pd_7 rfl) rfl (Nat.le_of_eq rfl) (hb hby at_225)
          have K250 : ∀ t, Steps p.tables e below (T249.setTop (mkF m 228 #[.val (.int p0), .val (.int p1), .val (.int p2), .val (.int (p0 &&& (3 : Int32))), .val (.ref b2), .val (.ref b10), .val (.ref b18), .val (.ref b22), .val (.ref b32), .val (.ref b42), .val (.ref b195), .val (.ref b206), .val (.ref b237), .val (.int (0 : Int32)), .val (.int (0 : Int32))] [.null, (.int (0 : Int32))])) t → Steps p.tables e below B0 t := fun t k => K248 t (st249 t k)
          have K251 : ∀ t, Steps p.tables e below (T249.setTop (mkF m 236 #[.val (.int p0), .val (.int p1), .val (.int p2), .val (.int (p0 &&& (3 : Int32))), .val (.ref b2), .val (.ref b10), .val (.ref b18), .val (.ref b22), .val (.ref b32), .val (.ref b42), .val (.ref b195), .val (.ref b206), .val (.ref b237), .val (.int (0 : Int32)), .val (.int (0 : Int32))] [(.int (0 : Int32)), (.int (0 : Int32))])) t → Steps p.tables e below B0 t := fun t k => K250 t (by
            refine Own.ifnullYes X249 hx 235 (hb hby at_228) (by decide) (by decide) ?_
            refine Own.iconst X249 hx (0 : Int32) (hb hby at_235) rfl ?_
            exact k)
          have K252 : ∀ t, Steps p.tables e below (T249.setTop (mkF m 244 #[.val (.int p0), .val (.int p1), .val (.int p2), .val (.int (p0 &&& (3 : Int32))), .val (.ref b2), .val (.ref b10), .val (.ref b18), .val (.ref b22), .val (.ref b32), .val (.ref b42), .val (.ref b195), .val (.ref b206), .val (.ref b237), .val (.int (0 : Int32)), .val (.int (0 : Int32))] [(.int (1 : Int32))])) t → Steps p.tables e below B0 t := fun t k => K251 t (by
            refine Own.icmpNo X249 hx (hb hby at_236) (teq (by decide : (0 : Int32) = (0 : Int32))).2 ?_
            refine Own.iconst X249 hx (1 : Int32) (hb hby at_239) rfl ?_
            refine Own.goto X249 hx 244 (hb hby at_240) (by decide) (by decide) ?_
            exact k)
          exact Own.finHN X249 hx (own_hEL hw) e249 D241 (BodyLoose.notSynchronized Bd) Bd.returns (by simp) (hb hby at_244) K252 (by decide) (by decide) ⟨rfl, hn0 ▸ N241⟩
        · have K253 : ∀ t, Steps p.tables e below (T211.setTop (mkF m 185 #[.val (.int p0), .val (.int p1), .val (.int p2), .val (.int (p0 &&& (3 : Int32))), .val (.ref b2), .val (.ref b10), .val (.ref b18), .val (.ref b22), .val (.ref b32), .val (.ref b42), .val (.ref b195), .val (.ref b206), .unset, .unset, .unset] [])) t → Steps p.tables e below B0 t := fun t k => K234 t (by
            refine Own.icmpYes X211 hx 185 (hb hby at_159) (feq hc235).2 (by decide) (by decide) ?_
            exact k)
          obtain ⟨T254, h254, b254, X254, e254, E254, g254, A254, D254, st254⟩ := Own.newO (Ls := #[.val (.int p0), .val (.int p1), .val (.int p2), .val (.int (p0 &&& (3 : Int32))), .val (.ref b2), .val (.ref b10), .val (.ref b18), .val (.ref b22), .val (.ref b32), .val (.ref b42), .val (.ref b195), .val (.ref b206), .unset, .unset, .unset]) (S := []) X211 hx D213.hZ e211 D213.hown (hw _ (List.mem_of_getElem? (i := 30) rfl)) (hw _ (List.mem_of_getElem? (i := 31) rfl)) (hw _ (List.mem_of_getElem? (i := 32) rfl)) (hb hby at_185) (by decide) (by decide)
          have le_b254 : h211.size ≤ b254 := Nat.le_of_eq g254.symm
          have X254 : Stand p l e room_1 (s.setVm vm200) m #[(.int p0), (.int p1), (.int p2)] below meth c T254 L211 17 39 := X254
          have m255 : h211.size ≤ h254.size := E254.1
          have D255 := D213.ext E254
          have F254_site : Fld Z h254 b254 "com/example/cyclewarden/cyclewarden/core/Wait" "site" "Ljava/lang/String;" .null := D254 (Or.inr (hw _ (List.mem_of_getElem? (i := 55) rfl))) (ty := (.object "java/lang/String")) (by decide)
          have F254_waiter : Fld Z h254 b254 "com/example/cyclewarden/cyclewarden/core/Wait" "waiter" "Ljava/lang/String;" .null := D254 (Or.inr (hw _ (List.mem_of_getElem? (i := 57) rfl))) (ty := (.object "java/lang/String")) (by decide)
          have F254_holder : Fld Z h254 b254 "com/example/cyclewarden/cyclewarden/core/Wait" "holder" "Ljava/lang/String;" .null := D254 (Or.inr (hw _ (List.mem_of_getElem? (i := 59) rfl))) (ty := (.object "java/lang/String")) (by decide)
          have F254_waiterSession : Fld Z h254 b254 "com/example/cyclewarden/cyclewarden/core/Wait" "waiterSession" "Ljava/lang/String;" .null := D254 (Or.inr (hw _ (List.mem_of_getElem? (i := 61) rfl))) (ty := (.object "java/lang/String")) (by decide)
          have F254_holderSession : Fld Z h254 b254 "com/example/cyclewarden/cyclewarden/core/Wait" "holderSession" "Ljava/lang/String;" .null := D254 (Or.inr (hw _ (List.mem_of_getElem? (i := 63) rfl))) (ty := (.object "java/lang/String")) (by decide)
          have K256 : ∀ t, Steps p.tables e below (T254.setTop (mkF m 188 #[.val (.int p0), .val (.int p1), .val (.int p2), .val (.int (p0 &&& (3 : Int32))), .val (.ref b2), .val (.ref b10), .val (.ref b18), .val (.ref b22), .val (.ref b32), .val (.ref b42), .val (.ref b195), .val (.ref b206), .unset, .unset, .unset] [(.ref b254)])) t → Steps p.tables e below B0 t := fun t k => K253 t (st254 t k)
          have K257 : ∀ t, Steps p.tables e below (T254.setTop (mkF m 199 #[.val (.int p0), .val (.int p1), .val (.int p2), .val (.int (p0 &&& (3 : Int32))), .val (.ref b2), .val (.ref b10), .val (.ref b18), .val (.ref b22), .val (.ref b32), .val (.ref b42), .val (.ref b195), .val (.ref b206), .unset, .unset, .unset] [(.ref b206), (.ref b195), (.ref b42), (.ref b32), (.ref b22), (.ref b254), (.ref b254)])) t → Steps p.tables e below B0 t := fun t k => K256 t (by
            refine Own.dup X254 hx (hb hby at_188) rfl ?_
            refine Own.aload X254 hx (hb hby at_189) rfl rfl ?_
            refine Own.aload X254 hx (hb hby at_191) rfl rfl ?_
            refine Own.aload X254 hx (hb hby at_193) rfl rfl ?_
            refine Own.aload X254 hx (hb hby at_195) rfl rfl ?_
            refine Own.aload X254 hx (hb hby at_197) rfl rfl ?_
            exact k)
          obtain ⟨vm258, T258, h258, v258, J258, L258, X258, e258, D258, mm258, n258, hQ258, st258⟩ := Own.callIW (Ls := #[.val (.int p0), .val (.int p1), .val (.int p2), .val (.int (p0 &&& (3 : Int32))), .val (.ref b2), .val (.ref b10), .val (.ref b18), .val (.ref b22), .val (.ref b32), .val (.ref b42), .val (.ref b195), .val (.ref b206), .unset, .unset, .unset]) X254 hx (own_hEL hw) D255 e254 rfl b254 [(.ref b22), (.ref b32), (.ref b42), (.ref b195), (.ref b206)] [(.ref b254)] (cWR l Z a0 hw b254 b22 b32 b42 b195 b206 n0 h254 (Nat.le_trans Z0 (Nat.le_trans (Nat.le_trans (Nat.le_trans (Nat.le_trans (Nat.le_trans (Nat.le_trans (Nat.le_trans (Nat.le_trans (Nat.le_trans (Nat.le_trans (Nat.le_trans (Nat.le_trans (Nat.le_trans (Nat.le_trans (Nat.le_trans m3 m7) m11) m15) m19) m23) m29) m33) m39) m43) m49) m196) m201) m207) m213) m255)) A254 (Nat.le_trans Z0 (Nat.le_trans (Nat.le_trans (Nat.le_trans (Nat.le_trans (Nat.le_trans (Nat.le_trans (Nat.le_trans (Nat.le_trans (Nat.le_trans (Nat.le_trans (Nat.le_trans (Nat.le_trans (Nat.le_trans (Nat.le_trans (Nat.le_trans m3 m7) m11) m15) m19) m23) m29) m33) m39) m43) m49) m196) m201) m207) m213) le_b254)) F254_site F254_waiter F254_holder F254_waiterSession F254_holderSession) (hw _ (List.mem_of_getElem? (i := 74) rfl)) (hw _ (List.mem_of_getElem? (i := 37) rfl)) (hw _ (List.mem_of_getElem? (i := 32) rfl)) (hw _ (List.mem_of_getElem? (i := 38) rfl)) (by decide) 1 (by decide) (by decide) (by decide) (by decide) (by rw [hml]; rfl) (lenOf pd_3 rfl) rfl (Nat.le_of_eq rfl) (hb hby at_199)
          have X258 : Stand p l e room_1 (s.setVm vm258) m #[(.int p0), (.int p1), (.int p2)] below meth c T258 L258 23 115 := X258
          obtain ⟨rfl, NN258, K258, E258, F258, G258⟩ := hQ258
          have N258 : Fr n0 L258 := n258 n0 N211 NN258
          have m259 : h254.size ≤ h258.size := K258.1
          have K260 : ∀ t, Steps p.tables e below (T258.setTop (mkF m 202 #[.val (.int p0), .val (.int p1), .val (.int p2), .val (.int (p0 &&& (3 : Int32))), .val (.ref b2), .val (.ref b10), .val (.ref b18), .val (.ref b22), .val (.ref b32), .val (.ref b42), .val (.ref b195), .val (.ref b206), .unset, .unset, .unset] [(.ref b254)])) t → Steps p.tables e below B0 t := fun t k => K257 t (st258 t k)
          have K261 : ∀ t, Steps p.tables e below (T258.setTop (mkF m 209 #[.val (.int p0), .val (.int p1), .val (.int p2), .val (.int (p0 &&& (3 : Int32))), .val (.ref b2), .val (.ref b10), .val (.ref b18), .val (.ref b22), .val (.ref b32), .val (.ref b42), .val (.ref b195), .val (.ref b206), .val (.ref b254), .val (.int (1 : Int32)), .unset] [(.ref b254)])) t → Steps p.tables e below B0 t := fun t k => K260 t (by
            refine Own.astore X258 hx #[.val (.int p0), .val (.int p1), .val (.int p2), .val (.int (p0 &&& (3 : Int32))), .val (.ref b2), .val (.ref b10), .val (.ref b18), .val (.ref b22), .val (.ref b32), .val (.ref b42), .val (.ref b195), .val (.ref b206), .val (.ref b254), .unset, .unset] (hb hby at_202) rfl rfl ?_
            refine Own.iconst X258 hx (1 : Int32) (hb hby at_204) rfl ?_
            refine Own.istore X258 hx #[.val (.int p0), .val (.int p1), .val (.int p2), .val (.int (p0 &&& (3 : Int32))), .val (.ref b2), .val (.ref b10), .val (.ref b18), .val (.ref b22), .val (.ref b32), .val (.ref b42), .val (.ref b195), .val (.ref b206), .val (.ref b254), .val (.int (1 : Int32)), .unset] (hb hby at_205) rfl ?_
            refine Own.aload X258 hx (hb hby at_207) rfl rfl ?_
            exact k)
          obtain ⟨T262, X262, e262, st262⟩ := Own.callVP (Ls := #[.val (.int p0), .val (.int p1), .val (.int p2), .val (.int (p0 &&& (3 : Int32))), .val (.ref b2), .val (.ref b10), .val (.ref b18), .val (.ref b22), .val (.ref b32), .val (.ref b42), .val (.ref b195), .val (.ref b206), .val (.ref b254), .val (.int (1 : Int32)), .unset]) X258 hx D258.hZ e258 b254 [] [] (cNSR l Z a0 hw b254 b195 h258 F258) D258.hown E258 (hw _ (List.mem_of_getElem? (i := 64) rfl)) (hw _ (List.mem_of_getElem? (i := 65) rfl)) (hw _ (List.mem_of_getElem? (i := 67) rfl)) (hw _ (List.mem_of_getElem? (i := 66) rfl)) (hw _ (List.mem_of_getElem? (i := 32) rfl)) (hw _ (List.mem_of_getElem? (i := 68) rfl)) (by decide) 0 rfl rfl (by decide) (by decide) (by decide) (by decide) (by rw [hml]; rfl) (lenOf pd_6 rfl) rfl (Nat.le_of_eq rfl) (hb hby at_209)
          have K263 : ∀ t, Steps p.tables e below (T262.setTop (mkF m 212 #[.val (.int p0), .val (.int p1), .val (.int p2), .val (.int (p0 &&& (3 : Int32))), .val (.ref b2), .val (.ref b10), .val (.ref b18), .val (.ref b22), .val (.ref b32), .val (.ref b42), .val (.ref b195), .val (.ref b206), .val (.ref b254), .val (.int (1 : Int32)), .unset] [(.int (1 : Int32))])) t → Steps p.tables e below B0 t := fun t k => K261 t (st262 t k)
          have K264 : ∀ t, Steps p.tables e below (T262.setTop (mkF m 218 #[.val (.int p0), .val (.int p1), .val (.int p2), .val (.int (p0 &&& (3 : Int32))), .val (.ref b2), .val (.ref b10), .val (.ref b18), .val (.ref b22), .val (.ref b32), .val (.ref b42), .val (.ref b195), .val (.ref b206), .val (.ref b254), .val (.int (1 : Int32)), .val (.int (1 : Int32))] [(.int (1 : Int32)), (.int (1 : Int32))])) t → Steps p.tables e below B0 t := fun t k => K263 t (by
            refine Own.istore X262 hx #[.val (.int p0), .val (.int p1), .val (.int p2), .val (.int (p0 &&& (3 : Int32))), .val (.ref b2), .val (.ref b10), .val (.ref b18), .val (.ref b22), .val (.ref b32), .val (.ref b42), .val (.ref b195), .val (.ref b206), .val (.ref b254), .val (.int (1 : Int32)), .val (.int (1 : Int32))] (hb hby at_212) rfl ?_
            refine Own.iload X262 hx (hb hby at_214) rfl ?_
            refine Own.iload X262 hx (hb hby at_216) rfl ?_
            exact k)
          have K265 : ∀ t, Steps p.tables e below (T262.setTop (mkF m 225 #[.val (.int p0), .val (.int p1), .val (.int p2), .val (.int (p0 &&& (3 : Int32))), .val (.ref b2), .val (.ref b10), .val (.ref b18), .val (.ref b22), .val (.ref b32), .val (.ref b42), .val (.ref b195), .val (.ref b206), .val (.ref b254), .val (.int (1 : Int32)), .val (.int (1 : Int32))] [(.ref b254), (.int (1 : Int32))])) t → Steps p.tables e below B0 t := fun t k => K264 t (by
            refine Own.icmpNo X262 hx (hb hby at_218) (teq (by decide : (1 : Int32) = (1 : Int32))).2 ?_
            refine Own.iload X262 hx (hb hby at_221) rfl ?_
            refine Own.aload X262 hx (hb hby at_223) rfl rfl ?_
            exact k)
          obtain ⟨T266, X266, e266, st266⟩ := Own.callVP (Ls := #[.val (.int p0), .val (.int p1), .val (.int p2), .val (.int (p0 &&& (3 : Int32))), .val (.ref b2), .val (.ref b10), .val (.ref b18), .val (.ref b22), .val (.ref b32), .val (.ref b42), .val (.ref b195), .val (.ref b206), .val (.ref b254), .val (.int (1 : Int32)), .val (.int (1 : Int32))]) X262 hx D258.hZ e262 b254 [] [(.int (1 : Int32))] (cHSR l Z a0 hw b254 b206 h258 G258) D258.hown E258 (hw _ (List.mem_of_getElem? (i := 69) rfl)) (hw _ (List.mem_of_getElem? (i := 70) rfl)) (hw _ (List.mem_of_getElem? (i := 72) rfl)) (hw _ (List.mem_of_getElem? (i := 71) rfl)) (hw _ (List.mem_of_getElem? (i := 32) rfl)) (hw _ (List.mem_of_getElem? (i := 73) rfl)) (by decide) 1 rfl rfl (by decide) (by decide) (by decide) (by decide) (by rw [hml]; rfl) (lenOf pd_7 rfl) rfl (Nat.le_of_eq rfl) (hb hby at_225)
          have K267 : ∀ t, Steps p.tables e below (T266.setTop (mkF m 228 #[.val (.int p0), .val (.int p1), .val (.int p2), .val (.int (p0 &&& (3 : Int32))), .val (.ref b2), .val (.ref b10), .val (.ref b18), .val (.ref b22), .val (.ref b32), .val (.ref b42), .val (.ref b195), .val (.ref b206), .val (.ref b254), .val (.int (1 : Int32)), .val (.int (1 : Int32))] [(.ref b206), (.int (1 : Int32))])) t → Steps p.tables e below B0 t := fun t k => K265 t (st266 t k)
          have K268 : ∀ t, Steps p.tables e below (T266.setTop (mkF m 236 #[.val (.int p0), .val (.int p1), .val (.int p2), .val (.int (p0 &&& (3 : Int32))), .val (.ref b2), .val (.ref b10), .val (.ref b18), .val (.ref b22), .val (.ref b32), .val (.ref b42), .val (.ref b195), .val (.ref b206), .val (.ref b254), .val (.int (1 : Int32)), .val (.int (1 : Int32))] [(.int (1 : Int32)), (.int (1 : Int32))])) t → Steps p.tables e below B0 t := fun t k => K267 t (by
            refine Own.ifnullNo X266 hx (hb hby at_228) ?_
            refine Own.iconst X266 hx (1 : Int32) (hb hby at_231) rfl ?_
            refine Own.goto X266 hx 236 (hb hby at_232) (by decide) (by decide) ?_
            exact k)
          have K269 : ∀ t, Steps p.tables e below (T266.setTop (mkF m 244 #[.val (.int p0), .val (.int p1), .val (.int p2), .val (.int (p0 &&& (3 : Int32))), .val (.ref b2), .val (.ref b10), .val (.ref b18), .val (.ref b22), .val (.ref b32), .val (.ref b42), .val (.ref b195), .val (.ref b206), .val (.ref b254), .val (.int (1 : Int32)), .val (.int (1 : Int32))] [(.int (1 : Int32))])) t → Steps p.tables e below B0 t := fun t k => K268 t (by
            refine Own.icmpNo X266 hx (hb hby at_236) (teq (by decide : (1 : Int32) = (1 : Int32))).2 ?_
            refine Own.iconst X266 hx (1 : Int32) (hb hby at_239) rfl ?_
            refine Own.goto X266 hx 244 (hb hby at_240) (by decide) (by decide) ?_
            exact k)
          exact Own.finHN X266 hx (own_hEL hw) e266 D258 (BodyLoose.notSynchronized Bd) Bd.returns (by simp) (hb hby at_244) K269 (by decide) (by decide) ⟨rfl, hn0 ▸ N258⟩
    · have K270 : ∀ t, Steps p.tables e below (T200.setTop (mkF m 109 #[.val (.int p0), .val (.int p1), .val (.int p2), .val (.int (p0 &&& (3 : Int32))), .val (.ref b2), .val (.ref b10), .val (.ref b18), .val (.ref b22), .val (.ref b32), .val (.ref b42), .val (.ref b195), .unset, .unset, .unset, .unset] [])) t → Steps p.tables e below B0 t := fun t k => K203 t (by
        refine Own.ifNo X200 hx (hb hby at_106) ((if0 _ _).trans (feq hc204).1) ?_
        exact k)
      obtain ⟨T271, h271, b271, X271, e271, E271, g271, A271, D271, st271⟩ := Own.newO (Ls := #[.val (.int p0), .val (.int p1), .val (.int p2), .val (.int (p0 &&& (3 : Int32))), .val (.ref b2), .val (.ref b10), .val (.ref b18), .val (.ref b22), .val (.ref b32), .val (.ref b42), .val (.ref b195), .unset, .unset, .unset, .unset]) (S := []) X200 hx D200.hZ e200 D200.hown (hw _ (List.mem_of_getElem? (i := 1) rfl)) (hw _ (List.mem_of_getElem? (i := 2) rfl)) (hw _ (List.mem_of_getElem? (i := 3) rfl)) (hb hby at_109) (by decide) (by decide)
      have le_b271 : h200.size ≤ b271 := Nat.le_of_eq g271.symm
      have X271 : Stand p l e room_1 (s.setVm vm200) m #[(.int p0), (.int p1), (.int p2)] below meth c T271 L200 15 33 := X271
      have m272 : h200.size ≤ h271.size := E271.1
      have D272 := D200.ext E271
      have F271_coder : Fld Z h271 b271 "java/lang/String" "coder" "B" (.int (0 : Int32)) := D271 (Or.inr (hw _ (List.mem_of_getElem? (i := 27) rfl))) (ty := .byte) (by decide)
      have F271_value : Fld Z h271 b271 "java/lang/String" "value" "[B" .null := D271 (Or.inr (hw _ (List.mem_of_getElem? (i := 29) rfl))) (ty := (.array .byte)) (by decide)
      have K273 : ∀ t, Steps p.tables e below (T271.setTop (mkF m 112 #[.val (.int p0), .val (.int p1), .val (.int p2), .val (.int (p0 &&& (3 : Int32))), .val (.ref b2), .val (.ref b10), .val (.ref b18), .val (.ref b22), .val (.ref b32), .val (.ref b42), .val (.ref b195), .unset, .unset, .unset, .unset] [(.ref b271)])) t → Steps p.tables e below B0 t := fun t k => K270 t (st271 t k)
      have f274 := ((f198.keep K200 (ninS (Nat.ne_of_lt (Nat.lt_of_lt_of_le ((((((V18.ext E22).keep K27 (ninS (Nat.ne_of_lt (Nat.lt_of_lt_of_le V18.lt le_b22)) nin0)).ext E32).keep K37 (ninS (Nat.ne_of_lt (Nat.lt_of_lt_of_le ((V18.ext E22).keep K27 (ninS (Nat.ne_of_lt (Nat.lt_of_lt_of_le V18.lt le_b22)) nin0)).lt le_b32)) nin0)).ext E42).keep K47 (ninS (Nat.ne_of_lt (Nat.lt_of_lt_of_le ((((V18.ext E22).keep K27 (ninS (Nat.ne_of_lt (Nat.lt_of_lt_of_le V18.lt le_b22)) nin0)).ext E32).keep K37 (ninS (Nat.ne_of_lt (Nat.lt_of_lt_of_le ((V18.ext E22).keep K27 (ninS (Nat.ne_of_lt (Nat.lt_of_lt_of_le V18.lt le_b22)) nin0)).lt le_b32)) nin0)).lt le_b42)) nin0)).lt le_b195)) nin0)).ext E271)
      have K275 : ∀ t, Steps p.tables e below (T271.setTop (mkF m 115 #[.val (.int p0), .val (.int p1), .val (.int p2), .val (.int (p0 &&& (3 : Int32))), .val (.ref b2), .val (.ref b10), .val (.ref b18), .val (.ref b22), .val (.ref b32), .val (.ref b42), .val (.ref b195), .unset, .unset, .unset, .unset] [(.ref b18), (.ref b271), (.ref b271)])) t → Steps p.tables e below B0 t := fun t k => K273 t (by
        refine Own.dup X271 hx (hb hby at_112) rfl ?_
        refine Own.aload X271 hx (hb hby at_113) rfl rfl ?_
        exact k)
      obtain ⟨vm276, T276, h276, v276, J276, L276, X276, e276, D276, mm276, n276, hQ276, st276⟩ := Own.callIW (Ls := #[.val (.int p0), .val (.int p1), .val (.int p2), .val (.int (p0 &&& (3 : Int32))), .val (.ref b2), .val (.ref b10), .val (.ref b18), .val (.ref b22), .val (.ref b32), .val (.ref b42), .val (.ref b195), .unset, .unset, .unset, .unset]) X271 hx (own_hEL hw) D272 e271 rfl b271 [(.ref b18)] [(.ref b271)] (cE1 l Z a0 hw b271 b18 n0 (.int (0 : Int32)) h271 (Nat.le_trans Z0 (Nat.le_trans (Nat.le_trans (Nat.le_trans (Nat.le_trans (Nat.le_trans (Nat.le_trans (Nat.le_trans (Nat.le_trans (Nat.le_trans (Nat.le_trans (Nat.le_trans (Nat.le_trans (Nat.le_trans m3 m7) m11) m15) m19) m23) m29) m33) m39) m43) m49) m196) m201) m272)) A271 F271_value F271_coder (Nat.le_trans Z0 (Nat.le_trans (Nat.le_trans (Nat.le_trans (Nat.le_trans (Nat.le_trans (Nat.le_trans (Nat.le_trans (Nat.le_trans (Nat.le_trans (Nat.le_trans (Nat.le_trans (Nat.le_trans (Nat.le_trans m3 m7) m11) m15) m19) m23) m29) m33) m39) m43) m49) m196) m201) le_b271)) f274) (hw _ (List.mem_of_getElem? (i := 4) rfl)) (hw _ (List.mem_of_getElem? (i := 5) rfl)) (hw _ (List.mem_of_getElem? (i := 3) rfl)) (hw _ (List.mem_of_getElem? (i := 6) rfl)) (by decide) 1 (by decide) (by decide) (by decide) (by decide) (by rw [hml]; rfl) (lenOf pd_4 rfl) rfl (Nat.le_of_eq rfl) (hb hby at_115)
      have X276 : Stand p l e room_1 (s.setVm vm276) m #[(.int p0), (.int p1), (.int p2)] below meth c T276 L276 19 41 := X276
      obtain ⟨rfl, NN276, K276, t276⟩ := hQ276
      have N276 : Fr n0 L276 := n276 n0 N200 NN276
      have m277 : h271.size ≤ h276.size := K276.1
      have K278 : ∀ t, Steps p.tables e below (T276.setTop (mkF m 118 #[.val (.int p0), .val (.int p1), .val (.int p2), .val (.int (p0 &&& (3 : Int32))), .val (.ref b2), .val (.ref b10), .val (.ref b18), .val (.ref b22), .val (.ref b32), .val (.ref b42), .val (.ref b195), .unset, .unset, .unset, .unset] [(.ref b271)])) t → Steps p.tables e below B0 t := fun t k => K275 t (st276 t k)
      have K279 : ∀ t, Steps p.tables e below (T276.setTop (mkF m 133 #[.val (.int p0), .val (.int p1), .val (.int p2), .val (.int (p0 &&& (3 : Int32))), .val (.ref b2), .val (.ref b10), .val (.ref b18), .val (.ref b22), .val (.ref b32), .val (.ref b42), .val (.ref b195), .val (.ref b271), .unset, .unset, .unset] [(.int (p0 &&& (3 : Int32)))])) t → Steps p.tables e below B0 t := fun t k => K278 t (by
        refine Own.goto X276 hx 130 (hb hby at_118) (by decide) (by decide) ?_
        refine Own.astore X276 hx #[.val (.int p0), .val (.int p1), .val (.int p2), .val (.int (p0 &&& (3 : Int32))), .val (.ref b2), .val (.ref b10), .val (.ref b18), .val (.ref b22), .val (.ref b32), .val (.ref b42), .val (.ref b195), .val (.ref b271), .unset, .unset, .unset] (hb hby at_130) rfl rfl ?_
        refine Own.iloadN X276 hx (hb hby at_132) rfl ?_
        exact k)
      by_cases hc280 : (p0 &&& (3 : Int32)) = (0 : Int32)
      · have K281 : ∀ t, Steps p.tables e below (T276.setTop (mkF m 136 #[.val (.int p0), .val (.int p1), .val (.int p2), .val (.int (p0 &&& (3 : Int32))), .val (.ref b2), .val (.ref b10), .val (.ref b18), .val (.ref b22), .val (.ref b32), .val (.ref b42), .val (.ref b195), .val (.ref b271), .unset, .unset, .unset] [])) t → Steps p.tables e below B0 t := fun t k => K279 t (by
          refine Own.ifNo X276 hx (hb hby at_133) ((if0 _ _).trans (teq hc280).2) ?_
          exact k)
        obtain ⟨T282, h282, b282, X282, e282, E282, g282, A282, D282, st282⟩ := Own.newO (Ls := #[.val (.int p0), .val (.int p1), .val (.int p2), .val (.int (p0 &&& (3 : Int32))), .val (.ref b2), .val (.ref b10), .val (.ref b18), .val (.ref b22), .val (.ref b32), .val (.ref b42), .val (.ref b195), .val (.ref b271), .unset, .unset, .unset]) (S := []) X276 hx D276.hZ e276 D276.hown (hw _ (List.mem_of_getElem? (i := 30) rfl)) (hw _ (List.mem_of_getElem? (i := 31) rfl)) (hw _ (List.mem_of_getElem? (i := 32) rfl)) (hb hby at_136) (by decide) (by decide)
        have le_b282 : h276.size ≤ b282 := Nat.le_of_eq g282.symm
        have X282 : Stand p l e room_1 (s.setVm vm276) m #[(.int p0), (.int p1), (.int p2)] below meth c T282 L276 20 46 := X282
        have m283 : h276.size ≤ h282.size := E282.1
        have D283 := D276.ext E282
        have F282_site : Fld Z h282 b282 "com/example/cyclewarden/cyclewarden/core/Wait" "site" "Ljava/lang/String;" .null := D282 (Or.inr (hw _ (List.mem_of_getElem? (i := 55) rfl))) (ty := (.object "java/lang/String")) (by decide)
        have F282_waiter : Fld Z h282 b282 "com/example/cyclewarden/cyclewarden/core/Wait" "waiter" "Ljava/lang/String;" .null := D282 (Or.inr (hw _ (List.mem_of_getElem? (i := 57) rfl))) (ty := (.object "java/lang/String")) (by decide)
        have F282_holder : Fld Z h282 b282 "com/example/cyclewarden/cyclewarden/core/Wait" "holder" "Ljava/lang/String;" .null := D282 (Or.inr (hw _ (List.mem_of_getElem? (i := 59) rfl))) (ty := (.object "java/lang/String")) (by decide)
        have F282_waiterSession : Fld Z h282 b282 "com/example/cyclewarden/cyclewarden/core/Wait" "waiterSession" "Ljava/lang/String;" .null := D282 (Or.inr (hw _ (List.mem_of_getElem? (i := 61) rfl))) (ty := (.object "java/lang/String")) (by decide)
        have F282_holderSession : Fld Z h282 b282 "com/example/cyclewarden/cyclewarden/core/Wait" "holderSession" "Ljava/lang/String;" .null := D282 (Or.inr (hw _ (List.mem_of_getElem? (i := 63) rfl))) (ty := (.object "java/lang/String")) (by decide)
        have K284 : ∀ t, Steps p.tables e below (T282.setTop (mkF m 139 #[.val (.int p0), .val (.int p1), .val (.int p2), .val (.int (p0 &&& (3 : Int32))), .val (.ref b2), .val (.ref b10), .val (.ref b18), .val (.ref b22), .val (.ref b32), .val (.ref b42), .val (.ref b195), .val (.ref b271), .unset, .unset, .unset] [(.ref b282)])) t → Steps p.tables e below B0 t := fun t k => K281 t (st282 t k)
        have K285 : ∀ t, Steps p.tables e below (T282.setTop (mkF m 146 #[.val (.int p0), .val (.int p1), .val (.int p2), .val (.int (p0 &&& (3 : Int32))), .val (.ref b2), .val (.ref b10), .val (.ref b18), .val (.ref b22), .val (.ref b32), .val (.ref b42), .val (.ref b195), .val (.ref b271), .unset, .unset, .unset] [(.ref b42), (.ref b32), (.ref b22), (.ref b282), (.ref b282)])) t → Steps p.tables e below B0 t := fun t k => K284 t (by
          refine Own.dup X282 hx (hb hby at_139) rfl ?_
          refine Own.aload X282 hx (hb hby at_140) rfl rfl ?_
          refine Own.aload X282 hx (hb hby at_142) rfl rfl ?_
          refine Own.aload X282 hx (hb hby at_144) rfl rfl ?_
          exact k)
        obtain ⟨vm286, T286, h286, v286, J286, L286, X286, e286, D286, mm286, n286, hQ286, st286⟩ := Own.callIW (Ls := #[.val (.int p0), .val (.int p1), .val (.int p2), .val (.int (p0 &&& (3 : Int32))), .val (.ref b2), .val (.ref b10), .val (.ref b18), .val (.ref b22), .val (.ref b32), .val (.ref b42), .val (.ref b195), .val (.ref b271), .unset, .unset, .unset]) X282 hx (own_hEL hw) D283 e282 rfl b282 [(.ref b22), (.ref b32), (.ref b42)] [(.ref b282)] (cW3 l Z a0 hw b282 b22 b32 b42 n0 h282 (Nat.le_trans Z0 (Nat.le_trans (Nat.le_trans (Nat.le_trans (Nat.le_trans (Nat.le_trans (Nat.le_trans (Nat.le_trans (Nat.le_trans (Nat.le_trans (Nat.le_trans (Nat.le_trans (Nat.le_trans (Nat.le_trans (Nat.le_trans (Nat.le_trans m3 m7) m11) m15) m19) m23) m29) m33) m39) m43) m49) m196) m201) m272) m277) m283)) A282 (Nat.le_trans Z0 (Nat.le_trans (Nat.le_trans (Nat.le_trans (Nat.le_trans (Nat.le_trans (Nat.le_trans (Nat.le_trans (Nat.le_trans (Nat.le_trans (Nat.le_trans (Nat.le_trans (Nat.le_trans (Nat.le_trans (Nat.le_trans (Nat.le_trans m3 m7) m11) m15) m19) m23) m29) m33) m39) m43) m49) m196) m201) m272) m277) le_b282)) F282_site F282_waiter F282_holder F282_waiterSession F282_holderSession) (hw _ (List.mem_of_getElem? (i := 33) rfl)) (hw _ (List.mem_of_getElem? (i := 34) rfl)) (hw _ (List.mem_of_getElem? (i := 32) rfl)) (hw _ (List.mem_of_getElem? (i := 35) rfl)) (by decide) 1 (by decide) (by decide) (by decide) (by decide) (by rw [hml]; rfl) (lenOf pd_5 rfl) rfl (Nat.le_of_eq rfl) (hb hby at_146)
        have X286 : Stand p l e room_1 (s.setVm vm286) m #[(.int p0), (.int p1), (.int p2)] below meth c T286 L286 26 122 := X286
        obtain ⟨rfl, NN286, K286, E286, F286, G286⟩ := hQ286
        have N286 : Fr n0 L286 := n286 n0 N276 NN286
        have m287 : h282.size ≤ h286.size := K286.1
        have K288 : ∀ t, Steps p.tables e below (T286.setTop (mkF m 149 #[.val (.int p0), .val (.int p1), .val (.int p2), .val (.int (p0 &&& (3 : Int32))), .val (.ref b2), .val (.ref b10), .val (.ref b18), .val (.ref b22), .val (.ref b32), .val (.ref b42), .val (.ref b195), .val (.ref b271), .unset, .unset, .unset] [(.ref b282)])) t → Steps p.tables e below B0 t := fun t k => K285 t (st286 t k)
        have K289 : ∀ t, Steps p.tables e below (T286.setTop (mkF m 209 #[.val (.int p0), .val (.int p1), .val (.int p2), .val (.int (p0 &&& (3 : Int32))), .val (.ref b2), .val (.ref b10), .val (.ref b18), .val (.ref b22), .val (.ref b32), .val (.ref b42), .val (.ref b195), .val (.ref b271), .val (.ref b282), .val (.int (0 : Int32)), .unset] [(.ref b282)])) t → Steps p.tables e below B0 t := fun t k => K288 t (by
          refine Own.astore X286 hx #[.val (.int p0), .val (.int p1), .val (.int p2), .val (.int (p0 &&& (3 : Int32))), .val (.ref b2), .val (.ref b10), .val (.ref b18), .val (.ref b22), .val (.ref b32), .val (.ref b42), .val (.ref b195), .val (.ref b271), .val (.ref b282), .unset, .unset] (hb hby at_149) rfl rfl ?_
          refine Own.iconst X286 hx (0 : Int32) (hb hby at_151) rfl ?_
          refine Own.istore X286 hx #[.val (.int p0), .val (.int p1), .val (.int p2), .val (.int (p0 &&& (3 : Int32))), .val (.ref b2), .val (.ref b10), .val (.ref b18), .val (.ref b22), .val (.ref b32), .val (.ref b42), .val (.ref b195), .val (.ref b271), .val (.ref b282), .val (.int (0 : Int32)), .unset] (hb hby at_152) rfl ?_
          refine Own.goto X286 hx 207 (hb hby at_154) (by decide) (by decide) ?_
          refine Own.aload X286 hx (hb hby at_207) rfl rfl ?_
          exact k)
        obtain ⟨T290, X290, e290, st290⟩ := Own.callVP (Ls := #[.val (.int p0), .val (.int p1), .val (.int p2), .val (.int (p0 &&& (3 : Int32))), .val (.ref b2), .val (.ref b10), .val (.ref b18), .val (.ref b22), .val (.ref b32), .val (.ref b42), .val (.ref b195), .val (.ref b271), .val (.ref b282), .val (.int (0 : Int32)), .unset]) X286 hx D286.hZ e286 b282 [] [] (cNSN l Z a0 hw b282  h286 F286) D286.hown E286 (hw _ (List.mem_of_getElem? (i := 64) rfl)) (hw _ (List.mem_of_getElem? (i := 65) rfl)) (hw _ (List.mem_of_getElem? (i := 67) rfl)) (hw _ (List.mem_of_getElem? (i := 66) rfl)) (hw _ (List.mem_of_getElem? (i := 32) rfl)) (hw _ (List.mem_of_getElem? (i := 68) rfl)) (by decide) 0 rfl rfl (by decide) (by decide) (by decide) (by decide) (by rw [hml]; rfl) (lenOf pd_6 rfl) rfl (Nat.le_of_eq rfl) (hb hby at_209)
        have K291 : ∀ t, Steps p.tables e below (T290.setTop (mkF m 212 #[.val (.int p0), .val (.int p1), .val (.int p2), .val (.int (p0 &&& (3 : Int32))), .val (.ref b2), .val (.ref b10), .val (.ref b18), .val (.ref b22), .val (.ref b32), .val (.ref b42), .val (.ref b195), .val (.ref b271), .val (.ref b282), .val (.int (0 : Int32)), .unset] [(.int (0 : Int32))])) t → Steps p.tables e below B0 t := fun t k => K289 t (st290 t k)
        have K292 : ∀ t, Steps p.tables e below (T290.setTop (mkF m 218 #[.val (.int p0), .val (.int p1), .val (.int p2), .val (.int (p0 &&& (3 : Int32))), .val (.ref b2), .val (.ref b10), .val (.ref b18), .val (.ref b22), .val (.ref b32), .val (.ref b42), .val (.ref b195), .val (.ref b271), .val (.ref b282), .val (.int (0 : Int32)), .val (.int (0 : Int32))] [(.int (0 : Int32)), (.int (0 : Int32))])) t → Steps p.tables e below B0 t := fun t k => K291 t (by
          refine Own.istore X290 hx #[.val (.int p0), .val (.int p1), .val (.int p2), .val (.int (p0 &&& (3 : Int32))), .val (.ref b2), .val (.ref b10), .val (.ref b18), .val (.ref b22), .val (.ref b32), .val (.ref b42), .val (.ref b195), .val (.ref b271), .val (.ref b282), .val (.int (0 : Int32)), .val (.int (0 : Int32))] (hb hby at_212) rfl ?_
          refine Own.iload X290 hx (hb hby at_214) rfl ?_
          refine Own.iload X290 hx (hb hby at_216) rfl ?_
          exact k)
        have K293 : ∀ t, Steps p.tables e below (T290.setTop (mkF m 225 #[.val (.int p0), .val (.int p1), .val (.int p2), .val (.int (p0 &&& (3 : Int32))), .val (.ref b2), .val (.ref b10), .val (.ref b18), .val (.ref b22), .val (.ref b32), .val (.ref b42), .val (.ref b195), .val (.ref b271), .val (.ref b282), .val (.int (0 : Int32)), .val (.int (0 : Int32))] [(.ref b282), (.int (0 : Int32))])) t → Steps p.tables e below B0 t := fun t k => K292 t (by
          refine Own.icmpNo X290 hx (hb hby at_218) (teq (by decide : (0 : Int32) = (0 : Int32))).2 ?_
          refine Own.iload X290 hx (hb hby at_221) rfl ?_
          refine Own.aload X290 hx (hb hby at_223) rfl rfl ?_
          exact k)
        obtain ⟨T294, X294, e294, st294⟩ := Own.callVP (Ls := #[.val (.int p0), .val (.int p1), .val (.int p2), .val (.int (p0 &&& (3 : Int32))), .val (.ref b2), .val (.ref b10), .val (.ref b18), .val (.ref b22), .val (.ref b32), .val (.ref b42), .val (.ref b195), .val (.ref b271), .val (.ref b282), .val (.int (0 : Int32)), .val (.int (0 : Int32))]) X290 hx D286.hZ e290 b282 [] [(.int (0 : Int32))] (cHSN l Z a0 hw b282  h286 G286) D286.hown E286 (hw _ (List.mem_of_getElem? (i := 69) rfl)) (hw _ (List.mem_of_getElem? (i := 70) rfl)) (hw _ (List.mem_of_getElem? (i := 72) rfl)) (hw _ (List.mem_of_getElem? (i := 71) rfl)) (hw _ (List.mem_of_getElem? (i := 32) rfl)) (hw _ (List.mem_of_getElem? (i := 73) rfl)) (by decide) 1 rfl rfl (by decide) (by decide) (by decide) (by decide) (by rw [hml]; rfl) (lenOf pd_7 rfl) rfl (Nat.le_of_eq rfl) (hb hby at_225)
        have K295 : ∀ t, Steps p.tables e below (T294.setTop (mkF m 228 #[.val (.int p0), .val (.int p1), .val (.int p2), .val (.int (p0 &&& (3 : Int32))), .val (.ref b2), .val (.ref b10), .val (.ref b18), .val (.ref b22), .val (.ref b32), .val (.ref b42), .val (.ref b195), .val (.ref b271), .val (.ref b282), .val (.int (0 : Int32)), .val (.int (0 : Int32))] [.null, (.int (0 : Int32))])) t → Steps p.tables e below B0 t := fun t k => K293 t (st294 t k)
        have K296 : ∀ t, Steps p.tables e below (T294.setTop (mkF m 236 #[.val (.int p0), .val (.int p1), .val (.int p2), .val (.int (p0 &&& (3 : Int32))), .val (.ref b2), .val (.ref b10), .val (.ref b18), .val (.ref b22), .val (.ref b32), .val (.ref b42), .val (.ref b195), .val (.ref b271), .val (.ref b282), .val (.int (0 : Int32)), .val (.int (0 : Int32))] [(.int (0 : Int32)), (.int (0 : Int32))])) t → Steps p.tables e below B0 t := fun t k => K295 t (by
          refine Own.ifnullYes X294 hx 235 (hb hby at_228) (by decide) (by decide) ?_
          refine Own.iconst X294 hx (0 : Int32) (hb hby at_235) rfl ?_
          exact k)
        have K297 : ∀ t, Steps p.tables e below (T294.setTop (mkF m 244 #[.val (.int p0), .val (.int p1), .val (.int p2), .val (.int (p0 &&& (3 : Int32))), .val (.ref b2), .val (.ref b10), .val (.ref b18), .val (.ref b22), .val (.ref b32), .val (.ref b42), .val (.ref b195), .val (.ref b271), .val (.ref b282), .val (.int (0 : Int32)), .val (.int (0 : Int32))] [(.int (1 : Int32))])) t → Steps p.tables e below B0 t := fun t k => K296 t (by
          refine Own.icmpNo X294 hx (hb hby at_236) (teq (by decide : (0 : Int32) = (0 : Int32))).2 ?_
          refine Own.iconst X294 hx (1 : Int32) (hb hby at_239) rfl ?_
          refine Own.goto X294 hx 244 (hb hby at_240) (by decide) (by decide) ?_
          exact k)
        exact Own.finHN X294 hx (own_hEL hw) e294 D286 (BodyLoose.notSynchronized Bd) Bd.returns (by simp) (hb hby at_244) K297 (by decide) (by decide) ⟨rfl, hn0 ▸ N286⟩
      · have K298 : ∀ t, Steps p.tables e below (T276.setTop (mkF m 159 #[.val (.int p0), .val (.int p1), .val (.int p2), .val (.int (p0 &&& (3 : Int32))), .val (.ref b2), .val (.ref b10), .val (.ref b18), .val (.ref b22), .val (.ref b32), .val (.ref b42), .val (.ref b195), .val (.ref b271), .unset, .unset, .unset] [(.int (1 : Int32)), (.int (p0 &&& (3 : Int32)))])) t → Steps p.tables e below B0 t := fun t k => K279 t (by
          refine Own.ifYes X276 hx 157 (hb hby at_133) ((if0 _ _).trans (feq hc280).2) (by decide) (by decide) ?_
          refine Own.iloadN X276 hx (hb hby at_157) rfl ?_
          refine Own.iconst X276 hx (1 : Int32) (hb hby at_158) rfl ?_
          exact k)
        by_cases hc299 : (p0 &&& (3 : Int32)) = (1 : Int32)
        · have K300 : ∀ t, Steps p.tables e below (T276.setTop (mkF m 162 #[.val (.int p0), .val (.int p1), .val (.int p2), .val (.int (p0 &&& (3 : Int32))), .val (.ref b2), .val (.ref b10), .val (.ref b18), .val (.ref b22), .val (.ref b32), .val (.ref b42), .val (.ref b195), .val (.ref b271), .unset, .unset, .unset] [])) t → Steps p.tables e below B0 t := fun t k => K298 t (by
            refine Own.icmpNo X276 hx (hb hby at_159) (teq hc299).2 ?_
            exact k)
          obtain ⟨T301, h301, b301, X301, e301, E301, g301, A301, D301, st301⟩ := Own.newO (Ls := #[.val (.int p0), .val (.int p1), .val (.int p2), .val (.int (p0 &&& (3 : Int32))), .val (.ref b2), .val (.ref b10), .val (.ref b18), .val (.ref b22), .val (.ref b32), .val (.ref b42), .val (.ref b195), .val (.ref b271), .unset, .unset, .unset]) (S := []) X276 hx D276.hZ e276 D276.hown (hw _ (List.mem_of_getElem? (i := 30) rfl)) (hw _ (List.mem_of_getElem? (i := 31) rfl)) (hw _ (List.mem_of_getElem? (i := 32) rfl)) (hb hby at_162) (by decide) (by decide)
          have le_b301 : h276.size ≤ b301 := Nat.le_of_eq g301.symm
          have X301 : Stand p l e room_1 (s.setVm vm276) m #[(.int p0), (.int p1), (.int p2)] below meth c T301 L276 20 46 := X301
          have m302 : h276.size ≤ h301.size := E301.1
          have D302 := D276.ext E301
          have F301_site : Fld Z h301 b301 "com/example/cyclewarden/cyclewarden/core/Wait" "site" "Ljava/lang/String;" .null := D301 (Or.inr (hw _ (List.mem_of_getElem? (i := 55) rfl))) (ty := (.object "java/lang/String")) (by decide)
          have F301_waiter : Fld Z h301 b301 "com/example/cyclewarden/cyclewarden/core/Wait" "waiter" "Ljava/lang/String;" .null := D301 (Or.inr (hw _ (List.mem_of_getElem? (i := 57) rfl))) (ty := (.object "java/lang/String")) (by decide)
          have F301_holder : Fld Z h301 b301 "com/example/cyclewarden/cyclewarden/core/Wait" "holder" "Ljava/lang/String;" .null := D301 (Or.inr (hw _ (List.mem_of_getElem? (i := 59) rfl))) (ty := (.object "java/lang/String")) (by decide)
          have F301_waiterSession : Fld Z h301 b301 "com/example/cyclewarden/cyclewarden/core/Wait" "waiterSession" "Ljava/lang/String;" .null := D301 (Or.inr (hw _ (List.mem_of_getElem? (i := 61) rfl))) (ty := (.object "java/lang/String")) (by decide)
          have F301_holderSession : Fld Z h301 b301 "com/example/cyclewarden/cyclewarden/core/Wait" "holderSession" "Ljava/lang/String;" .null := D301 (Or.inr (hw _ (List.mem_of_getElem? (i := 63) rfl))) (ty := (.object "java/lang/String")) (by decide)
          have K303 : ∀ t, Steps p.tables e below (T301.setTop (mkF m 165 #[.val (.int p0), .val (.int p1), .val (.int p2), .val (.int (p0 &&& (3 : Int32))), .val (.ref b2), .val (.ref b10), .val (.ref b18), .val (.ref b22), .val (.ref b32), .val (.ref b42), .val (.ref b195), .val (.ref b271), .unset, .unset, .unset] [(.ref b301)])) t → Steps p.tables e below B0 t := fun t k => K300 t (st301 t k)
          have K304 : ∀ t, Steps p.tables e below (T301.setTop (mkF m 174 #[.val (.int p0), .val (.int p1), .val (.int p2), .val (.int (p0 &&& (3 : Int32))), .val (.ref b2), .val (.ref b10), .val (.ref b18), .val (.ref b22), .val (.ref b32), .val (.ref b42), .val (.ref b195), .val (.ref b271), .unset, .unset, .unset] [.null, .null, (.ref b42), (.ref b32), (.ref b22), (.ref b301), (.ref b301)])) t → Steps p.tables e below B0 t := fun t k => K303 t (by
            refine Own.dup X301 hx (hb hby at_165) rfl ?_
            refine Own.aload X301 hx (hb hby at_166) rfl rfl ?_
            refine Own.aload X301 hx (hb hby at_168) rfl rfl ?_
            refine Own.aload X301 hx (hb hby at_170) rfl rfl ?_
            refine Own.aconstNull X301 hx (hb hby at_172) ?_
            refine Own.aconstNull X301 hx (hb hby at_173) ?_
            exact k)
          obtain ⟨vm305, T305, h305, v305, J305, L305, X305, e305, D305, mm305, n305, hQ305, st305⟩ := Own.callIW (Ls := #[.val (.int p0), .val (.int p1), .val (.int p2), .val (.int (p0 &&& (3 : Int32))), .val (.ref b2), .val (.ref b10), .val (.ref b18), .val (.ref b22), .val (.ref b32), .val (.ref b42), .val (.ref b195), .val (.ref b271), .unset, .unset, .unset]) X301 hx (own_hEL hw) D302 e301 rfl b301 [(.ref b22), (.ref b32), (.ref b42), .null, .null] [(.ref b301)] (cWN l Z a0 hw b301 b22 b32 b42 n0 h301 (Nat.le_trans Z0 (Nat.le_trans (Nat.le_trans (Nat.le_trans (Nat.le_trans (Nat.le_trans (Nat.le_trans (Nat.le_trans (Nat.le_trans (Nat.le_trans (Nat.le_trans (Nat.le_trans (Nat.le_trans (Nat.le_trans (Nat.le_trans (Nat.le_trans m3 m7) m11) m15) m19) m23) m29) m33) m39) m43) m49) m196) m201) m272) m277) m302)) A301 (Nat.le_trans Z0 (Nat.le_trans (Nat.le_trans (Nat.le_trans (Nat.le_trans (Nat.le_trans (Nat.le_trans (Nat.le_trans (Nat.le_trans (Nat.le_trans (Nat.le_trans (Nat.le_trans (Nat.le_trans (Nat.le_trans (Nat.le_trans (Nat.le_trans m3 m7) m11) m15) m19) m23) m29) m33) m39) m43) m49) m196) m201) m272) m277) le_b301)) F301_site F301_waiter F301_holder F301_waiterSession F301_holderSession) (hw _ (List.mem_of_getElem? (i := 74) rfl)) (hw _ (List.mem_of_getElem? (i := 37) rfl)) (hw _ (List.mem_of_getElem? (i := 32) rfl)) (hw _ (List.mem_of_getElem? (i := 38) rfl)) (by decide) 1 (by decide) (by decide) (by decide) (by decide) (by rw [hml]; rfl) (lenOf pd_3 rfl) rfl (Nat.le_of_eq rfl) (hb hby at_174)
          have X305 : Stand p l e room_1 (s.setVm vm305) m #[(.int p0), (.int p1), (.int p2)] below meth c T305 L305 26 122 := X305
          obtain ⟨rfl, NN305, K305, E305, F305, G305⟩ := hQ305
          have N305 : Fr n0 L305 := n305 n0 N276 NN305
          have m306 : h301.size ≤ h305.size := K305.1
          have K307 : ∀ t, Steps p.tables e below (T305.setTop (mkF m 177 #[.val (.int p0), .val (.int p1), .val (.int p2), .val (.int (p0 &&& (3 : Int32))), .val (.ref b2), .val (.ref b10), .val (.ref b18), .val (.ref b22), .val (.ref b32), .val (.ref b42), .val (.ref b195), .val (.ref b271), .unset, .unset, .unset] [(.ref b301)])) t → Steps p.tables e below B0 t := fun t k => K304 t (st305 t k)
          have K308 : ∀ t, Steps p.tables e below (T305.setTop (mkF m 209 #[.val (.int p0), .val (.int p1), .val (.int p2), .val (.int (p0 &&& (3 : Int32))), .val (.ref b2), .val (.ref b10), .val (.ref b18), .val (.ref b22), .val (.ref b32), .val (.ref b42), .val (.ref b195), .val (.ref b271), .val (.ref b301), .val (.int (0 : Int32)), .unset] [(.ref b301)])) t → Steps p.tables e below B0 t := fun t k => K307 t (by
            refine Own.astore X305 hx #[.val (.int p0), .val (.int p1), .val (.int p2), .val (.int (p0 &&& (3 : Int32))), .val (.ref b2), .val (.ref b10), .val (.ref b18), .val (.ref b22), .val (.ref b32), .val (.ref b42), .val (.ref b195), .val (.ref b271), .val (.ref b301), .unset, .unset] (hb hby at_177) rfl rfl ?_
            refine Own.iconst X305 hx (0 : Int32) (hb hby at_179) rfl ?_
            refine Own.istore X305 hx #[.val (.int p0), .val (.int p1), .val (.int p2), .val (.int (p0 &&& (3 : Int32))), .val (.ref b2), .val (.ref b10), .val (.ref b18), .val (.ref b22), .val (.ref b32), .val (.ref b42), .val (.ref b195), .val (.ref b271), .val (.ref b301), .val (.int (0 : Int32)), .unset] (hb hby at_180) rfl ?_
            refine Own.goto X305 hx 207 (hb hby at_182) (by decide) (by decide) ?_
            refine Own.aload X305 hx (hb hby at_207) rfl rfl ?_
            exact k)
          obtain ⟨T309, X309, e309, st309⟩ := Own.callVP (Ls := #[.val (.int p0), .val (.int p1), .val (.int p2), .val (.int (p0 &&& (3 : Int32))), .val (.ref b2), .val (.ref b10), .val (.ref b18), .val (.ref b22), .val (.ref b32), .val (.ref b42), .val (.ref b195), .val (.ref b271), .val (.ref b301), .val (.int (0 : Int32)), .unset]) X305 hx D305.hZ e305 b301 [] [] (cNSN l Z a0 hw b301  h305 F305) D305.hown E305 (hw _ (List.mem_of_getElem? (i := 64) rfl)) (hw _ (List.mem_of_getElem? (i := 65) rfl)) (hw _ (List.mem_of_getElem? (i := 67) rfl)) (hw _ (List.mem_of_getElem? (i := 66) rfl)) (hw _ (List.mem_of_getElem? (i := 32) rfl)) (hw _ (List.mem_of_getElem? (i := 68) rfl)) (by decide) 0 rfl rfl (by decide) (by decide) (by decide) (by decide) (by rw [hml]; rfl) (lenOf pd_6 rfl) rfl (Nat.le_of_eq rfl) (hb hby at_209)
          have K310 : ∀ t, Steps p.tables e below (T309.setTop (mkF m 212 #[.val (.int p0), .val (.int p1), .val (.int p2), .val (.int (p0 &&& (3 : Int32))), .val (.ref b2), .val (.ref b10), .val (.ref b18), .val (.ref b22), .val (.ref b32), .val (.ref b42), .val (.ref b195), .val (.ref b271), .val (.ref b301), .val (.int (0 : Int32)), .unset] [(.int (0 : Int32))])) t → Steps p.tables e below B0 t := fun t k => K308 t (st309 t k)
          have K311 : ∀ t, Steps p.tables e below (T309.setTop (mkF m 218 #[.val (.int p0), .val (.int p1), .val (.int p2), .val (.int (p0 &&& (3 : Int32))), .val (.ref b2), .val (.ref b10), .val (.ref b18), .val (.ref b22), .val (.ref b32), .val (.ref b42), .val (.ref b195), .val (.ref b271), .val (.ref b301), .val (.int (0 : Int32)), .val (.int (0 : Int32))] [(.int (0 : Int32)), (.int (0 : Int32))])) t → Steps p.tables e below B0 t := fun t k => K310 t (by
            refine Own.istore X309 hx #[.val (.int p0), .val (.int p1), .val (.int p2), .val (.int (p0 &&& (3 : Int32))), .val (.ref b2), .val (.ref b10), .val (.ref b18), .val (.ref b22), .val (.ref b32), .val (.ref b42), .val (.ref b195), .val (.ref b271), .val (.ref b301), .val (.int (0 : Int32)), .val (.int (0 : Int32))] (hb hby at_212) rfl ?_
            refine Own.iload X309 hx (hb hby at_214) rfl ?_
            refine Own.iload X309 hx (hb hby at_216) rfl ?_
            exact k)
          have K312 : ∀ t, Steps p.tables e below (T309.setTop (mkF m 225 #[.val (.int p0), .val (.int p1), .val (.int p2), .val (.int (p0 &&& (3 : Int32))), .val (.ref b2), .val (.ref b10), .val (.ref b18), .val (.ref b22), .val (.ref b32), .val (.ref b42), .val (.ref b195), .val (.ref b271), .val (.ref b301), .val (.int (0 : Int32)), .val (.int (0 : Int32))] [(.ref b301), (.int (0 : Int32))])) t → Steps p.tables e below B0 t := fun t k => K311 t (by
            refine Own.icmpNo X309 hx (hb hby at_218) (teq (by decide : (0 : Int32) = (0 : Int32))).2 ?_
            refine Own.iload X309 hx (hb hby at_221) rfl ?_
            refine Own.aload X309 hx (hb hby at_223) rfl rfl ?_
            exact k)
          obtain ⟨T313, X313, e313, st313⟩ := Own.callVP (Ls := #[.val (.int p0), .val (.int p1), .val (.int p2), .val (.int (p0 &&& (3 : Int32))), .val (.ref b2), .val (.ref b10), .val (.ref b18), .val (.ref b22), .val (.ref b32), .val (.ref b42), .val (.ref b195), .val (.ref b271), .val (.ref b301), .val (.int (0 : Int32)), .val (.int (0 : Int32))]) X309 hx D305.hZ e309 b301 [] [(.int (0 : Int32))] (cHSN l Z a0 hw b301  h305 G305) D305.hown E305 (hw _ (List.mem_of_getElem? (i := 69) rfl)) (hw _ (List.mem_of_getElem? (i := 70) rfl)) (hw _ (List.mem_of_getElem? (i := 72) rfl)) (hw _ (List.mem_of_getElem? (i := 71) rfl)) (hw _ (List.mem_of_getElem? (i := 32) rfl)) (hw _ (List.mem_of_getElem? (i := 73) rfl)) (by decide) 1 rfl rfl (by decide) (by decide) (by decide) (by decide) (by rw [hml]; rfl) (lenOf pd_7 rfl) rfl (Nat.le_of_eq rfl) (hb hby at_225)
          have K314 : ∀ t, Steps p.tables e below (T313.setTop (mkF m 228 #[.val (.int p0), .val (.int p1), .val (.int p2), .val (.int (p0 &&& (3 : Int32))), .val (.ref b2), .val (.ref b10), .val (.ref b18), .val (.ref b22), .val (.ref b32), .val (.ref b42), .val (.ref b195), .val (.ref b271), .val (.ref b301), .val (.int (0 : Int32)), .val (.int (0 : Int32))] [.null, (.int (0 : Int32))])) t → Steps p.tables e below B0 t := fun t k => K312 t (st313 t k)
          have K315 : ∀ t, Steps p.tables e below (T313.setTop (mkF m 236 #[.val (.int p0), .val (.int p1), .val (.int p2), .val (.int (p0 &&& (3 : Int32))), .val (.ref b2), .val (.ref b10), .val (.ref b18), .val (.ref b22), .val (.ref b32), .val (.ref b42), .val (.ref b195), .val (.ref b271), .val (.ref b301), .val (.int (0 : Int32)), .val (.int (0 : Int32))] [(.int (0 : Int32)), (.int (0 : Int32))])) t → Steps p.tables e below B0 t := fun t k => K314 t (by
            refine Own.ifnullYes X313 hx 235 (hb hby at_228) (by decide) (by decide) ?_
            refine Own.iconst X313 hx (0 : Int32) (hb hby at_235) rfl ?_
            exact k)
          have K316 : ∀ t, Steps p.tables e below (T313.setTop (mkF m 244 #[.val (.int p0), .val (.int p1), .val (.int p2), .val (.int (p0 &&& (3 : Int32))), .val (.ref b2), .val (.ref b10), .val (.ref b18), .val (.ref b22), .val (.ref b32), .val (.ref b42), .val (.ref b195), .val (.ref b271), .val (.ref b301), .val (.int (0 : Int32)), .val (.int (0 : Int32))] [(.int (1 : Int32))])) t → Steps p.tables e below B0 t := fun t k => K315 t (by
            refine Own.icmpNo X313 hx (hb hby at_236) (teq (by decide : (0 : Int32) = (0 : Int32))).2 ?_
            refine Own.iconst X313 hx (1 : Int32) (hb hby at_239) rfl ?_
            refine Own.goto X313 hx 244 (hb hby at_240) (by decide) (by decide) ?_
            exact k)
          exact Own.finHN X313 hx (own_hEL hw) e313 D305 (BodyLoose.notSynchronized Bd) Bd.returns (by simp) (hb hby at_244) K316 (by decide) (by decide) ⟨rfl, hn0 ▸ N305⟩
        · have K317 : ∀ t, Steps p.tables e below (T276.setTop (mkF m 185 #[.val (.int p0), .val (.int p1), .val (.int p2), .val (.int (p0 &&& (3 : Int32))), .val (.ref b2), .val (.ref b10), .val (.ref b18), .val (.ref b22), .val (.ref b32), .val (.ref b42), .val (.ref b195), .val (.ref b271), .unset, .unset, .unset] [])) t → Steps p.tables e below B0 t := fun t k => K298 t (by
            refine Own.icmpYes X276 hx 185 (hb hby at_159) (feq hc299).2 (by decide) (by decide) ?_
            exact k)
          obtain ⟨T318, h318, b318, X318, e318, E318, g318, A318, D318, st318⟩ := Own.newO (Ls := #[.val (.int p0), .val (.int p1), .val (.int p2), .val (.int (p0 &&& (3 : Int32))), .val (.ref b2), .val (.ref b10), .val (.ref b18), .val (.ref b22), .val (.ref b32), .val (.ref b42), .val (.ref b195), .val (.ref b271), .unset, .unset, .unset]) (S := []) X276 hx D276.hZ e276 D276.hown (hw _ (List.mem_of_getElem? (i := 30) rfl)) (hw _ (List.mem_of_getElem? (i := 31) rfl)) (hw _ (List.mem_of_getElem? (i := 32) rfl)) (hb hby at_185) (by decide) (by decide)
          have le_b318 : h276.size ≤ b318 := Nat.le_of_eq g318.symm
          have X318 : Stand p l e room_1 (s.setVm vm276) m #[(.int p0), (.int p1), (.int p2)] below meth c T318 L276 20 46 := X318
          have m319 : h276.size ≤ h318.size := E318.1
          have D319 := D276.ext E318
          have F318_site : Fld Z h318 b318 "com/example/cyclewarden/cyclewarden/core/Wait" "site" "Ljava/lang/String;" .null := D318 (Or.inr (hw _ (List.mem_of_getElem? (i := 55) rfl))) (ty := (.object "java/lang/String")) (by decide)
          have F318_waiter : Fld Z h318 b318 "com/example/cyclewarden/cyclewarden/core/Wait" "waiter" "Ljava/lang/String;" .null := D318 (Or.inr (hw _ (List.mem_of_getElem? (i := 57) rfl))) (ty := (.object "java/lang/String")) (by decide)
          have F318_holder : Fld Z h318 b318 "com/example/cyclewarden/cyclewarden/core/Wait" "holder" "Ljava/lang/String;" .null := D318 (Or.inr (hw _ (List.mem_of_getElem? (i := 59) rfl))) (ty := (.object "java/lang/String")) (by decide)
          have F318_waiterSession : Fld Z h318 b318 "com/example/cyclewarden/cyclewarden/core/Wait" "waiterSession" "Ljava/lang/String;" .null := D318 (Or.inr (hw _ (List.mem_of_getElem? (i := 61) rfl))) (ty := (.object "java/lang/String")) (by decide)
          have F318_holderSession : Fld Z h318 b318 "com/example/cyclewarden/cyclewarden/core/Wait" "holderSession" "Ljava/lang/String;" .null := D318 (Or.inr (hw _ (List.mem_of_getElem? (i := 63) rfl))) (ty := (.object "java/lang/String")) (by decide)
          have K320 : ∀ t, Steps p.tables e below (T318.setTop (mkF m 188 #[.val (.int p0), .val (.int p1), .val (.int p2), .val (.int (p0 &&& (3 : Int32))), .val (.ref b2), .val (.ref b10), .val (.ref b18), .val (.ref b22), .val (.ref b32), .val (.ref b42), .val (.ref b195), .val (.ref b271), .unset, .unset, .unset] [(.ref b318)])) t → Steps p.tables e below B0 t := fun t k => K317 t (st318 t k)
          have K321 : ∀ t, Steps p.tables e below (T318.setTop (mkF m 199 #[.val (.int p0), .val (.int p1), .val (.int p2), .val (.int (p0 &&& (3 : Int32))), .val (.ref b2), .val (.ref b10), .val (.ref b18), .val (.ref b22), .val (.ref b32), .val (.ref b42), .val (.ref b195), .val (.ref b271), .unset, .unset, .unset] [(.ref b271), (.ref b195), (.ref b42), (.ref b32), (.ref b22), (.ref b318), (.ref b318)])) t → Steps p.tables e below B0 t := fun t k => K320 t (by
            refine Own.dup X318 hx (hb hby at_188) rfl ?_
            refine Own.aload X318 hx (hb hby at_189) rfl rfl ?_
            refine Own.aload X318 hx (hb hby at_191) rfl rfl ?_
            refine Own.aload X318 hx (hb hby at_193) rfl rfl ?_
            refine Own.aload X318 hx (hb hby at_195) rfl rfl ?_
            refine Own.aload X318 hx (hb hby at_197) rfl rfl ?_
            exact k)
          obtain ⟨vm322, T322, h322, v322, J322, L322, X322, e322, D322, mm322, n322, hQ322, st322⟩ := Own.callIW (Ls := #[.val (.int p0), .val (.int p1), .val (.int p2), .val (.int (p0 &&& (3 : Int32))), .val (.ref b2), .val (.ref b10), .val (.ref b18), .val (.ref b22), .val (.ref b32), .val (.ref b42), .val (.ref b195), .val (.ref b271), .unset, .unset, .unset]) X318 hx (own_hEL hw) D319 e318 rfl b318 [(.ref b22), (.ref b32), (.ref b42), (.ref b195), (.ref b271)] [(.ref b318)] (cWR l Z a0 hw b318 b22 b32 b42 b195 b271 n0 h318 (Nat.le_trans Z0 (Nat.le_trans (Nat.le_trans (Nat.le_trans (Nat.le_trans (Nat.le_trans (Nat.le_trans (Nat.le_trans (Nat.le_trans (Nat.le_trans (Nat.le_trans (Nat.le_trans (Nat.le_trans (Nat.le_trans (Nat.le_trans (Nat.le_trans m3 m7) m11) m15) m19) m23) m29) m33) m39) m43) m49) m196) m201) m272) m277) m319)) A318 (Nat.le_trans Z0 (Nat.le_trans (Nat.le_trans (Nat.le_trans (Nat.le_trans (Nat.le_trans (Nat.le_trans (Nat.le_trans (Nat.le_trans (Nat.le_trans (Nat.le_trans (Nat.le_trans (Nat.le_trans (Nat.le_trans (Nat.le_trans (Nat.le_trans m3 m7) m11) m15) m19) m23) m29) m33) m39) m43) m49) m196) m201) m272) m277) le_b318)) F318_site F318_waiter F318_holder F318_waiterSession F318_holderSession) (hw _ (List.mem_of_getElem? (i := 74) rfl)) (hw _ (List.mem_of_getElem? (i := 37) rfl)) (hw _ (List.mem_of_getElem? (i := 32) rfl)) (hw _ (List.mem_of_getElem? (i := 38) rfl)) (by decide) 1 (by decide) (by decide) (by decide) (by decide) (by rw [hml]; rfl) (lenOf pd_3 rfl) rfl (Nat.le_of_eq rfl) (hb hby at_199)
          have X322 : Stand p l e room_1 (s.setVm vm322) m #[(.int p0), (.int p1), (.int p2)] below meth c T322 L322 26 122 := X322
          obtain ⟨rfl, NN322, K322, E322, F322, G322⟩ := hQ322
          have N322 : Fr n0 L322 := n322 n0 N276 NN322
          have m323 : h318.size ≤ h322.size := K322.1
          have K324 : ∀ t, Steps p.tables e below (T322.setTop (mkF m 202 #[.val (.int p0), .val (.int p1), .val (.int p2), .val (.int (p0 &&& (3 : Int32))), .val (.ref b2), .val (.ref b10), .val (.ref b18), .val (.ref b22), .val (.ref b32), .val (.ref b42), .val (.ref b195), .val (.ref b271), .unset, .unset, .unset] [(.ref b318)])) t → Steps p.tables e below B0 t := fun t k => K321 t (st322 t k)
          have K325 : ∀ t, Steps p.tables e below (T322.setTop (mkF m 209 #[.val (.int p0), .val (.int p1), .val (.int p2), .val (.int (p0 &&& (3 : Int32))), .val (.ref b2), .val (.ref b10), .val (.ref b18), .val (.ref b22), .val (.ref b32), .val (.ref b42), .val (.ref b195), .val (.ref b271), .val (.ref b318), .val (.int (1 : Int32)), .unset] [(.ref b318)])) t → Steps p.tables e below B0 t := fun t k => K324 t (by
            refine Own.astore X322 hx #[.val (.int p0), .val (.int p1), .val (.int p2), .val (.int (p0 &&& (3 : Int32))), .val (.ref b2), .val (.ref b10), .val (.ref b18), .val (.ref b22), .val (.ref b32), .val (.ref b42), .val (.ref b195), .val (.ref b271), .val (.ref b318), .unset, .unset] (hb hby at_202) rfl rfl ?_
            refine Own.iconst X322 hx (1 : Int32) (hb hby at_204) rfl ?_
            refine Own.istore X322 hx #[.val (.int p0), .val (.int p1), .val (.int p2), .val (.int (p0 &&& (3 : Int32))), .val (.ref b2), .val (.ref b10), .val (.ref b18), .val (.ref b22), .val (.ref b32), .val (.ref b42), .val (.ref b195), .val (.ref b271), .val (.ref b318), .val (.int (1 : Int32)), .unset] (hb hby at_205) rfl ?_
            refine Own.aload X322 hx (hb hby at_207) rfl rfl ?_
            exact k)
          obtain ⟨T326, X326, e326, st326⟩ := Own.callVP (Ls := #[.val (.int p0), .val (.int p1), .val (.int p2), .val (.int (p0 &&& (3 : Int32))), .val (.ref b2), .val (.ref b10), .val (.ref b18), .val (.ref b22), .val (.ref b32), .val (.ref b42), .val (.ref b195), .val (.ref b271), .val (.ref b318), .val (.int (1 : Int32)), .unset]) X322 hx D322.hZ e322 b318 [] [] (cNSR l Z a0 hw b318 b195 h322 F322) D322.hown E322 (hw _ (List.mem_of_getElem? (i := 64) rfl)) (hw _ (List.mem_of_getElem? (i := 65) rfl)) (hw _ (List.mem_of_getElem? (i := 67) rfl)) (hw _ (List.mem_of_getElem? (i := 66) rfl)) (hw _ (List.mem_of_getElem? (i := 32) rfl)) (hw _ (List.mem_of_getElem? (i := 68) rfl)) (by decide) 0 rfl rfl (by decide) (by decide) (by decide) (by decide) (by rw [hml]; rfl) (lenOf pd_6 rfl) rfl (Nat.le_of_eq rfl) (hb hby at_209)
          have K327 : ∀ t, Steps p.tables e below (T326.setTop (mkF m 212 #[.val (.int p0), .val (.int p1), .val (.int p2), .val (.int (p0 &&& (3 : Int32))), .val (.ref b2), .val (.ref b10), .val (.ref b18), .val (.ref b22), .val (.ref b32), .val (.ref b42), .val (.ref b195), .val (.ref b271), .val (.ref b318), .val (.int (1 : Int32)), .unset] [(.int (1 : Int32))])) t → Steps p.tables e below B0 t := fun t k => K325 t (st326 t k)
          have K328 : ∀ t, Steps p.tables e below (T326.setTop (mkF m 218 #[.val (.int p0), .val (.int p1), .val (.int p2), .val (.int (p0 &&& (3 : Int32))), .val (.ref b2), .val (.ref b10), .val (.ref b18), .val (.ref b22), .val (.ref b32), .val (.ref b42), .val (.ref b195), .val (.ref b271), .val (.ref b318), .val (.int (1 : Int32)), .val (.int (1 : Int32))] [(.int (1 : Int32)), (.int (1 : Int32))])) t → Steps p.tables e below B0 t := fun t k => K327 t (by
            refine Own.istore X326 hx #[.val (.int p0), .val (.int p1), .val (.int p2), .val (.int (p0 &&& (3 : Int32))), .val (.ref b2), .val (.ref b10), .val (.ref b18), .val (.ref b22), .val (.ref b32), .val (.ref b42), .val (.ref b195), .val (.ref b271), .val (.ref b318), .val (.int (1 : Int32)), .val (.int (1 : Int32))] (hb hby at_212) rfl ?_
            refine Own.iload X326 hx (hb hby at_214) rfl ?_
            refine Own.iload X326 hx (hb hby at_216) rfl ?_
            exact k)
          have K329 : ∀ t, Steps p.tables e below (T326.setTop (mkF m 225 #[.val (.int p0), .val (.int p1), .val (.int p2), .val (.int (p0 &&& (3 : Int32))), .val (.ref b2), .val (.ref b10), .val (.ref b18), .val (.ref b22), .val (.ref b32), .val (.ref b42), .val (.ref b195), .val (.ref b271), .val (.ref b318), .val (.int (1 : Int32)), .val (.int (1 : Int32))] [(.ref b318), (.int (1 : Int32))])) t → Steps p.tables e below B0 t := fun t k => K328 t (by
            refine Own.icmpNo X326 hx (hb hby at_218) (teq (by decide : (1 : Int32) = (1 : Int32))).2 ?_
            refine Own.iload X326 hx (hb hby at_221) rfl ?_
            refine Own.aload X326 hx (hb hby at_223) rfl rfl ?_
            exact k)
          obtain ⟨T330, X330, e330, st330⟩ := Own.callVP (Ls := #[.val (.int p0), .val (.int p1), .val (.int p2), .val (.int (p0 &&& (3 : Int32))), .val (.ref b2), .val (.ref b10), .val (.ref b18), .val (.ref b22), .val (.ref b32), .val (.ref b42), .val (.ref b195), .val (.ref b271), .val (.ref b318), .val (.int (1 : Int32)), .val (.int (1 : Int32))]) X326 hx D322.hZ e326 b318 [] [(.int (1 : Int32))] (cHSR l Z a0 hw b318 b271 h322 G322) D322.hown E322 (hw _ (List.mem_of_getElem? (i := 69) rfl)) (hw _ (List.mem_of_getElem? (i := 70) rfl)) (hw _ (List.mem_of_getElem? (i := 72) rfl)) (hw _ (List.mem_of_getElem? (i := 71) rfl)) (hw _ (List.mem_of_getElem? (i := 32) rfl)) (hw _ (List.mem_of_getElem? (i := 73) rfl)) (by decide) 1 rfl rfl (by decide) (by decide) (by decide) (by decide) (by rw [hml]; rfl) (lenOf pd_7 rfl) rfl (Nat.le_of_eq rfl) (hb hby at_225)
          have K331 : ∀ t, Steps p.tables e below (T330.setTop (mkF m 228 #[.val (.int p0), .val (.int p1), .val (.int p2), .val (.int (p0 &&& (3 : Int32))), .val (.ref b2), .val (.ref b10), .val (.ref b18), .val (.ref b22), .val (.ref b32), .val (.ref b42), .val (.ref b195), .val (.ref b271), .val (.ref b318), .val (.int (1 : Int32)), .val (.int (1 : Int32))] [(.ref b271), (.int (1 : Int32))])) t → Steps p.tables e below B0 t := fun t k => K329 t (st330 t k)
          have K332 : ∀ t, Steps p.tables e below (T330.setTop (mkF m 236 #[.val (.int p0), .val (.int p1), .val (.int p2), .val (.int (p0 &&& (3 : Int32))), .val (.ref b2), .val (.ref b10), .val (.ref b18), .val (.ref b22), .val (.ref b32), .val (.ref b42), .val (.ref b195), .val (.ref b271), .val (.ref b318), .val (.int (1 : Int32)), .val (.int (1 : Int32))] [(.int (1 : Int32)), (.int (1 : Int32))])) t → Steps p.tables e below B0 t := fun t k => K331 t (by
            refine Own.ifnullNo X330 hx (hb hby at_228) ?_
            refine Own.iconst X330 hx (1 : Int32) (hb hby at_231) rfl ?_
            refine Own.goto X330 hx 236 (hb hby at_232) (by decide) (by decide) ?_
            exact k)
          have K333 : ∀ t, Steps p.tables e below (T330.setTop (mkF m 244 #[.val (.int p0), .val (.int p1), .val (.int p2), .val (.int (p0 &&& (3 : Int32))), .val (.ref b2), .val (.ref b10), .val (.ref b18), .val (.ref b22), .val (.ref b32), .val (.ref b42), .val (.ref b195), .val (.ref b271), .val (.ref b318), .val (.int (1 : Int32)), .val (.int (1 : Int32))] [(.int (1 : Int32))])) t → Steps p.tables e below B0 t := fun t k => K332 t (by
            refine Own.icmpNo X330 hx (hb hby at_236) (teq (by decide : (1 : Int32) = (1 : Int32))).2 ?_
            refine Own.iconst X330 hx (1 : Int32) (hb hby at_239) rfl ?_
            refine Own.goto X330 hx 244 (hb hby at_240) (by decide) (by decide) ?_
            exact k)
          exact Own.finHN X330 hx (own_hEL hw) e330 D322 (BodyLoose.notSynchronized Bd) Bd.returns (by simp) (hb hby at_244) K333 (by decide) (by decide) ⟨rfl, hn0 ▸ N322⟩

set_option maxRecDepth 65536 in
set_option maxHeartbeats 40000000 in
theorem comes_1 {Post : Tables → Env → Array Value → State → Outcome → State → Prop} (hpost : ∀ tb e args s v u, (limb_1_1.after args s (.returned v) u = true ∧ limb_1_2.after args s (.returned v) u = true ∧ True) → ReturnedEndW s (.returned v) u (Jvm.fieldLocs frame_1_writes args s ++ Jvm.arrayLocs frame_1_arrays args s ++ Jvm.staticLocs frame_1_statics s) 48 4288 → Post tb e args s (.returned v) u) :
    ArmFor flags0 classFile x code maxLocals ret World_1 tables_1 room_1 Calls_1 rest_1 Pre_1 Post := by
  intro l hfl _ _ p e ha hc hk s m args below hf hA hF happ hP
  obtain ⟨hcalls, hrest, hpre⟩ := hP
  obtain ⟨-, -, -, hnamed, -, -, -, hat⟩ := (Spec.applies_iff hf).mp happ
  obtain ⟨hg, hn⟩ := and_e (Cond.before_iff.mp (show (Jvm.Cond.and given_1 narrow_1).before args s = true from hpre))
  obtain ⟨gA0, gB0⟩ := and_e hg
  obtain ⟨gA1, gB1⟩ := and_e gB0
  obtain ⟨gA2, gB2⟩ := and_e gB1
  obtain ⟨w0, w1, w2, rfl⟩ : ∃ w0 w1 w2 : Value, args = #[w0, w1, w2] := by
    have hs : args.size = 3 := by simpa [Cond.value, given_1] using gA0
    obtain ⟨L⟩ := args
    match L, hs with
    | [w0, w1, w2], _ => exact ⟨w0, w1, w2, rfl⟩
  have hw := fun d (hd : d ∈ tables_1) => atoms_spec (ws := Jvm.Cond.code x code maxLocals ret :: tables_1) hat d (List.mem_cons_of_mem _ hd)
  have hfit : Fit s := fun {y c} hc i hi => by
    obtain ⟨ha, rfl⟩ := Array.getElem?_eq_some_iff.mp hc
    have q := List.all_eq_true.mp ((Array.all_eq_true_iff_forall_mem.mp hF) _ (Array.getElem_mem ha)) i (List.mem_range.mpr hi)
    simpa [Array.getElem?_eq_getElem hi] using q
  obtain ⟨hsets, hown0⟩ := atoms_of _ (rest_1_c_eq ▸ (show rest_1_c.before _ s = true from hrest))
  obtain ⟨i0, ei0⟩ := is_v gA1
  obtain rfl : w0 = (.int i0) := Option.some.inj ei0
  obtain ⟨i1, ei1⟩ := is_v gA2
  obtain rfl : w1 = (.int i1) := Option.some.inj ei1
  obtain ⟨i2, ei2⟩ := is_v gB2
  obtain rfl : w2 = (.int i2) := Option.some.inj ei2
  obtain ⟨G1, eG1⟩ := is_v (Cond.before_iff.mp (hsets _ (List.mem_of_getElem? (i := 1) rfl)))
  have SC := Sta.start eG1 (Or.inl (hsets _ (List.mem_of_getElem? (i := 0) rfl)))
  have hG1 : ¬ G1 = 0 := gotF (Cond.eq_ints eG1 (Term.int_eval 0)) (not_v (Cond.before_iff.mp (hsets _ (List.mem_of_getElem? (i := 2) rfl))))
  have hH : CHv s own_EL s.vm s.heap := CHv.start (own_hEL hw) (fun p hp => hcalls.1 p ((by decide : ∀ p ∈ own_EL, p ∈ consts_1) p hp)) (show Jvm.Lit.compactW.before _ s = true from hsets _ (List.mem_of_getElem? (i := 2) rfl)) (hw _ (List.mem_of_getElem? (i := 19) rfl)) (hw _ (List.mem_of_getElem? (i := 2) rfl))
  obtain ⟨n, o, h1, h2, h3, _, L, rfl, ⟨rfl, N⟩, -, hq⟩ := c0 l s _ hw i0 i1 i2 G1 s.heap SC hG1 tables_1 p e ha hc hk s m _ below hf ((Spec.applies_iff_loose hf).mp happ).1 ⟨rfl, State.Warmed39.refl s, rfl, hH⟩ trivial
  refine ⟨n, _, h1, h2, h3, hpost _ _ _ _ _ _ ⟨Cond.after_iff.mpr rfl, Cond.after_iff.mpr (eq_i res_at (Term.int_eval (1)) rfl), trivial⟩ ⟨hq.1, hq.2.1, hq.2.2.1, (hq.2.2.2.sift fun y hy => Or.inr (N y hy)).mono (by decide) (by decide)⟩⟩
theorem main_1_1 : Claimed_1_1 := comes_1 fun _ _ _ _ _ _ h hF => ⟨h.1, hF⟩
theorem main_1_2 : Claimed_1_2 := comes_1 fun _ _ _ _ _ _ h hF => ⟨h.2.1, hF⟩

end Jvm.Pilot.@@N@@
namespace Jvm.Pilot.@@N@@
open Jvm Jvm.ClassFile Sem Op Lib Jvm.Free Jvm.Stand Jvm.Pilot.@@N@@.Jvm.D
/-! MADE BY PROGRAM (witnessworld.py) out of the Statement's table words and the real class files: 22 classes; the members and pool entries that the words name. The judged class is class 1, her method 1. -/
namespace start1
open Jvm.ClassFile
def u (s : String) : CpInfo := .utf8 (stringToUtf16 s)
/-- a pool by its gaps: so many unusable entries, then the entry; so many at the end -/
def gap : Nat → List CpInfo → List CpInfo
  | 0, r => r
  | n + 1, r => .unusable :: gap n r
def poolList (es : List (Nat × CpInfo)) (last : Nat) : List CpInfo := es.foldr (fun e r => gap e.1 (e.2 :: r)) (gap last [])
def pool (es : List (Nat × CpInfo)) (last : Nat) : Array CpInfo := ⟨poolList es last⟩
def fileOf (pool : Array CpInfo) (this : Nat) (attrs : Array Attribute := #[]) (ms : Array MethodInfo := #[]) (fl : Nat := 33) (sup : Nat := 0) (ifs : Array Nat := #[]) (fds : Array FieldInfo := #[]) : ClassFile where
  minorVersion := 0
  majorVersion := 65
  constantPool := pool
  accessFlags := fl
  thisClass := this
  superClass := sup
  interfaces := ifs
  fields := fds
  methods := ms
  attributes := attrs
def plain (name : String) (sup : Option ClassId) : Class where
  name := name
  kind := .ordinary
  loader := none
  accessFlags := 33
  super := sup
  interfaces := #[]
  cf := none
  fields := #[]
  methods := #[]
  instanceTypes := #[]
  staticTypes := #[]
  resolved := #[]
  callSites := []
  init := .initialized
  statics := none
  mirror := none

def pool0 : Array CpInfo := pool [(5, u "<init>"), (0, u "()V"), (1, .class_ 10), (1, u "java/lang/Object")] 113

def k0c0 : Code := { maxStack := 0, maxLocals := 1, code := object_method_1_code, exceptionTable := #[], attributes := #[] }
def k0m0 : Method := { name := "<init>", desc := "()V", sig := { parameters := [], returnType := none }, accessFlags := 1, code := some k0c0 }
/-- java/lang/Object -/
def k0 : Class := { plain "java/lang/Object" none with
  accessFlags := 33
  interfaces := #[]
  cf := some (fileOf pool0 8 #[] #[{ accessFlags := 1, nameIndex := 5, descriptorIndex := 6, attributes := #[] }] 33 0 #[] #[])
  fields := #[]
  methods := #[k0m0]
  instanceTypes := #[]
  staticTypes := #[]
  resolved := Array.replicate 124 none
  statics := none }

def pool1 : Array CpInfo := pool [(2, .class_ 4), (1, u "java/lang/Object"), (0, u "<init>"), (0, u "()V"), (0, .class_ 8), (0, u "java/lang/String"), (0, .methodref 7 10), (0, .nameAndType 5 11), (0, u "([C)V"), (0, .class_ 13), (0, u "com/example/cyclewarden/cyclewarden/core/Wait"), (0, .methodref 12 15), (0, .nameAndType 5 16), (0, u "(Ljava/lang/String;Ljava/lang/String;Ljava/lang/String;)V"), (0, .methodref 12 18), (0, .nameAndType 5 19), (0, u "(Ljava/lang/String;Ljava/lang/String;Ljava/lang/String;Ljava/lang/String;Ljava/lang/String;)V"), (0, .methodref 12 21), (0, .nameAndType 22 23), (0, u "namesSessions"), (0, u "()Z"), (0, .methodref 12 25), (0, .nameAndType 26 27), (0, u "holderSession"), (0, u "()Ljava/lang/String;"), (0, .class_ 29), (0, u "com/example/cyclewarden/cyclewarden/core/WaitNamesSessionsPinLaw"), (2, u "law"), (0, u "(III)Z")] 5

def k1m0 : Method := { name := "<init>", desc := "()V", sig := { parameters := [], returnType := none }, accessFlags := 1, code := none }
def k1c1 : Code := { maxStack := 7, maxLocals := 15, code := code, exceptionTable := #[], attributes := #[] }
def k1m1 : Method := { name := "law", desc := "(III)Z", sig := { parameters := [.int, .int, .int], returnType := some .boolean }, accessFlags := 9, code := some k1c1 }
/-- com/example/cyclewarden/cyclewarden/core/WaitNamesSessionsPinLaw -/
def k1 : Class := { plain "com/example/cyclewarden/cyclewarden/core/WaitNamesSessionsPinLaw" (some 0) with
  accessFlags := 49
  interfaces := #[]
  cf := some (fileOf pool1 28 #[] #[{ accessFlags := 1, nameIndex := 5, descriptorIndex := 6, attributes := #[] }, { accessFlags := 9, nameIndex := 32, descriptorIndex := 33, attributes := #[] }] 49 2 #[] #[])
  fields := #[]
  methods := #[k1m0, k1m1]
  instanceTypes := #[]
  staticTypes := #[]
  resolved := Array.replicate 39 none
  statics := none }

def pool2 : Array CpInfo := pool [(1, .class_ 2), (0, u "java/io/Serializable"), (0, .class_ 4), (0, u "java/lang/Object")] 2

/-- java/io/Serializable -/
def k2 : Class := { plain "java/io/Serializable" (some 0) with
  accessFlags := 1537
  interfaces := #[]
  cf := some (fileOf pool2 1 #[] #[] 1537 3 #[] #[])
  fields := #[]
  methods := #[]
  instanceTypes := #[]
  staticTypes := #[]
  resolved := Array.replicate 7 none
  statics := none }

def pool3 : Array CpInfo := pool [(1, .class_ 2), (0, u "java/lang/Comparable"), (0, .class_ 4), (0, u "java/lang/Object")] 7

/-- java/lang/Comparable -/
def k3 : Class := { plain "java/lang/Comparable" (some 0) with
  accessFlags := 1537
  interfaces := #[]
  cf := some (fileOf pool3 1 #[] #[] 1537 3 #[] #[])
  fields := #[]
  methods := #[]
  instanceTypes := #[]
  staticTypes := #[]
  resolved := Array.replicate 12 none
  statics := none }

def pool4 : Array CpInfo := pool [(2, .class_ 4), (1, u "java/lang/CharSequence"), (42, .class_ 48), (0, u "java/lang/CharSequence$1CodePointIterator"), (10, .class_ 60), (0, u "java/lang/CharSequence$1CharIterator"), (5, .class_ 67), (0, u "java/lang/Object")] 63

/-- java/lang/CharSequence -/
def k4 : Class := { plain "java/lang/CharSequence" (some 0) with
  accessFlags := 1537
  interfaces := #[]
  cf := some (fileOf pool4 2 #[.nestMembers #[47, 59]] #[] 1537 66 #[] #[])
  fields := #[]
  methods := #[]
  instanceTypes := #[]
  staticTypes := #[]
  resolved := Array.replicate 131 none
  statics := none }

def pool5 : Array CpInfo := pool [(1, .class_ 2), (0, u "java/lang/constant/Constable"), (0, .class_ 4), (0, u "java/lang/Object")] 6

/-- java/lang/constant/Constable -/
def k5 : Class := { plain "java/lang/constant/Constable" (some 0) with
  accessFlags := 1537
  interfaces := #[]
  cf := some (fileOf pool5 1 #[] #[] 1537 3 #[] #[])
  fields := #[]
  methods := #[]
  instanceTypes := #[]
  staticTypes := #[]
  resolved := Array.replicate 11 none
  statics := none }

def pool6 : Array CpInfo := pool [(1, .class_ 2), (0, u "java/lang/constant/ConstantDesc"), (0, .class_ 4), (0, u "java/lang/Object")] 32

/-- java/lang/constant/ConstantDesc -/
def k6 : Class := { plain "java/lang/constant/ConstantDesc" (some 0) with
  accessFlags := 1537
  interfaces := #[]
  cf := some (fileOf pool6 1 #[] #[] 1537 3 #[] #[])
  fields := #[]
  methods := #[]
  instanceTypes := #[]
  staticTypes := #[]
  resolved := Array.replicate 37 none
  statics := none }

def pool7 : Array CpInfo := pool [(1, .methodref 2 3), (0, .class_ 4), (0, .nameAndType 5 6), (0, u "java/lang/Object"), (0, u "<init>"), (0, u "()V"), (0, .string 8), (0, u ""), (0, .fieldref 10 11), (0, .class_ 12), (0, .nameAndType 13 14), (0, u "java/lang/String"), (0, u "value"), (0, u "[B"), (0, .fieldref 10 16), (0, .nameAndType 17 18), (0, u "coder"), (0, u "B"), (2, u "hash"), (0, u "I"), (2, u "hashIsZero"), (0, u "Z"), (0, .methodref 10 28), (0, .nameAndType 5 29), (0, u "([CIILjava/lang/Void;)V"), (8, .fieldref 10 39), (0, .nameAndType 40 26), (0, u "COMPACT_STRINGS"), (1, .class_ 44), (1, u "java/lang/StringUTF16"), (0, u "compress"), (1, .methodref 42 48), (0, .nameAndType 49 50), (0, u "coderFromArrayLen"), (0, u "([BI)B"), (126, .methodref 42 178), (0, .nameAndType 45 179), (0, u "([CII)[B"), (395, .class_ 576), (0, u "java/lang/CharSequence"), (22, u "CASE_INSENSITIVE_ORDER"), (0, u "Ljava/util/Comparator;"), (409, u "([C)V"), (90, u "serialPersistentFields"), (0, u "[Ljava/io/ObjectStreamField;"), (0, .class_ 1104), (0, u "java/lang/String$CaseInsensitiveComparator"), (1, .class_ 1107), (0, u "java/io/Serializable"), (0, .class_ 1109), (0, u "java/lang/Comparable"), (0, .class_ 1111), (0, u "java/lang/constant/Constable"), (0, .class_ 1113), (0, u "java/lang/constant/ConstantDesc"), (2, u "serialVersionUID"), (0, u "J"), (3, u "REPL"), (0, u "C"), (2, u "LATIN1"), (1, u "UTF16")] 323

def k7m0 : Method := { name := "<init>", desc := "()V", sig := { parameters := [], returnType := none }, accessFlags := 1, code := none }
def k7c1 : Code := { maxStack := 5, maxLocals := 2, code := jdk_42_method_3_code, exceptionTable := #[], attributes := #[] }
def k7m1 : Method := { name := "<init>", desc := "([C)V", sig := { parameters := [(.array .char)], returnType := none }, accessFlags := 1, code := some k7c1 }
def k7c2 : Code := { maxStack := 4, maxLocals := 6, code := jdk_42_method_149_code, exceptionTable := #[], attributes := #[] }
def k7m2 : Method := { name := "<init>", desc := "([CIILjava/lang/Void;)V", sig := { parameters := [(.array .char), .int, .int, (.object "java/lang/Void")], returnType := none }, accessFlags := 2, code := some k7c2 }
/-- java/lang/String -/
def k7 : Class := { plain "java/lang/String" (some 0) with
  accessFlags := 49
  interfaces := #[2, 3, 4, 5, 6]
  cf := some (fileOf pool7 10 #[.nestMembers #[1103]] #[{ accessFlags := 1, nameIndex := 5, descriptorIndex := 6, attributes := #[] }, { accessFlags := 1, nameIndex := 5, descriptorIndex := 1010, attributes := #[] }, { accessFlags := 2, nameIndex := 5, descriptorIndex := 29, attributes := #[] }] 49 2 #[1106, 1108, 575, 1110, 1112] #[{ accessFlags := 18, nameIndex := 13, descriptorIndex := 14, attributes := #[] }, { accessFlags := 18, nameIndex := 17, descriptorIndex := 18, attributes := #[] }, { accessFlags := 2, nameIndex := 21, descriptorIndex := 22, attributes := #[] }, { accessFlags := 2, nameIndex := 25, descriptorIndex := 26, attributes := #[] }, { accessFlags := 26, nameIndex := 1116, descriptorIndex := 1117, attributes := #[] }, { accessFlags := 24, nameIndex := 40, descriptorIndex := 26, attributes := #[] }, { accessFlags := 26, nameIndex := 1101, descriptorIndex := 1102, attributes := #[] }, { accessFlags := 26, nameIndex := 1121, descriptorIndex := 1122, attributes := #[] }, { accessFlags := 25, nameIndex := 599, descriptorIndex := 600, attributes := #[] }, { accessFlags := 24, nameIndex := 1125, descriptorIndex := 18, attributes := #[] }, { accessFlags := 24, nameIndex := 1127, descriptorIndex := 18, attributes := #[] }])
  fields := #[{ name := "value", type := (.array .byte), accessFlags := 18, slot := 0, constantValue := 0 }, { name := "coder", type := .byte, accessFlags := 18, slot := 1, constantValue := 0 }, { name := "hash", type := .int, accessFlags := 2, slot := 2, constantValue := 0 }, { name := "hashIsZero", type := .boolean, accessFlags := 2, slot := 3, constantValue := 0 }, { name := "serialVersionUID", type := .long, accessFlags := 26, slot := 0, constantValue := 0 }, { name := "COMPACT_STRINGS", type := .boolean, accessFlags := 24, slot := 1, constantValue := 0 }, { name := "serialPersistentFields", type := (.array (.object "java/io/ObjectStreamField")), accessFlags := 26, slot := 2, constantValue := 0 }, { name := "REPL", type := .char, accessFlags := 26, slot := 3, constantValue := 0 }, { name := "CASE_INSENSITIVE_ORDER", type := (.object "java/util/Comparator"), accessFlags := 25, slot := 4, constantValue := 0 }, { name := "LATIN1", type := .byte, accessFlags := 24, slot := 5, constantValue := 0 }, { name := "UTF16", type := .byte, accessFlags := 24, slot := 6, constantValue := 0 }]
  methods := #[k7m0, k7m1, k7m2]
  instanceTypes := #[(.array .byte), .byte, .int, .boolean]
  staticTypes := #[.long, .boolean, (.array (.object "java/io/ObjectStreamField")), .char, (.object "java/util/Comparator"), .byte, .byte]
  resolved := Array.replicate 1451 none
  statics := some 0 }

def pool8 : Array CpInfo := pool [(6, .class_ 8), (1, u "java/lang/Object"), (0, u "<init>"), (0, u "()V"), (1, .class_ 14), (1, u "java/lang/StringUTF16"), (31, u "$assertionsDisabled"), (0, u "Z"), (13, u "HI_BYTE_SHIFT"), (0, u "I"), (2, u "LO_BYTE_SHIFT"), (49, .methodref 12 116), (0, .nameAndType 117 118), (0, u "compress"), (0, u "([CI[BII)I"), (3, u "([CII)[B"), (138, u "coderFromArrayLen"), (0, u "([BI)B"), (106, .class_ 371), (1, u "java/lang/StringUTF16$LinesSpliterator"), (58, u "MAX_LENGTH"), (196, .class_ 628), (0, u "java/lang/StringUTF16$CodePointsSpliterator"), (0, .class_ 630), (0, u "java/lang/StringUTF16$CharsSpliterator")] 4

def k8m0 : Method := { name := "<init>", desc := "()V", sig := { parameters := [], returnType := none }, accessFlags := 0, code := none }
def k8c1 : Code := { maxStack := 2, maxLocals := 2, code := jdk_52_method_15_code, exceptionTable := #[], attributes := #[] }
def k8m1 : Method := { name := "coderFromArrayLen", desc := "([BI)B", sig := { parameters := [(.array .byte), .int], returnType := some .byte }, accessFlags := 8, code := some k8c1 }
def k8c2 : Code := { maxStack := 5, maxLocals := 6, code := jdk_52_method_16_code, exceptionTable := #[], attributes := #[] }
def k8m2 : Method := { name := "compress", desc := "([CII)[B", sig := { parameters := [(.array .char), .int, .int], returnType := some (.array .byte) }, accessFlags := 9, code := some k8c2 }
def k8c3 : Code := { maxStack := 3, maxLocals := 7, code := jdk_52_method_21_code, exceptionTable := #[], attributes := #[] }
def k8m3 : Method := { name := "compress", desc := "([CI[BII)I", sig := { parameters := [(.array .char), .int, (.array .byte), .int, .int], returnType := some .int }, accessFlags := 9, code := some k8c3 }
/-- java/lang/StringUTF16 -/
def k8 : Class := { plain "java/lang/StringUTF16" (some 0) with
  accessFlags := 48
  interfaces := #[]
  cf := some (fileOf pool8 12 #[.nestMembers #[627, 629, 369]] #[{ accessFlags := 0, nameIndex := 9, descriptorIndex := 10, attributes := #[] }, { accessFlags := 8, nameIndex := 261, descriptorIndex := 262, attributes := #[] }, { accessFlags := 9, nameIndex := 117, descriptorIndex := 122, attributes := #[] }, { accessFlags := 9, nameIndex := 117, descriptorIndex := 118, attributes := #[] }] 48 6 #[] #[{ accessFlags := 26, nameIndex := 61, descriptorIndex := 62, attributes := #[] }, { accessFlags := 26, nameIndex := 65, descriptorIndex := 62, attributes := #[] }, { accessFlags := 24, nameIndex := 430, descriptorIndex := 62, attributes := #[] }, { accessFlags := 4120, nameIndex := 46, descriptorIndex := 47, attributes := #[] }])
  fields := #[{ name := "HI_BYTE_SHIFT", type := .int, accessFlags := 26, slot := 0, constantValue := 0 }, { name := "LO_BYTE_SHIFT", type := .int, accessFlags := 26, slot := 1, constantValue := 0 }, { name := "MAX_LENGTH", type := .int, accessFlags := 24, slot := 2, constantValue := 0 }, { name := "$assertionsDisabled", type := .boolean, accessFlags := 4120, slot := 3, constantValue := 0 }]
  methods := #[k8m0, k8m1, k8m2, k8m3]
  instanceTypes := #[]
  staticTypes := #[.int, .int, .int, .boolean]
  resolved := Array.replicate 635 none
  statics := none }

def pool9 : Array CpInfo := pool [(1, .methodref 2 3), (0, .class_ 4), (0, .nameAndType 5 6), (0, u "java/lang/Object"), (0, u "<init>"), (0, u "()V"), (0, .class_ 8), (0, u "java/lang/Record")] 13

def k9c0 : Code := { maxStack := 1, maxLocals := 1, code := jdk_30_method_1_code, exceptionTable := #[], attributes := #[] }
def k9m0 : Method := { name := "<init>", desc := "()V", sig := { parameters := [], returnType := none }, accessFlags := 4, code := some k9c0 }
/-- java/lang/Record -/
def k9 : Class := { plain "java/lang/Record" (some 0) with
  accessFlags := 1057
  interfaces := #[]
  cf := some (fileOf pool9 7 #[] #[{ accessFlags := 4, nameIndex := 5, descriptorIndex := 6, attributes := #[] }] 1057 2 #[] #[])
  fields := #[]
  methods := #[k9m0]
  instanceTypes := #[]
  staticTypes := #[]
  resolved := Array.replicate 22 none
  statics := none }

def pool10 : Array CpInfo := pool [(1, .methodref 2 3), (0, .class_ 4), (0, .nameAndType 5 6), (0, u "java/lang/Record"), (0, u "<init>"), (0, u "()V"), (0, .string 8), (0, u "site"), (0, .methodref 10 11), (0, .class_ 12), (0, .nameAndType 13 14), (0, u "java/util/Objects"), (0, u "requireNonNull"), (0, u "(Ljava/lang/Object;Ljava/lang/String;)Ljava/lang/Object;"), (0, .string 16), (0, u "waiter"), (0, .string 18), (0, u "holder"), (7, .fieldref 27 28), (0, .class_ 29), (0, .nameAndType 8 30), (0, u "com/example/cyclewarden/cyclewarden/core/Wait"), (0, u "Ljava/lang/String;"), (0, .fieldref 27 32), (0, .nameAndType 16 30), (0, .fieldref 27 34), (0, .nameAndType 18 30), (0, .fieldref 27 36), (0, .nameAndType 37 30), (0, u "waiterSession"), (0, .fieldref 27 39), (0, .nameAndType 40 30), (0, u "holderSession"), (0, .methodref 27 42), (0, .nameAndType 5 43), (0, u "(Ljava/lang/String;Ljava/lang/String;Ljava/lang/String;Ljava/lang/String;Ljava/lang/String;)V"), (18, u "(Ljava/lang/String;Ljava/lang/String;Ljava/lang/String;)V"), (0, u "namesSessions"), (0, u "()Z"), (0, u "()Ljava/lang/String;")] 26

def k10c0 : Code := { maxStack := 3, maxLocals := 6, code := prog_36_method_1_code, exceptionTable := #[], attributes := #[] }
def k10m0 : Method := { name := "<init>", desc := "(Ljava/lang/String;Ljava/lang/String;Ljava/lang/String;Ljava/lang/String;Ljava/lang/String;)V", sig := { parameters := [(.object "java/lang/String"), (.object "java/lang/String"), (.object "java/lang/String"), (.object "java/lang/String"), (.object "java/lang/String")], returnType := none }, accessFlags := 1, code := some k10c0 }
def k10c1 : Code := { maxStack := 6, maxLocals := 4, code := prog_36_method_2_code, exceptionTable := #[], attributes := #[] }
def k10m1 : Method := { name := "<init>", desc := "(Ljava/lang/String;Ljava/lang/String;Ljava/lang/String;)V", sig := { parameters := [(.object "java/lang/String"), (.object "java/lang/String"), (.object "java/lang/String")], returnType := none }, accessFlags := 1, code := some k10c1 }
def k10c2 : Code := { maxStack := 1, maxLocals := 1, code := prog_36_method_3_code, exceptionTable := #[], attributes := #[] }
def k10m2 : Method := { name := "namesSessions", desc := "()Z", sig := { parameters := [], returnType := some .boolean }, accessFlags := 1, code := some k10c2 }
def k10c3 : Code := { maxStack := 1, maxLocals := 1, code := prog_36_method_11_code, exceptionTable := #[], attributes := #[] }
def k10m3 : Method := { name := "holderSession", desc := "()Ljava/lang/String;", sig := { parameters := [], returnType := some (.object "java/lang/String") }, accessFlags := 1, code := some k10c3 }
/-- com/example/cyclewarden/cyclewarden/core/Wait -/
def k10 : Class := { plain "com/example/cyclewarden/cyclewarden/core/Wait" (some 9) with
  accessFlags := 49
  interfaces := #[]
  cf := some (fileOf pool10 27 #[] #[{ accessFlags := 1, nameIndex := 5, descriptorIndex := 43, attributes := #[] }, { accessFlags := 1, nameIndex := 5, descriptorIndex := 62, attributes := #[] }, { accessFlags := 1, nameIndex := 63, descriptorIndex := 64, attributes := #[] }, { accessFlags := 1, nameIndex := 40, descriptorIndex := 65, attributes := #[] }] 49 2 #[] #[{ accessFlags := 18, nameIndex := 8, descriptorIndex := 30, attributes := #[] }, { accessFlags := 18, nameIndex := 16, descriptorIndex := 30, attributes := #[] }, { accessFlags := 18, nameIndex := 18, descriptorIndex := 30, attributes := #[] }, { accessFlags := 18, nameIndex := 37, descriptorIndex := 30, attributes := #[] }, { accessFlags := 18, nameIndex := 40, descriptorIndex := 30, attributes := #[] }])
  fields := #[{ name := "site", type := (.object "java/lang/String"), accessFlags := 18, slot := 0, constantValue := 0 }, { name := "waiter", type := (.object "java/lang/String"), accessFlags := 18, slot := 1, constantValue := 0 }, { name := "holder", type := (.object "java/lang/String"), accessFlags := 18, slot := 2, constantValue := 0 }, { name := "waiterSession", type := (.object "java/lang/String"), accessFlags := 18, slot := 3, constantValue := 0 }, { name := "holderSession", type := (.object "java/lang/String"), accessFlags := 18, slot := 4, constantValue := 0 }]
  methods := #[k10m0, k10m1, k10m2, k10m3]
  instanceTypes := #[(.object "java/lang/String"), (.object "java/lang/String"), (.object "java/lang/String"), (.object "java/lang/String"), (.object "java/lang/String")]
  staticTypes := #[]
  resolved := Array.replicate 92 none
  statics := none }

def pool11 : Array CpInfo := pool [(2, .class_ 4), (1, u "java/lang/Object"), (0, u "<init>"), (0, u "()V"), (35, .class_ 44), (1, u "java/util/Objects"), (0, u "requireNonNull"), (48, u "(Ljava/lang/Object;Ljava/lang/String;)Ljava/lang/Object;")] 89

def k11m0 : Method := { name := "<init>", desc := "()V", sig := { parameters := [], returnType := none }, accessFlags := 2, code := none }
def k11c1 : Code := { maxStack := 3, maxLocals := 2, code := jdk_31_method_11_code, exceptionTable := #[], attributes := #[] }
def k11m1 : Method := { name := "requireNonNull", desc := "(Ljava/lang/Object;Ljava/lang/String;)Ljava/lang/Object;", sig := { parameters := [(.object "java/lang/Object"), (.object "java/lang/String")], returnType := some (.object "java/lang/Object") }, accessFlags := 9, code := some k11c1 }
/-- java/util/Objects -/
def k11 : Class := { plain "java/util/Objects" (some 0) with
  accessFlags := 49
  interfaces := #[]
  cf := some (fileOf pool11 42 #[] #[{ accessFlags := 2, nameIndex := 5, descriptorIndex := 6, attributes := #[] }, { accessFlags := 9, nameIndex := 45, descriptorIndex := 94, attributes := #[] }] 49 2 #[] #[])
  fields := #[]
  methods := #[k11m0, k11m1]
  instanceTypes := #[]
  staticTypes := #[]
  resolved := Array.replicate 184 none
  statics := none }

def pool12 : Array CpInfo := pool [(4, .class_ 6), (1, u "java/lang/Object"), (0, u "<init>"), (0, u "()V"), (5, .class_ 16), (1, u "java/lang/StringLatin1"), (104, u "$assertionsDisabled"), (0, u "Z"), (98, .class_ 223), (1, u "java/lang/StringLatin1$LinesSpliterator"), (166, .class_ 391), (0, u "java/lang/StringLatin1$CharsSpliterator")] 3

def k12m0 : Method := { name := "<init>", desc := "()V", sig := { parameters := [], returnType := none }, accessFlags := 0, code := none }
/-- java/lang/StringLatin1 -/
def k12 : Class := { plain "java/lang/StringLatin1" (some 0) with
  accessFlags := 48
  interfaces := #[]
  cf := some (fileOf pool12 14 #[.nestMembers #[390, 221]] #[{ accessFlags := 0, nameIndex := 7, descriptorIndex := 8, attributes := #[] }] 48 4 #[] #[{ accessFlags := 4120, nameIndex := 121, descriptorIndex := 122, attributes := #[] }])
  fields := #[{ name := "$assertionsDisabled", type := .boolean, accessFlags := 4120, slot := 0, constantValue := 0 }]
  methods := #[k12m0]
  instanceTypes := #[]
  staticTypes := #[.boolean]
  resolved := Array.replicate 395 none
  statics := none }

def pool13 : Array CpInfo := pool [(2, .class_ 4), (1, u "java/lang/Object"), (0, u "<init>"), (0, u "()V"), (17, .class_ 26), (1, u "jdk/internal/util/Preconditions"), (28, .class_ 56), (0, u "jdk/internal/util/Preconditions$4"), (57, .class_ 115), (0, u "jdk/internal/util/Preconditions$1"), (7, u "SIOOBE_FORMATTER"), (0, u "Ljava/util/function/BiFunction;"), (0, .class_ 126), (0, u "jdk/internal/util/Preconditions$2"), (3, u "AIOOBE_FORMATTER"), (0, .class_ 132), (0, u "jdk/internal/util/Preconditions$3"), (3, u "IOOBE_FORMATTER")] 57

def k13m0 : Method := { name := "<init>", desc := "()V", sig := { parameters := [], returnType := none }, accessFlags := 1, code := none }
/-- jdk/internal/util/Preconditions -/
def k13 : Class := { plain "jdk/internal/util/Preconditions" (some 0) with
  accessFlags := 33
  interfaces := #[]
  cf := some (fileOf pool13 24 #[.nestMembers #[55, 131, 125, 114]] #[{ accessFlags := 1, nameIndex := 5, descriptorIndex := 6, attributes := #[] }] 33 2 #[] #[{ accessFlags := 25, nameIndex := 123, descriptorIndex := 124, attributes := #[] }, { accessFlags := 25, nameIndex := 130, descriptorIndex := 124, attributes := #[] }, { accessFlags := 25, nameIndex := 136, descriptorIndex := 124, attributes := #[] }])
  fields := #[{ name := "SIOOBE_FORMATTER", type := (.object "java/util/function/BiFunction"), accessFlags := 25, slot := 0, constantValue := 0 }, { name := "AIOOBE_FORMATTER", type := (.object "java/util/function/BiFunction"), accessFlags := 25, slot := 1, constantValue := 0 }, { name := "IOOBE_FORMATTER", type := (.object "java/util/function/BiFunction"), accessFlags := 25, slot := 2, constantValue := 0 }]
  methods := #[k13m0]
  instanceTypes := #[]
  staticTypes := #[(.object "java/util/function/BiFunction"), (.object "java/util/function/BiFunction"), (.object "java/util/function/BiFunction")]
  resolved := Array.replicate 194 none
  statics := some 1 }

def pool14 : Array CpInfo := pool [(9, u "<init>"), (6, .class_ 18), (1, u "java/lang/Object"), (0, u "()V"), (1, .class_ 23), (1, u "jdk/internal/util/ArraysSupport"), (0, u "LOG2_ARRAY_LONG_INDEX_SCALE"), (0, u "I"), (2, u "U"), (0, u "Ljdk/internal/misc/Unsafe;"), (8, u "BIG_ENDIAN"), (0, u "Z"), (8, u "LOG2_BYTE_BIT_SIZE"), (4, u "LOG2_ARRAY_INT_INDEX_SCALE"), (54, u "JLA"), (0, u "Ljdk/internal/access/JavaLangAccess;"), (11, u "LOG2_ARRAY_BOOLEAN_INDEX_SCALE"), (9, u "LOG2_ARRAY_BYTE_INDEX_SCALE"), (5, u "LOG2_ARRAY_CHAR_INDEX_SCALE"), (5, u "LOG2_ARRAY_SHORT_INDEX_SCALE"), (18, u "LOG2_ARRAY_FLOAT_INDEX_SCALE"), (24, u "LOG2_ARRAY_DOUBLE_INDEX_SCALE"), (89, u "T_BOOLEAN"), (2, u "T_CHAR"), (1, u "T_FLOAT"), (1, u "T_DOUBLE"), (1, u "T_BYTE"), (1, u "T_SHORT"), (1, u "T_INT"), (1, u "T_LONG"), (1, u "SOFT_MAX_ARRAY_LENGTH")] 83

def k14m0 : Method := { name := "<init>", desc := "()V", sig := { parameters := [], returnType := none }, accessFlags := 2, code := none }
/-- jdk/internal/util/ArraysSupport -/
def k14 : Class := { plain "jdk/internal/util/ArraysSupport" (some 0) with
  accessFlags := 33
  interfaces := #[]
  cf := some (fileOf pool14 21 #[] #[{ accessFlags := 2, nameIndex := 9, descriptorIndex := 19, attributes := #[] }] 33 16 #[] #[{ accessFlags := 24, nameIndex := 28, descriptorIndex := 29, attributes := #[] }, { accessFlags := 26, nameIndex := 38, descriptorIndex := 39, attributes := #[] }, { accessFlags := 25, nameIndex := 121, descriptorIndex := 25, attributes := #[] }, { accessFlags := 25, nameIndex := 131, descriptorIndex := 25, attributes := #[] }, { accessFlags := 25, nameIndex := 137, descriptorIndex := 25, attributes := #[] }, { accessFlags := 25, nameIndex := 143, descriptorIndex := 25, attributes := #[] }, { accessFlags := 25, nameIndex := 53, descriptorIndex := 25, attributes := #[] }, { accessFlags := 25, nameIndex := 24, descriptorIndex := 25, attributes := #[] }, { accessFlags := 25, nameIndex := 162, descriptorIndex := 25, attributes := #[] }, { accessFlags := 25, nameIndex := 187, descriptorIndex := 25, attributes := #[] }, { accessFlags := 26, nameIndex := 48, descriptorIndex := 25, attributes := #[] }, { accessFlags := 25, nameIndex := 277, descriptorIndex := 25, attributes := #[] }, { accessFlags := 25, nameIndex := 280, descriptorIndex := 25, attributes := #[] }, { accessFlags := 25, nameIndex := 282, descriptorIndex := 25, attributes := #[] }, { accessFlags := 25, nameIndex := 284, descriptorIndex := 25, attributes := #[] }, { accessFlags := 25, nameIndex := 286, descriptorIndex := 25, attributes := #[] }, { accessFlags := 25, nameIndex := 288, descriptorIndex := 25, attributes := #[] }, { accessFlags := 25, nameIndex := 290, descriptorIndex := 25, attributes := #[] }, { accessFlags := 25, nameIndex := 292, descriptorIndex := 25, attributes := #[] }, { accessFlags := 26, nameIndex := 108, descriptorIndex := 109, attributes := #[] }, { accessFlags := 25, nameIndex := 294, descriptorIndex := 25, attributes := #[] }])
  fields := #[{ name := "U", type := (.object "jdk/internal/misc/Unsafe"), accessFlags := 24, slot := 0, constantValue := 0 }, { name := "BIG_ENDIAN", type := .boolean, accessFlags := 26, slot := 1, constantValue := 0 }, { name := "LOG2_ARRAY_BOOLEAN_INDEX_SCALE", type := .int, accessFlags := 25, slot := 2, constantValue := 0 }, { name := "LOG2_ARRAY_BYTE_INDEX_SCALE", type := .int, accessFlags := 25, slot := 3, constantValue := 0 }, { name := "LOG2_ARRAY_CHAR_INDEX_SCALE", type := .int, accessFlags := 25, slot := 4, constantValue := 0 }, { name := "LOG2_ARRAY_SHORT_INDEX_SCALE", type := .int, accessFlags := 25, slot := 5, constantValue := 0 }, { name := "LOG2_ARRAY_INT_INDEX_SCALE", type := .int, accessFlags := 25, slot := 6, constantValue := 0 }, { name := "LOG2_ARRAY_LONG_INDEX_SCALE", type := .int, accessFlags := 25, slot := 7, constantValue := 0 }, { name := "LOG2_ARRAY_FLOAT_INDEX_SCALE", type := .int, accessFlags := 25, slot := 8, constantValue := 0 }, { name := "LOG2_ARRAY_DOUBLE_INDEX_SCALE", type := .int, accessFlags := 25, slot := 9, constantValue := 0 }, { name := "LOG2_BYTE_BIT_SIZE", type := .int, accessFlags := 26, slot := 10, constantValue := 0 }, { name := "T_BOOLEAN", type := .int, accessFlags := 25, slot := 11, constantValue := 0 }, { name := "T_CHAR", type := .int, accessFlags := 25, slot := 12, constantValue := 0 }, { name := "T_FLOAT", type := .int, accessFlags := 25, slot := 13, constantValue := 0 }, { name := "T_DOUBLE", type := .int, accessFlags := 25, slot := 14, constantValue := 0 }, { name := "T_BYTE", type := .int, accessFlags := 25, slot := 15, constantValue := 0 }, { name := "T_SHORT", type := .int, accessFlags := 25, slot := 16, constantValue := 0 }, { name := "T_INT", type := .int, accessFlags := 25, slot := 17, constantValue := 0 }, { name := "T_LONG", type := .int, accessFlags := 25, slot := 18, constantValue := 0 }, { name := "JLA", type := (.object "jdk/internal/access/JavaLangAccess"), accessFlags := 26, slot := 19, constantValue := 0 }, { name := "SOFT_MAX_ARRAY_LENGTH", type := .int, accessFlags := 25, slot := 20, constantValue := 0 }]
  methods := #[k14m0]
  instanceTypes := #[]
  staticTypes := #[(.object "jdk/internal/misc/Unsafe"), .boolean, .int, .int, .int, .int, .int, .int, .int, .int, .int, .int, .int, .int, .int, .int, .int, .int, .int, (.object "jdk/internal/access/JavaLangAccess"), .int]
  resolved := Array.replicate 378 none
  statics := none }

def pool15 : Array CpInfo := pool [(1, u "java/lang/Cloneable"), (0, .class_ 1), (0, u "java/lang/Object"), (0, .class_ 3)] 3

/-- java/lang/Cloneable -/
def k15 : Class := { plain "java/lang/Cloneable" (some 0) with
  accessFlags := 1537
  interfaces := #[]
  cf := some (fileOf pool15 2 #[] #[] 1537 4 #[] #[])
  fields := #[]
  methods := #[]
  instanceTypes := #[]
  staticTypes := #[]
  resolved := Array.replicate 8 none
  statics := none }

/-- the primitive byte -/
def k16 : Class := { plain "byte" none with kind := .primitive 'B', accessFlags := 0x411 }
/-- [B -/
def k17 : Class := { plain "[B" (some 0) with kind := .array 16 .byte, interfaces := #[15, 2], accessFlags := 1041 }

/-- the primitive char -/
def k18 : Class := { plain "char" none with kind := .primitive 'C', accessFlags := 0x411 }
/-- [C -/
def k19 : Class := { plain "[C" (some 0) with kind := .array 18 .char, interfaces := #[15, 2], accessFlags := 1041 }

/-- the primitive int -/
def k20 : Class := { plain "int" none with kind := .primitive 'I', accessFlags := 0x411 }
/-- [I -/
def k21 : Class := { plain "[I" (some 0) with kind := .array 20 .int, interfaces := #[15, 2], accessFlags := 1041 }

def heap : Heap := #[{ cls := 7, slots := #[.long 0, .int 1, .null, .int 0, .null, .int 0, .int 0], vm := .statics 7 },
  { cls := 13, slots := #[.null, .null, .null], vm := .statics 13 }]
def classes : Array Class := #[k0, k1, k2, k3, k4, k5, k6, k7, k8, k9, k10, k11, k12, k13, k14, k15, k16, k17, k18, k19, k20, k21]
def interned : List (Array UInt16 × Addr) := []
def slotsUsed : Nat := 10
def theMethod : MethodId := ⟨1, 1⟩
def args0 : Array Value := #[.int 5, .int 9, .int 3]
def aboutOver (below : List Frame) : State where
  vm := { classes := classes, interned := interned.toArray }
  heap := heap
  slotsUsed := slotsUsed
  threads := #[{ frames := .invoking theMethod args0 :: below }]
def below0 : List Frame := [.native { method := ⟨0, 0⟩, args := #[] }]
def about1 : State := aboutOver below0
def p0 : Program := .bare "" "" ""
def e0 : Env := launch0.env 0 0 0
theorem w_frames : about1.frames = Frame.invoking theMethod args0 :: below0 := rfl
set_option maxRecDepth 65536 in
theorem w_args : argsFit about1.vm theMethod args0 = true := by decide +kernel
set_option maxRecDepth 65536 in
theorem w_heap : heapFits about1 = true := by decide +kernel
set_option maxRecDepth 65536 in
theorem w_runnable : about1.curStatus? = some .runnable := by decide +kernel
set_option maxRecDepth 65536 in
theorem w_alone : about1.alone = true := by decide +kernel
set_option maxRecDepth 65536 in
theorem w_named : about1.methodNamed? x = some theMethod := by decide +kernel
set_option maxRecDepth 65536 in
theorem w_hears : about1.hears theMethod below0 = true := by decide +kernel
set_option maxRecDepth 65536 in
theorem w_ripe : about1.ripe theMethod args0 below0 = true := by decide +kernel
theorem w_running : about1.status = .running := rfl
set_option maxRecDepth 65536 in
theorem w_room : about1.hasRoom e0.platform room_1 = true :=
  launch0.hasRoom_least _ room_1 (by decide +kernel) (by decide +kernel) (by decide +kernel) (by decide +kernel) (by decide +kernel) (by decide +kernel)
theorem allAtoms_all (ts : List Jvm.Cond) (a : Array Jvm.Value) (st : Jvm.State) : (allAtoms ts).before a st = ts.all (fun c => c.before a st) := by
  induction ts with
  | nil => rfl
  | cons c t ih =>
    show (Jvm.Cond.and c (allAtoms t)).before a st = _
    rw [Jvm.Cond.before_and, ih, List.all_cons]
def words1 : List Jvm.Cond := Jvm.Cond.code x code maxLocals ret :: tables_1
/-- a 'code' word, met by the world's own term for the bytes: nothing is compared byte by byte -/
theorem code_word {y : MethodName} {bytes : ByteArray} {mx : Nat} {rt : Option FieldType} {a : Array Value} {s : State} {m : MethodId} {meth : Method} {c : Code} (h1 : s.methodNamed? y = some m) (h2 : s.vm.method? m = some meth) (h3 : meth.code = some c) (h4 : c.code = bytes)
    (h5 : (c.maxLocals == mx && c.exceptionTable.isEmpty && decide (c.maxStack ≤ mostOperands) && decide (meth.sig.returnType = rt) && !meth.locks && decide (parseMethodDescriptor y.desc = some meth.sig)) = true) : (Jvm.Cond.code y bytes mx rt).before a s = true := by
  simp only [Bool.and_eq_true, beq_iff_eq, Bool.not_eq_true', decide_eq_true_eq] at h5
  obtain ⟨⟨⟨⟨⟨g1, g2⟩, g3⟩, g4⟩, g5⟩, g6⟩ := h5
  simp [Cond.before, Cond.holds, Cond.value, h1, h2, h3, h4, g1, g2, g3, g4, g5, g6]
def isCode : Jvm.Cond → Bool
  | .code _ _ _ _ => true
  | _ => false
theorem all_split {L : List Jvm.Cond} {P : Jvm.Cond → Bool} (h1 : L.all (fun c => isCode c || P c) = true) (h2 : ∀ c ∈ L.filter isCode, P c = true) : L.all P = true := by
  refine List.all_eq_true.mpr fun c hc => ?_
  have h := List.all_eq_true.mp h1 c hc
  rcases Bool.eq_false_or_eq_true (isCode c) with hi | hi
  · exact h2 c (List.mem_filter.mpr ⟨hc, hi⟩)
  · simpa [hi] using h
set_option maxRecDepth 65536 in
theorem w_c0 : (Jvm.Cond.code x code maxLocals ret).before args0 about1 = true := code_word (m := ⟨1, 1⟩) (meth := k1m1) (c := k1c1) (by decide +kernel) rfl rfl rfl (by decide +kernel)
set_option maxRecDepth 65536 in
theorem w_c1 : (Jvm.Cond.code ({ cls := "java/lang/String", name := "<init>", desc := "([C)V" } : Jvm.MethodName) jdk_42_method_3_code (2 : Nat) (Option.none : Option Jvm.ClassFile.FieldType)).before args0 about1 = true := code_word (m := ⟨7, 1⟩) (meth := k7m1) (c := k7c1) (by decide +kernel) rfl rfl rfl (by decide +kernel)
set_option maxRecDepth 65536 in
theorem w_c2 : (Jvm.Cond.code ({ cls := "java/lang/String", name := "<init>", desc := "([CIILjava/lang/Void;)V" } : Jvm.MethodName) jdk_42_method_149_code (6 : Nat) (Option.none : Option Jvm.ClassFile.FieldType)).before args0 about1 = true := code_word (m := ⟨7, 2⟩) (meth := k7m2) (c := k7c2) (by decide +kernel) rfl rfl rfl (by decide +kernel)
set_option maxRecDepth 65536 in
theorem w_c3 : (Jvm.Cond.code ({ cls := "java/lang/Object", name := "<init>", desc := "()V" } : Jvm.MethodName) object_method_1_code (1 : Nat) (Option.none : Option Jvm.ClassFile.FieldType)).before args0 about1 = true := code_word (m := ⟨0, 0⟩) (meth := k0m0) (c := k0c0) (by decide +kernel) rfl rfl rfl (by decide +kernel)
set_option maxRecDepth 65536 in
theorem w_c4 : (Jvm.Cond.code ({ cls := "java/lang/StringUTF16", name := "compress", desc := "([CII)[B" } : Jvm.MethodName) jdk_52_method_16_code (6 : Nat) (Option.some (Jvm.ClassFile.FieldType.array Jvm.ClassFile.FieldType.byte))).before args0 about1 = true := code_word (m := ⟨8, 2⟩) (meth := k8m2) (c := k8c2) (by decide +kernel) rfl rfl rfl (by decide +kernel)
set_option maxRecDepth 65536 in
theorem w_c5 : (Jvm.Cond.code ({ cls := "java/lang/StringUTF16", name := "compress", desc := "([CI[BII)I" } : Jvm.MethodName) jdk_52_method_21_code (7 : Nat) (Option.some Jvm.ClassFile.FieldType.int)).before args0 about1 = true := code_word (m := ⟨8, 3⟩) (meth := k8m3) (c := k8c3) (by decide +kernel) rfl rfl rfl (by decide +kernel)
set_option maxRecDepth 65536 in
theorem w_c6 : (Jvm.Cond.code ({ cls := "java/lang/StringUTF16", name := "coderFromArrayLen", desc := "([BI)B" } : Jvm.MethodName) jdk_52_method_15_code (2 : Nat) (Option.some Jvm.ClassFile.FieldType.byte)).before args0 about1 = true := code_word (m := ⟨8, 1⟩) (meth := k8m1) (c := k8c1) (by decide +kernel) rfl rfl rfl (by decide +kernel)
set_option maxRecDepth 65536 in
theorem w_c7 : (Jvm.Cond.code ({ cls := "com/example/cyclewarden/cyclewarden/core/Wait", name := "<init>", desc := "(Ljava/lang/String;Ljava/lang/String;Ljava/lang/String;)V" } : Jvm.MethodName) prog_36_method_2_code (4 : Nat) (Option.none : Option Jvm.ClassFile.FieldType)).before args0 about1 = true := code_word (m := ⟨10, 1⟩) (meth := k10m1) (c := k10c1) (by decide +kernel) rfl rfl rfl (by decide +kernel)
set_option maxRecDepth 65536 in
theorem w_c8 : (Jvm.Cond.code ({ cls := "com/example/cyclewarden/cyclewarden/core/Wait", name := "<init>", desc := "(Ljava/lang/String;Ljava/lang/String;Ljava/lang/String;Ljava/lang/String;Ljava/lang/String;)V" } : Jvm.MethodName) prog_36_method_1_code (6 : Nat) (Option.none : Option Jvm.ClassFile.FieldType)).before args0 about1 = true := code_word (m := ⟨10, 0⟩) (meth := k10m0) (c := k10c0) (by decide +kernel) rfl rfl rfl (by decide +kernel)
set_option maxRecDepth 65536 in
theorem w_c9 : (Jvm.Cond.code ({ cls := "java/lang/Record", name := "<init>", desc := "()V" } : Jvm.MethodName) jdk_30_method_1_code (1 : Nat) (Option.none : Option Jvm.ClassFile.FieldType)).before args0 about1 = true := code_word (m := ⟨9, 0⟩) (meth := k9m0) (c := k9c0) (by decide +kernel) rfl rfl rfl (by decide +kernel)
set_option maxRecDepth 65536 in
theorem w_c10 : (Jvm.Cond.code ({ cls := "java/util/Objects", name := "requireNonNull", desc := "(Ljava/lang/Object;Ljava/lang/String;)Ljava/lang/Object;" } : Jvm.MethodName) jdk_31_method_11_code (2 : Nat) (Option.some (Jvm.ClassFile.FieldType.object "java/lang/Object"))).before args0 about1 = true := code_word (m := ⟨11, 1⟩) (meth := k11m1) (c := k11c1) (by decide +kernel) rfl rfl rfl (by decide +kernel)
set_option maxRecDepth 65536 in
theorem w_c11 : (Jvm.Cond.code ({ cls := "com/example/cyclewarden/cyclewarden/core/Wait", name := "namesSessions", desc := "()Z" } : Jvm.MethodName) prog_36_method_3_code (1 : Nat) (Option.some Jvm.ClassFile.FieldType.boolean)).before args0 about1 = true := code_word (m := ⟨10, 2⟩) (meth := k10m2) (c := k10c2) (by decide +kernel) rfl rfl rfl (by decide +kernel)
set_option maxRecDepth 65536 in
theorem w_c12 : (Jvm.Cond.code ({ cls := "com/example/cyclewarden/cyclewarden/core/Wait", name := "holderSession", desc := "()Ljava/lang/String;" } : Jvm.MethodName) prog_36_method_11_code (1 : Nat) (Option.some (Jvm.ClassFile.FieldType.object "java/lang/String"))).before args0 about1 = true := code_word (m := ⟨10, 3⟩) (meth := k10m3) (c := k10c3) (by decide +kernel) rfl rfl rfl (by decide +kernel)
def codes1 : List Jvm.Cond := [Jvm.Cond.code x code maxLocals ret, Jvm.Cond.code ({ cls := "java/lang/String", name := "<init>", desc := "([C)V" } : Jvm.MethodName) jdk_42_method_3_code (2 : Nat) (Option.none : Option Jvm.ClassFile.FieldType), Jvm.Cond.code ({ cls := "java/lang/String", name := "<init>", desc := "([CIILjava/lang/Void;)V" } : Jvm.MethodName) jdk_42_method_149_code (6 : Nat) (Option.none : Option Jvm.ClassFile.FieldType), Jvm.Cond.code ({ cls := "java/lang/Object", name := "<init>", desc := "()V" } : Jvm.MethodName) object_method_1_code (1 : Nat) (Option.none : Option Jvm.ClassFile.FieldType), Jvm.Cond.code ({ cls := "java/lang/StringUTF16", name := "compress", desc := "([CII)[B" } : Jvm.MethodName) jdk_52_method_16_code (6 : Nat) (Option.some (Jvm.ClassFile.FieldType.array Jvm.ClassFile.FieldType.byte)), Jvm.Cond.code ({ cls := "java/lang/StringUTF16", name := "compress", desc := "([CI[BII)I" } : Jvm.MethodName) jdk_52_method_21_code (7 : Nat) (Option.some Jvm.ClassFile.FieldType.int), Jvm.Cond.code ({ cls := "java/lang/StringUTF16", name := "coderFromArrayLen", desc := "([BI)B" } : Jvm.MethodName) jdk_52_method_15_code (2 : Nat) (Option.some Jvm.ClassFile.FieldType.byte), Jvm.Cond.code ({ cls := "com/example/cyclewarden/cyclewarden/core/Wait", name := "<init>", desc := "(Ljava/lang/String;Ljava/lang/String;Ljava/lang/String;)V" } : Jvm.MethodName) prog_36_method_2_code (4 : Nat) (Option.none : Option Jvm.ClassFile.FieldType), Jvm.Cond.code ({ cls := "com/example/cyclewarden/cyclewarden/core/Wait", name := "<init>", desc := "(Ljava/lang/String;Ljava/lang/String;Ljava/lang/String;Ljava/lang/String;Ljava/lang/String;)V" } : Jvm.MethodName) prog_36_method_1_code (6 : Nat) (Option.none : Option Jvm.ClassFile.FieldType), Jvm.Cond.code ({ cls := "java/lang/Record", name := "<init>", desc := "()V" } : Jvm.MethodName) jdk_30_method_1_code (1 : Nat) (Option.none : Option Jvm.ClassFile.FieldType), Jvm.Cond.code ({ cls := "java/util/Objects", name := "requireNonNull", desc := "(Ljava/lang/Object;Ljava/lang/String;)Ljava/lang/Object;" } : Jvm.MethodName) jdk_31_method_11_code (2 : Nat) (Option.some (Jvm.ClassFile.FieldType.object "java/lang/Object")), Jvm.Cond.code ({ cls := "com/example/cyclewarden/cyclewarden/core/Wait", name := "namesSessions", desc := "()Z" } : Jvm.MethodName) prog_36_method_3_code (1 : Nat) (Option.some Jvm.ClassFile.FieldType.boolean), Jvm.Cond.code ({ cls := "com/example/cyclewarden/cyclewarden/core/Wait", name := "holderSession", desc := "()Ljava/lang/String;" } : Jvm.MethodName) prog_36_method_11_code (1 : Nat) (Option.some (Jvm.ClassFile.FieldType.object "java/lang/String"))]
set_option maxRecDepth 65536 in
theorem codes_eq : words1.filter isCode = codes1 := rfl
theorem w_codes : ∀ c ∈ words1.filter isCode, c.before args0 about1 = true := by
  rw [codes_eq]
  intro c hc
  simp only [codes1, List.mem_cons, List.not_mem_nil, or_false] at hc
  rcases hc with rfl | rfl | rfl | rfl | rfl | rfl | rfl | rfl | rfl | rfl | rfl | rfl | rfl
  · exact w_c0
  · exact w_c1
  · exact w_c2
  · exact w_c3
  · exact w_c4
  · exact w_c5
  · exact w_c6
  · exact w_c7
  · exact w_c8
  · exact w_c9
  · exact w_c10
  · exact w_c11
  · exact w_c12
set_option maxRecDepth 65536 in
theorem w_t1 : (words1.take 24).all (fun c => isCode c || c.before args0 about1) = true := by decide +kernel
set_option maxRecDepth 65536 in
theorem w_t2 : ((words1.drop 24).take 24).all (fun c => isCode c || c.before args0 about1) = true := by decide +kernel
set_option maxRecDepth 65536 in
theorem w_t3 : (((words1.drop 24).drop 24).take 24).all (fun c => isCode c || c.before args0 about1) = true := by decide +kernel
set_option maxRecDepth 65536 in
theorem w_t4 : (((words1.drop 24).drop 24).drop 24).all (fun c => isCode c || c.before args0 about1) = true := by decide +kernel
theorem w_tables : (allAtoms (Jvm.Cond.code x code maxLocals ret :: tables_1)).before args0 about1 = true := by
  rw [allAtoms_all]
  show words1.all (fun c => c.before args0 about1) = true
  refine all_split ?_ w_codes
  rw [← List.take_append_drop 24 words1, List.all_append, w_t1, ← List.take_append_drop 24 (words1.drop 24), List.all_append, w_t2, ← List.take_append_drop 24 ((words1.drop 24).drop 24), List.all_append, w_t3, w_t4]
  rfl
set_option maxRecDepth 65536 in
theorem w_rest : rest_1_c.before args0 about1 = true := by decide +kernel
set_option maxRecDepth 65536 in
theorem w_case : (Jvm.Cond.and given_1 narrow_1).before args0 about1 = true := by decide +kernel
set_option maxRecDepth 65536 in
theorem w_consts : constsHeld consts_1 about1 := Jvm.Lit.constsHeldB_iff.mp (by decide +kernel)
theorem w_applies : (headSpec (Jvm.Cond.code x code maxLocals ret :: tables_1) room_1).applies x e0.platform about1 = true :=
  (Spec.applies_iff w_frames).mpr ⟨w_running, w_runnable, w_alone, w_named, w_hears, w_ripe, w_room, w_tables⟩
theorem atStart : AtStart classFile x code maxLocals ret World_1 tables_1 room_1 Calls_1 rest_1 Pre_1 launch0 p0 e0 about1 theMethod args0 below0 :=
  ⟨lists_1, trivial, launch0.admits_env _ _ _, launch0.least_env, fairChoices_fair.cas, fairChoices_fair.clock, w_frames, w_args, w_heap, w_applies, ⟨w_consts, trivial⟩, w_rest, w_case⟩
end start1
theorem witness_1 : WitnessClaimed_1 := ⟨start1.p0, start1.e0, start1.about1, start1.theMethod, start1.args0, start1.below0, start1.atStart⟩
end Jvm.Pilot.@@N@@
