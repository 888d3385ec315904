import JvmDerived
import JvmDerived.Pilot.@@N@@Statement
import JvmDerived.Pilot.@@N@@Code
set_option linter.unusedVariables false
set_option linter.unusedSimpArgs false
namespace Jvm.Own
open Sem ClassFile Op Lib Jvm.Stand Jvm.Free Jvm.LawKit Jvm.RoadKit
section Steps
variable {p : Program} {l : Launch} {e : Env} {R : Room} {s : State} {m : MethodId} {args : Array Value} {below : List Frame} {meth : Method} {c : Code} {T t : State} {locs : List Loc} {cells slots : Nat} {pc : Nat} {Ls Ls' : Array Slot} {S : List Value}
theorem iloadN (X : Stand p l e R s m args below meth c T locs cells slots) (hx : p.tables.exec = Jvm.exec) {k : Fin 4} {v : Int32} (hd : decode c.code pc = .ok (.iload_n k, 1)) (hl : Ls[k.val]? = some (.val (.int v))) (hr : Steps p.tables e below (T.setTop (mkF m (pc + 1) Ls (.int v :: S))) t) : Steps p.tables e below (T.setTop (mkF m pc Ls S)) t := XS.iloadN X.here hx rfl hd hl hr
theorem iload (X : Stand p l e R s m args below meth c T locs cells slots) (hx : p.tables.exec = Jvm.exec) {k : Nat} {v : Int32} (hd : decode c.code pc = .ok (.iload k, 2)) (hl : Ls[k]? = some (.val (.int v))) (hr : Steps p.tables e below (T.setTop (mkF m (pc + 2) Ls (.int v :: S))) t) : Steps p.tables e below (T.setTop (mkF m pc Ls S)) t := XS.iload X.here hx rfl hd hl hr
theorem istoreN (X : Stand p l e R s m args below meth c T locs cells slots) (hx : p.tables.exec = Jvm.exec) {k : Fin 4} {v : Int32} (Ls' : Array Slot) (hd : decode c.code pc = .ok (.istore_n k, 1)) (hl : storeLocals Ls k.val (.int v) = some Ls') (hr : Steps p.tables e below (T.setTop (mkF m (pc + 1) Ls' S)) t) : Steps p.tables e below (T.setTop (mkF m pc Ls (.int v :: S))) t := XS.istoreN X.here hx rfl hd rfl hl hr
theorem istore (X : Stand p l e R s m args below meth c T locs cells slots) (hx : p.tables.exec = Jvm.exec) {k : Nat} {v : Int32} (Ls' : Array Slot) (hd : decode c.code pc = .ok (.istore k, 2)) (hl : storeLocals Ls k (.int v) = some Ls') (hr : Steps p.tables e below (T.setTop (mkF m (pc + 2) Ls' S)) t) : Steps p.tables e below (T.setTop (mkF m pc Ls (.int v :: S))) t := XS.istore X.here hx rfl hd rfl hl hr
theorem lloadN (X : Stand p l e R s m args below meth c T locs cells slots) (hx : p.tables.exec = Jvm.exec) {k : Fin 4} {v : Int64} (hd : decode c.code pc = .ok (.lload_n k, 1)) (hl : Ls[k.val]? = some (.val (.long v))) (hr : Steps p.tables e below (T.setTop (mkF m (pc + 1) Ls (.long v :: S))) t) : Steps p.tables e below (T.setTop (mkF m pc Ls S)) t := XS.lloadN X.here hx rfl hd hl hr
theorem lload (X : Stand p l e R s m args below meth c T locs cells slots) (hx : p.tables.exec = Jvm.exec) {k : Nat} {v : Int64} (hd : decode c.code pc = .ok (.lload k, 2)) (hl : Ls[k]? = some (.val (.long v))) (hr : Steps p.tables e below (T.setTop (mkF m (pc + 2) Ls (.long v :: S))) t) : Steps p.tables e below (T.setTop (mkF m pc Ls S)) t := XS.lload X.here hx rfl hd hl hr
theorem lstoreN (X : Stand p l e R s m args below meth c T locs cells slots) (hx : p.tables.exec = Jvm.exec) {k : Fin 4} {v : Int64} (Ls' : Array Slot) (hd : decode c.code pc = .ok (.lstore_n k, 1)) (hl : storeLocals Ls k.val (.long v) = some Ls') (hr : Steps p.tables e below (T.setTop (mkF m (pc + 1) Ls' S)) t) : Steps p.tables e below (T.setTop (mkF m pc Ls (.long v :: S))) t := XS.lstoreN X.here hx rfl hd rfl hl hr
theorem lstore (X : Stand p l e R s m args below meth c T locs cells slots) (hx : p.tables.exec = Jvm.exec) {k : Nat} {v : Int64} (Ls' : Array Slot) (hd : decode c.code pc = .ok (.lstore k, 2)) (hl : storeLocals Ls k (.long v) = some Ls') (hr : Steps p.tables e below (T.setTop (mkF m (pc + 2) Ls' S)) t) : Steps p.tables e below (T.setTop (mkF m pc Ls (.long v :: S))) t := XS.lstore X.here hx rfl hd rfl hl hr
theorem aloadN (X : Stand p l e R s m args below meth c T locs cells slots) (hx : p.tables.exec = Jvm.exec) {k : Fin 4} {v : Value} (hd : decode c.code pc = .ok (.aload_n k, 1)) (hl : Ls[k.val]? = some (.val v)) (hv : v.isRef = true) (hr : Steps p.tables e below (T.setTop (mkF m (pc + 1) Ls (v :: S))) t) : Steps p.tables e below (T.setTop (mkF m pc Ls S)) t := XS.aloadN X.here hx rfl hd hl hv hr
theorem aload (X : Stand p l e R s m args below meth c T locs cells slots) (hx : p.tables.exec = Jvm.exec) {k : Nat} {v : Value} (hd : decode c.code pc = .ok (.aload k, 2)) (hl : Ls[k]? = some (.val v)) (hv : v.isRef = true) (hr : Steps p.tables e below (T.setTop (mkF m (pc + 2) Ls (v :: S))) t) : Steps p.tables e below (T.setTop (mkF m pc Ls S)) t := XS.aload X.here hx rfl hd hl hv hr
theorem astoreN (X : Stand p l e R s m args below meth c T locs cells slots) (hx : p.tables.exec = Jvm.exec) {k : Fin 4} {v : Value} (Ls' : Array Slot) (hd : decode c.code pc = .ok (.astore_n k, 1)) (hv : v.isRef = true) (hl : storeLocals Ls k.val v = some Ls') (hr : Steps p.tables e below (T.setTop (mkF m (pc + 1) Ls' S)) t) : Steps p.tables e below (T.setTop (mkF m pc Ls (v :: S))) t := XS.astoreN X.here hx rfl hd rfl hv hl hr
theorem astore (X : Stand p l e R s m args below meth c T locs cells slots) (hx : p.tables.exec = Jvm.exec) {k : Nat} {v : Value} (Ls' : Array Slot) (hd : decode c.code pc = .ok (.astore k, 2)) (hv : v.isRef = true) (hl : storeLocals Ls k v = some Ls') (hr : Steps p.tables e below (T.setTop (mkF m (pc + 2) Ls' S)) t) : Steps p.tables e below (T.setTop (mkF m pc Ls (v :: S))) t := XS.astore X.here hx rfl hd rfl hv hl hr
theorem iconst (X : Stand p l e R s m args below meth c T locs cells slots) (hx : p.tables.exec = Jvm.exec) {i : Int} (v : Int32) (hd : decode c.code pc = .ok (.iconst i, 1)) (hv : Int32.ofInt i = v) (hr : Steps p.tables e below (T.setTop (mkF m (pc + 1) Ls (.int v :: S))) t) : Steps p.tables e below (T.setTop (mkF m pc Ls S)) t := XS.iconst X.here hx rfl hd (hv ▸ hr)
theorem bipush (X : Stand p l e R s m args below meth c T locs cells slots) (hx : p.tables.exec = Jvm.exec) {i : Int} (v : Int32) (hd : decode c.code pc = .ok (.bipush i, 2)) (hv : (Int8.ofInt i).toInt32 = v) (hr : Steps p.tables e below (T.setTop (mkF m (pc + 2) Ls (.int v :: S))) t) : Steps p.tables e below (T.setTop (mkF m pc Ls S)) t := XS.bipush X.here hx rfl hd (hv ▸ hr)
theorem sipush (X : Stand p l e R s m args below meth c T locs cells slots) (hx : p.tables.exec = Jvm.exec) {i : Int} (v : Int32) (hd : decode c.code pc = .ok (.sipush i, 3)) (hv : (Int16.ofInt i).toInt32 = v) (hr : Steps p.tables e below (T.setTop (mkF m (pc + 3) Ls (.int v :: S))) t) : Steps p.tables e below (T.setTop (mkF m pc Ls S)) t := XS.sipush X.here hx rfl hd (hv ▸ hr)
theorem lconst (X : Stand p l e R s m args below meth c T locs cells slots) (hx : p.tables.exec = Jvm.exec) {k : Fin 2} (v : Int64) (hd : decode c.code pc = .ok (.lconst k, 1)) (hv : Int64.ofNat k = v) (hr : Steps p.tables e below (T.setTop (mkF m (pc + 1) Ls (.long v :: S))) t) : Steps p.tables e below (T.setTop (mkF m pc Ls S)) t := XS.lconst X.here hx rfl hd (hv ▸ hr)
theorem aconstNull (X : Stand p l e R s m args below meth c T locs cells slots) (hx : p.tables.exec = Jvm.exec)  (hd : decode c.code pc = .ok (.aconst_null, 1)) (hr : Steps p.tables e below (T.setTop (mkF m (pc + 1) Ls (.null :: S))) t) : Steps p.tables e below (T.setTop (mkF m pc Ls S)) t := XS.aconstNull X.here hx rfl hd hr
theorem iadd (X : Stand p l e R s m args below meth c T locs cells slots) (hx : p.tables.exec = Jvm.exec) {x y : Int32} (hd : decode c.code pc = .ok (.iadd, 1)) (hr : Steps p.tables e below (T.setTop (mkF m (pc + 1) Ls (.int (x + y) :: S))) t) : Steps p.tables e below (T.setTop (mkF m pc Ls (.int y :: .int x :: S))) t := XS.iadd X.here hx rfl hd rfl hr
theorem isub (X : Stand p l e R s m args below meth c T locs cells slots) (hx : p.tables.exec = Jvm.exec) {x y : Int32} (hd : decode c.code pc = .ok (.isub, 1)) (hr : Steps p.tables e below (T.setTop (mkF m (pc + 1) Ls (.int (x - y) :: S))) t) : Steps p.tables e below (T.setTop (mkF m pc Ls (.int y :: .int x :: S))) t := XS.isub X.here hx rfl hd rfl hr
theorem imul (X : Stand p l e R s m args below meth c T locs cells slots) (hx : p.tables.exec = Jvm.exec) {x y : Int32} (hd : decode c.code pc = .ok (.imul, 1)) (hr : Steps p.tables e below (T.setTop (mkF m (pc + 1) Ls (.int (x * y) :: S))) t) : Steps p.tables e below (T.setTop (mkF m pc Ls (.int y :: .int x :: S))) t := XS.imul X.here hx rfl hd rfl hr
theorem iand (X : Stand p l e R s m args below meth c T locs cells slots) (hx : p.tables.exec = Jvm.exec) {x y : Int32} (hd : decode c.code pc = .ok (.iand, 1)) (hr : Steps p.tables e below (T.setTop (mkF m (pc + 1) Ls (.int (x &&& y) :: S))) t) : Steps p.tables e below (T.setTop (mkF m pc Ls (.int y :: .int x :: S))) t := XS.iand X.here hx rfl hd rfl hr
theorem ior (X : Stand p l e R s m args below meth c T locs cells slots) (hx : p.tables.exec = Jvm.exec) {x y : Int32} (hd : decode c.code pc = .ok (.ior, 1)) (hr : Steps p.tables e below (T.setTop (mkF m (pc + 1) Ls (.int (x ||| y) :: S))) t) : Steps p.tables e below (T.setTop (mkF m pc Ls (.int y :: .int x :: S))) t := XS.ior X.here hx rfl hd rfl hr
theorem ixor (X : Stand p l e R s m args below meth c T locs cells slots) (hx : p.tables.exec = Jvm.exec) {x y : Int32} (hd : decode c.code pc = .ok (.ixor, 1)) (hr : Steps p.tables e below (T.setTop (mkF m (pc + 1) Ls (.int (x ^^^ y) :: S))) t) : Steps p.tables e below (T.setTop (mkF m pc Ls (.int y :: .int x :: S))) t := XS.ixor X.here hx rfl hd rfl hr
theorem ishl (X : Stand p l e R s m args below meth c T locs cells slots) (hx : p.tables.exec = Jvm.exec) {x y : Int32} (hd : decode c.code pc = .ok (.ishl, 1)) (hr : Steps p.tables e below (T.setTop (mkF m (pc + 1) Ls (.int (x <<< (y &&& 31)) :: S))) t) : Steps p.tables e below (T.setTop (mkF m pc Ls (.int y :: .int x :: S))) t := XS.ishl X.here hx rfl hd rfl hr
theorem ishr (X : Stand p l e R s m args below meth c T locs cells slots) (hx : p.tables.exec = Jvm.exec) {x y : Int32} (hd : decode c.code pc = .ok (.ishr, 1)) (hr : Steps p.tables e below (T.setTop (mkF m (pc + 1) Ls (.int (x >>> (y &&& 31)) :: S))) t) : Steps p.tables e below (T.setTop (mkF m pc Ls (.int y :: .int x :: S))) t := XS.ishr X.here hx rfl hd rfl hr
theorem iushr (X : Stand p l e R s m args below meth c T locs cells slots) (hx : p.tables.exec = Jvm.exec) {x y : Int32} (hd : decode c.code pc = .ok (.iushr, 1)) (hr : Steps p.tables e below (T.setTop (mkF m (pc + 1) Ls (.int ((x.toUInt32 >>> (y &&& 31).toUInt32).toInt32) :: S))) t) : Steps p.tables e below (T.setTop (mkF m pc Ls (.int y :: .int x :: S))) t := XS.iushr X.here hx rfl hd rfl hr
theorem ladd (X : Stand p l e R s m args below meth c T locs cells slots) (hx : p.tables.exec = Jvm.exec) {x y : Int64} (hd : decode c.code pc = .ok (.ladd, 1)) (hr : Steps p.tables e below (T.setTop (mkF m (pc + 1) Ls (.long (x + y) :: S))) t) : Steps p.tables e below (T.setTop (mkF m pc Ls (.long y :: .long x :: S))) t := XS.ladd X.here hx rfl hd rfl hr
theorem lsub (X : Stand p l e R s m args below meth c T locs cells slots) (hx : p.tables.exec = Jvm.exec) {x y : Int64} (hd : decode c.code pc = .ok (.lsub, 1)) (hr : Steps p.tables e below (T.setTop (mkF m (pc + 1) Ls (.long (x - y) :: S))) t) : Steps p.tables e below (T.setTop (mkF m pc Ls (.long y :: .long x :: S))) t := XS.lsub X.here hx rfl hd rfl hr
theorem lmul (X : Stand p l e R s m args below meth c T locs cells slots) (hx : p.tables.exec = Jvm.exec) {x y : Int64} (hd : decode c.code pc = .ok (.lmul, 1)) (hr : Steps p.tables e below (T.setTop (mkF m (pc + 1) Ls (.long (x * y) :: S))) t) : Steps p.tables e below (T.setTop (mkF m pc Ls (.long y :: .long x :: S))) t := XS.lmul X.here hx rfl hd rfl hr
theorem land (X : Stand p l e R s m args below meth c T locs cells slots) (hx : p.tables.exec = Jvm.exec) {x y : Int64} (hd : decode c.code pc = .ok (.land, 1)) (hr : Steps p.tables e below (T.setTop (mkF m (pc + 1) Ls (.long (x &&& y) :: S))) t) : Steps p.tables e below (T.setTop (mkF m pc Ls (.long y :: .long x :: S))) t := XS.land X.here hx rfl hd rfl hr
theorem lor (X : Stand p l e R s m args below meth c T locs cells slots) (hx : p.tables.exec = Jvm.exec) {x y : Int64} (hd : decode c.code pc = .ok (.lor, 1)) (hr : Steps p.tables e below (T.setTop (mkF m (pc + 1) Ls (.long (x ||| y) :: S))) t) : Steps p.tables e below (T.setTop (mkF m pc Ls (.long y :: .long x :: S))) t := XS.lor X.here hx rfl hd rfl hr
theorem lxor (X : Stand p l e R s m args below meth c T locs cells slots) (hx : p.tables.exec = Jvm.exec) {x y : Int64} (hd : decode c.code pc = .ok (.lxor, 1)) (hr : Steps p.tables e below (T.setTop (mkF m (pc + 1) Ls (.long (x ^^^ y) :: S))) t) : Steps p.tables e below (T.setTop (mkF m pc Ls (.long y :: .long x :: S))) t := XS.lxor X.here hx rfl hd rfl hr
theorem lshl (X : Stand p l e R s m args below meth c T locs cells slots) (hx : p.tables.exec = Jvm.exec) {x : Int64} {y : Int32} (hd : decode c.code pc = .ok (.lshl, 1)) (hr : Steps p.tables e below (T.setTop (mkF m (pc + 1) Ls (.long (x <<< (y &&& 0x3f).toInt64) :: S))) t) : Steps p.tables e below (T.setTop (mkF m pc Ls (.int y :: .long x :: S))) t := XS.lshl X.here hx rfl hd rfl hr
theorem lshr (X : Stand p l e R s m args below meth c T locs cells slots) (hx : p.tables.exec = Jvm.exec) {x : Int64} {y : Int32} (hd : decode c.code pc = .ok (.lshr, 1)) (hr : Steps p.tables e below (T.setTop (mkF m (pc + 1) Ls (.long (x >>> (y &&& 0x3f).toInt64) :: S))) t) : Steps p.tables e below (T.setTop (mkF m pc Ls (.int y :: .long x :: S))) t := XS.lshr X.here hx rfl hd rfl hr
theorem lushr (X : Stand p l e R s m args below meth c T locs cells slots) (hx : p.tables.exec = Jvm.exec) {x : Int64} {y : Int32} (hd : decode c.code pc = .ok (.lushr, 1)) (hr : Steps p.tables e below (T.setTop (mkF m (pc + 1) Ls (.long ((x.toUInt64 >>> (y &&& 0x3f).toInt64.toUInt64).toInt64) :: S))) t) : Steps p.tables e below (T.setTop (mkF m pc Ls (.int y :: .long x :: S))) t := XS.lushr X.here hx rfl hd rfl hr
theorem idiv (X : Stand p l e R s m args below meth c T locs cells slots) (hx : p.tables.exec = Jvm.exec) {x y : Int32} (hd : decode c.code pc = .ok (.idiv, 1)) (hy : y ≠ 0) (hr : Steps p.tables e below (T.setTop (mkF m (pc + 1) Ls (.int (x / y) :: S))) t) : Steps p.tables e below (T.setTop (mkF m pc Ls (.int y :: .int x :: S))) t := XS.idiv X.here hx rfl hd rfl hy hr
theorem irem (X : Stand p l e R s m args below meth c T locs cells slots) (hx : p.tables.exec = Jvm.exec) {x y : Int32} (hd : decode c.code pc = .ok (.irem, 1)) (hy : y ≠ 0) (hr : Steps p.tables e below (T.setTop (mkF m (pc + 1) Ls (.int (x % y) :: S))) t) : Steps p.tables e below (T.setTop (mkF m pc Ls (.int y :: .int x :: S))) t := iremM X hx rfl hd rfl hy hr
theorem ldiv (X : Stand p l e R s m args below meth c T locs cells slots) (hx : p.tables.exec = Jvm.exec) {x y : Int64} (hd : decode c.code pc = .ok (.ldiv, 1)) (hy : y ≠ 0) (hr : Steps p.tables e below (T.setTop (mkF m (pc + 1) Ls (.long (x / y) :: S))) t) : Steps p.tables e below (T.setTop (mkF m pc Ls (.long y :: .long x :: S))) t := XS.ldiv X.here hx rfl hd rfl hy hr
theorem lrem (X : Stand p l e R s m args below meth c T locs cells slots) (hx : p.tables.exec = Jvm.exec) {x y : Int64} (hd : decode c.code pc = .ok (.lrem, 1)) (hy : y ≠ 0) (hr : Steps p.tables e below (T.setTop (mkF m (pc + 1) Ls (.long (x - (x / y) * y) :: S))) t) : Steps p.tables e below (T.setTop (mkF m pc Ls (.long y :: .long x :: S))) t := XS.lrem X.here hx rfl hd rfl hy hr
theorem ineg (X : Stand p l e R s m args below meth c T locs cells slots) (hx : p.tables.exec = Jvm.exec) {x : Int32} (hd : decode c.code pc = .ok (.ineg, 1)) (hr : Steps p.tables e below (T.setTop (mkF m (pc + 1) Ls (.int (-x) :: S))) t) : Steps p.tables e below (T.setTop (mkF m pc Ls (.int x :: S))) t := XS.ineg X.here hx rfl hd rfl hr
theorem i2b (X : Stand p l e R s m args below meth c T locs cells slots) (hx : p.tables.exec = Jvm.exec) {x : Int32} (hd : decode c.code pc = .ok (.i2b, 1)) (hr : Steps p.tables e below (T.setTop (mkF m (pc + 1) Ls (.int (x.toInt8.toInt32) :: S))) t) : Steps p.tables e below (T.setTop (mkF m pc Ls (.int x :: S))) t := XS.i2b X.here hx rfl hd rfl hr
theorem i2c (X : Stand p l e R s m args below meth c T locs cells slots) (hx : p.tables.exec = Jvm.exec) {x : Int32} (hd : decode c.code pc = .ok (.i2c, 1)) (hr : Steps p.tables e below (T.setTop (mkF m (pc + 1) Ls (.int (x.toUInt32.toUInt16.toUInt32.toInt32) :: S))) t) : Steps p.tables e below (T.setTop (mkF m pc Ls (.int x :: S))) t := XS.i2c X.here hx rfl hd rfl hr
theorem i2s (X : Stand p l e R s m args below meth c T locs cells slots) (hx : p.tables.exec = Jvm.exec) {x : Int32} (hd : decode c.code pc = .ok (.i2s, 1)) (hr : Steps p.tables e below (T.setTop (mkF m (pc + 1) Ls (.int (x.toInt16.toInt32) :: S))) t) : Steps p.tables e below (T.setTop (mkF m pc Ls (.int x :: S))) t := XS.i2s X.here hx rfl hd rfl hr
theorem i2l (X : Stand p l e R s m args below meth c T locs cells slots) (hx : p.tables.exec = Jvm.exec) {x : Int32} (hd : decode c.code pc = .ok (.i2l, 1)) (hr : Steps p.tables e below (T.setTop (mkF m (pc + 1) Ls (.long (x.toInt64) :: S))) t) : Steps p.tables e below (T.setTop (mkF m pc Ls (.int x :: S))) t := XS.i2l X.here hx rfl hd rfl hr
theorem l2i (X : Stand p l e R s m args below meth c T locs cells slots) (hx : p.tables.exec = Jvm.exec) {x : Int64} (hd : decode c.code pc = .ok (.l2i, 1)) (hr : Steps p.tables e below (T.setTop (mkF m (pc + 1) Ls (.int (x.toInt32) :: S))) t) : Steps p.tables e below (T.setTop (mkF m pc Ls (.long x :: S))) t := XS.l2i X.here hx rfl hd rfl hr
theorem lneg (X : Stand p l e R s m args below meth c T locs cells slots) (hx : p.tables.exec = Jvm.exec) {x : Int64} (hd : decode c.code pc = .ok (.lneg, 1)) (hr : Steps p.tables e below (T.setTop (mkF m (pc + 1) Ls (.long (-x) :: S))) t) : Steps p.tables e below (T.setTop (mkF m pc Ls (.long x :: S))) t := XS.lneg X.here hx rfl hd rfl hr
theorem iinc (X : Stand p l e R s m args below meth c T locs cells slots) (hx : p.tables.exec = Jvm.exec) {k : Nat} {cst : Int} {x : Int32} (v : Int32) (Ls' : Array Slot) (hd : decode c.code pc = .ok (.iinc k cst, 3)) (hl : Ls[k]? = some (.val (.int x))) (hv : x + Int32.ofInt cst = v) (hl' : storeLocals Ls k (.int v) = some Ls') (hr : Steps p.tables e below (T.setTop (mkF m (pc + 3) Ls' S)) t) : Steps p.tables e below (T.setTop (mkF m pc Ls S)) t := XS.iinc X.here hx rfl hd hl (hv ▸ hl') hr
theorem dup (X : Stand p l e R s m args below meth c T locs cells slots) (hx : p.tables.exec = Jvm.exec) {v : Value} (hd : decode c.code pc = .ok (.dup, 1)) (hc : v.category = 1) (hr : Steps p.tables e below (T.setTop (mkF m (pc + 1) Ls (v :: v :: S))) t) : Steps p.tables e below (T.setTop (mkF m pc Ls (v :: S))) t := XS.dup X.here hx rfl hd rfl hc hr
theorem dupX1 (X : Stand p l e R s m args below meth c T locs cells slots) (hx : p.tables.exec = Jvm.exec) {v w : Value} (hd : decode c.code pc = .ok (.dup_x1, 1)) (hc : v.category = 1) (hc2 : w.category = 1) (hr : Steps p.tables e below (T.setTop (mkF m (pc + 1) Ls (v :: w :: v :: S))) t) : Steps p.tables e below (T.setTop (mkF m pc Ls (v :: w :: S))) t := XS.dupX1 X.here hx rfl hd rfl hc hc2 hr
theorem pop (X : Stand p l e R s m args below meth c T locs cells slots) (hx : p.tables.exec = Jvm.exec) {v : Value} (hd : decode c.code pc = .ok (.pop, 1)) (hc : v.category = 1) (hr : Steps p.tables e below (T.setTop (mkF m (pc + 1) Ls S)) t) : Steps p.tables e below (T.setTop (mkF m pc Ls (v :: S))) t := XS.pop X.here hx rfl hd rfl hc hr
theorem goto (X : Stand p l e R s m args below meth c T locs cells slots) (hx : p.tables.exec = Jvm.exec) {o : Int} (pc' : Nat) (hd : decode c.code pc = .ok (.goto o, 3)) (ho : 0 ≤ (pc : Int) + o) (hp : ((pc : Int) + o).toNat = pc') (hr : Steps p.tables e below (T.setTop (mkF m pc' Ls S)) t) : Steps p.tables e below (T.setTop (mkF m pc Ls S)) t := XS.goto X.here hx rfl rfl hd ho hp hr
theorem ifYes (X : Stand p l e R s m args below meth c T locs cells slots) (hx : p.tables.exec = Jvm.exec) {cd : ClassFile.Cond} {o : Int} {x : Int32} (pc' : Nat) (hd : decode c.code pc = .ok (.ifCond cd o, 3)) (hc : ifCond.holds cd x = true) (ho : 0 ≤ (pc : Int) + o) (hp : ((pc : Int) + o).toNat = pc') (hr : Steps p.tables e below (T.setTop (mkF m pc' Ls S)) t) : Steps p.tables e below (T.setTop (mkF m pc Ls (.int x :: S))) t := XS.ifYes X.here hx rfl rfl hd rfl hc ho hp hr
theorem ifNo (X : Stand p l e R s m args below meth c T locs cells slots) (hx : p.tables.exec = Jvm.exec) {cd : ClassFile.Cond} {o : Int} {x : Int32} (hd : decode c.code pc = .ok (.ifCond cd o, 3)) (hc : ifCond.holds cd x = false) (hr : Steps p.tables e below (T.setTop (mkF m (pc + 3) Ls S)) t) : Steps p.tables e below (T.setTop (mkF m pc Ls (.int x :: S))) t := XS.ifNo X.here hx rfl hd rfl hc hr
theorem icmpYes (X : Stand p l e R s m args below meth c T locs cells slots) (hx : p.tables.exec = Jvm.exec) {cd : ClassFile.Cond} {o : Int} {x y : Int32} (pc' : Nat) (hd : decode c.code pc = .ok (.if_icmp cd o, 3)) (hc : if_icmp.holds cd x y = true) (ho : 0 ≤ (pc : Int) + o) (hp : ((pc : Int) + o).toNat = pc') (hr : Steps p.tables e below (T.setTop (mkF m pc' Ls S)) t) : Steps p.tables e below (T.setTop (mkF m pc Ls (.int y :: .int x :: S))) t := XS.icmpYes X.here hx rfl rfl hd rfl hc ho hp hr
theorem icmpNo (X : Stand p l e R s m args below meth c T locs cells slots) (hx : p.tables.exec = Jvm.exec) {cd : ClassFile.Cond} {o : Int} {x y : Int32} (hd : decode c.code pc = .ok (.if_icmp cd o, 3)) (hc : if_icmp.holds cd x y = false) (hr : Steps p.tables e below (T.setTop (mkF m (pc + 3) Ls S)) t) : Steps p.tables e below (T.setTop (mkF m pc Ls (.int y :: .int x :: S))) t := XS.icmpNo X.here hx rfl hd rfl hc hr
theorem lcmp (X : Stand p l e R s m args below meth c T locs cells slots) (hx : p.tables.exec = Jvm.exec) {x y : Int64} (hd : decode c.code pc = .ok (.lcmp, 1)) (hr : Steps p.tables e below (T.setTop (mkF m (pc + 1) Ls (.int (lcmpW x y) :: S))) t) : Steps p.tables e below (T.setTop (mkF m pc Ls (.long y :: .long x :: S))) t := XS.lcmp X.here hx rfl hd rfl hr
theorem ifnullYes (X : Stand p l e R s m args below meth c T locs cells slots) (hx : p.tables.exec = Jvm.exec) {o : Int}  (pc' : Nat) (hd : decode c.code pc = .ok (.ifnull o, 3)) (ho : 0 ≤ (pc : Int) + o) (hp : ((pc : Int) + o).toNat = pc') (hr : Steps p.tables e below (T.setTop (mkF m pc' Ls S)) t) : Steps p.tables e below (T.setTop (mkF m pc Ls (.null :: S))) t := XS.ifnullYes X.here hx rfl rfl hd rfl ho hp hr
theorem ifnonnullYes (X : Stand p l e R s m args below meth c T locs cells slots) (hx : p.tables.exec = Jvm.exec) {o : Int} {b : Addr} (pc' : Nat) (hd : decode c.code pc = .ok (.ifnonnull o, 3)) (ho : 0 ≤ (pc : Int) + o) (hp : ((pc : Int) + o).toNat = pc') (hr : Steps p.tables e below (T.setTop (mkF m pc' Ls S)) t) : Steps p.tables e below (T.setTop (mkF m pc Ls (.ref b :: S))) t := XS.ifnonnullYes X.here hx rfl rfl hd rfl ho hp hr
theorem ifnullNo (X : Stand p l e R s m args below meth c T locs cells slots) (hx : p.tables.exec = Jvm.exec) {o : Int} {b : Addr} (hd : decode c.code pc = .ok (.ifnull o, 3)) (hr : Steps p.tables e below (T.setTop (mkF m (pc + 3) Ls S)) t) : Steps p.tables e below (T.setTop (mkF m pc Ls (.ref b :: S))) t := XS.ifnullNo X.here hx rfl hd rfl hr
theorem ifnonnullNo (X : Stand p l e R s m args below meth c T locs cells slots) (hx : p.tables.exec = Jvm.exec) {o : Int}  (hd : decode c.code pc = .ok (.ifnonnull o, 3)) (hr : Steps p.tables e below (T.setTop (mkF m (pc + 3) Ls S)) t) : Steps p.tables e below (T.setTop (mkF m pc Ls (.null :: S))) t := XS.ifnonnullNo X.here hx rfl hd rfl hr
theorem acmp (X : Stand p l e R s m args below meth c T locs cells slots) (hx : p.tables.exec = Jvm.exec) {cd : ACond} {x y : Value} {o : Int} (h1 : x.isRef = true) (h2 : y.isRef = true) (pc' : Nat) (same : Bool) (hd : decode c.code pc = .ok (.if_acmp cd o, 3)) (hq : decide (x = y) = same) (ho : 0 ≤ (pc : Int) + o) (hp : pc' = if acV cd same = true then ((pc : Int) + o).toNat else pc + 3) (hr : Steps p.tables e below (T.setTop (mkF m pc' Ls S)) t) : Steps p.tables e below (T.setTop (mkF m pc Ls (y :: x :: S))) t := Jvm.RoadKit.acmp (g := mkF m pc Ls (y :: x :: S)) X hx rfl h1 h2 (pc0 := pc) rfl hd rfl hq ho hp hr
theorem ldcI (X : Stand p l e R s m args below meth c T locs cells slots) (hx : p.tables.exec = Jvm.exec) {Z : State} {a0 : Array Value} {own : String} {index : Nat} (v : Int32) (hZ : Z.Warmed39 s.vm) (hown : s.vm.findClass own = some m.cls) (w : (Cond.constant own index v).before a0 Z = true) (hd : decode c.code pc = .ok (.ldc index, 2)) (hr : Steps p.tables e below (T.setTop (mkF m (pc + 2) Ls (.int v :: S))) t) : Steps p.tables e below (T.setTop (mkF m pc Ls S)) t := Jvm.Stand.ldcI (g := mkF m pc Ls S) X hx hown (mv hZ w) rfl hd hr
theorem ldc2J (X : Stand p l e R s m args below meth c T locs cells slots) (hx : p.tables.exec = Jvm.exec) {Z : State} {a0 : Array Value} {own : String} {index : Nat} (v : Int64) (hZ : Z.Warmed39 s.vm) (hown : s.vm.findClass own = some m.cls) (w : (Cond.constantLong own index v).before a0 Z = true) (hd : decode c.code pc = .ok (.ldc2_w index, 3)) (hr : Steps p.tables e below (T.setTop (mkF m (pc + 3) Ls (.long v :: S))) t) : Steps p.tables e below (T.setTop (mkF m pc Ls S)) t := Jvm.Stand.ldc2J (g := mkF m pc Ls S) X hx hown (mv hZ w) rfl hd hr
theorem iaload (X : Stand p l e R s m args below meth c T locs cells slots) (hx : p.tables.exec = Jvm.exec) {Z : State} {h : Heap} {a : Addr} {cl : Cell} {j : Int32} (v : Value) (hZ : Z.Warmed39 s.vm) (eT : T.heap = h) (A : Arr Z h a cl .int) (hin : ¬ (j < 0 ∨ cl.slots.size ≤ j.toNatClampNeg)) (hat : cl.slots[j.toNatClampNeg]? = some v) (hd : decode c.code pc = .ok (.iaload, 1)) (hr : Steps p.tables e below (T.setTop (mkF m (pc + 1) Ls (v :: S))) t) : Steps p.tables e below (T.setTop (mkF m pc Ls (.int j :: .ref a :: S))) t := X.iaload hx (j := j) (v := v) (by rw [eT]; exact A.1) (State.isArrayOf_alike hZ.alike A.2.1) A.2.2 hin hat (g := mkF m pc Ls (.int j :: .ref a :: S)) rfl rfl hd _ hr
theorem caload (X : Stand p l e R s m args below meth c T locs cells slots) (hx : p.tables.exec = Jvm.exec) {Z : State} {h : Heap} {a : Addr} {cl : Cell} {j : Int32} (v : Value) (hZ : Z.Warmed39 s.vm) (eT : T.heap = h) (A : Arr Z h a cl .char) (hin : ¬ (j < 0 ∨ cl.slots.size ≤ j.toNatClampNeg)) (hat : cl.slots[j.toNatClampNeg]? = some v) (hd : decode c.code pc = .ok (.caload, 1)) (hr : Steps p.tables e below (T.setTop (mkF m (pc + 1) Ls (v :: S))) t) : Steps p.tables e below (T.setTop (mkF m pc Ls (.int j :: .ref a :: S))) t := X.caload hx (j := j) (v := v) (by rw [eT]; exact A.1) (State.isArrayOf_alike hZ.alike A.2.1) A.2.2 hin hat (g := mkF m pc Ls (.int j :: .ref a :: S)) rfl rfl hd _ hr
theorem baload (X : Stand p l e R s m args below meth c T locs cells slots) (hx : p.tables.exec = Jvm.exec) {Z : State} {h : Heap} {a : Addr} {cl : Cell} {j : Int32} (v : Value) (hZ : Z.Warmed39 s.vm) (eT : T.heap = h) (A : Arr Z h a cl .byte) (hin : ¬ (j < 0 ∨ cl.slots.size ≤ j.toNatClampNeg)) (hat : cl.slots[j.toNatClampNeg]? = some v) (hd : decode c.code pc = .ok (.baload, 1)) (hr : Steps p.tables e below (T.setTop (mkF m (pc + 1) Ls (v :: S))) t) : Steps p.tables e below (T.setTop (mkF m pc Ls (.int j :: .ref a :: S))) t := X.baloadBytes hx (j := j) (v := v) (by rw [eT]; exact A.1) (State.isArrayOf_alike hZ.alike A.2.1) A.2.2 hin hat (g := mkF m pc Ls (.int j :: .ref a :: S)) rfl rfl hd _ hr
theorem laload (X : Stand p l e R s m args below meth c T locs cells slots) (hx : p.tables.exec = Jvm.exec) {Z : State} {h : Heap} {a : Addr} {cl : Cell} {j : Int32} (v : Value) (hZ : Z.Warmed39 s.vm) (eT : T.heap = h) (A : Arr Z h a cl .long) (hin : ¬ (j < 0 ∨ cl.slots.size ≤ j.toNatClampNeg)) (hat : cl.slots[j.toNatClampNeg]? = some v) (hd : decode c.code pc = .ok (.laload, 1)) (hr : Steps p.tables e below (T.setTop (mkF m (pc + 1) Ls (v :: S))) t) : Steps p.tables e below (T.setTop (mkF m pc Ls (.int j :: .ref a :: S))) t := X.laload hx (j := j) (v := v) (by rw [eT]; exact A.1) (State.isArrayOf_alike hZ.alike A.2.1) A.2.2 hin hat (g := mkF m pc Ls (.int j :: .ref a :: S)) rfl rfl hd _ hr
theorem arraylength (X : Stand p l e R s m args below meth c T locs cells slots) (hx : p.tables.exec = Jvm.exec) {Z : State} {h : Heap} {a : Addr} {cl : Cell} {ty : FieldType} (n : Int32) (hZ : Z.Warmed39 s.vm) (eT : T.heap = h) (A : Arr Z h a cl ty) (hn : cl.slots.size.toInt32 = n) (hd : decode c.code pc = .ok (.arraylength, 1)) (hr : Steps p.tables e below (T.setTop (mkF m (pc + 1) Ls (.int n :: S))) t) : Steps p.tables e below (T.setTop (mkF m pc Ls (.ref a :: S))) t := X.arraylength hx (cell := cl) (by rw [eT]; exact A.1) (State.isArrayOf_alike hZ.alike A.2.1) (g := mkF m pc Ls (.ref a :: S)) rfl rfl hd _ (hn ▸ hr)
end Steps
/-! what a body is said to leave -/
def Con (l : Launch) (Z : State) (y : MethodName) (bytes : ByteArray) (maxL : Nat) (ret : Option FieldType) (rm : Room) (as' : Array Value) (h0 : Heap) (Q : Option Value → Heap → List Loc → Prop) : Prop :=
  ∀ ws : List Jvm.Cond, MetFree l y (head1 (Jvm.Cond.code y bytes maxL ret :: ws) rm) (fun a U => a = as' ∧ Z.Warmed39 U.vm ∧ U.heap = h0) (fun _ _ _ _ _ => True) (fun _ U o U' => ∃ v L, o = .returned v ∧ Q v U'.heap L ∧ FrameEnd U o U' L rm.cells rm.slots)
/-- it returns v and nothing is written or made -/
abbrev Pure (v : Value) (h0 : Heap) (v' : Option Value) (h : Heap) (L : List Loc) : Prop := v' = some v ∧ L = [] ∧ h = h0
/-- what the law leaves -/
abbrev Law1 (h0 : Heap) (v : Option Value) (h : Heap) (L : List Loc) : Prop := v = some (.int 1) ∧ Fr h0.size L
theorem Con.mono {l : Launch} {Z : State} {y : MethodName} {bytes : ByteArray} {maxL : Nat} {ret : Option FieldType} {rm : Room} {as' : Array Value} {h0 : Heap} {Q Q' : Option Value → Heap → List Loc → Prop} (hM : Con l Z y bytes maxL ret rm as' h0 Q) (hQ : ∀ v h L, Q v h L → Q' v h L) : Con l Z y bytes maxL ret rm as' h0 Q' := by
  intro ws p e ha hc hk s m args below hf happ hP hK
  obtain ⟨n, o, h1, h2, h3, v, L, h4, h5, h6⟩ := hM ws p e ha hc hk s m args below hf happ hP hK
  exact ⟨n, o, h1, h2, h3, v, L, h4, hQ _ _ _ h5, h6⟩
theorem Con.law {l : Launch} {Z : State} {y : MethodName} {bytes : ByteArray} {maxL : Nat} {ret : Option FieldType} {rm : Room} {as' : Array Value} {h0 : Heap} {v : Value} (hM : Con l Z y bytes maxL ret rm as' h0 (Pure v h0)) (e : v = .int 1) : Con l Z y bytes maxL ret rm as' h0 (Law1 h0) :=
  hM.mono fun _ _ _ ⟨h1, h2, _⟩ => ⟨by rw [h1, e], by rw [h2]; exact Fr.nil _⟩
/-- where a walk must come to -/
abbrev Fin (p : Program) (e : Env) (below : List Frame) (B0 s : State) (C D : Nat) (Q : Option Value → Heap → List Loc → Prop) : Prop := ∃ s₂ o, Steps p.tables e below B0 s₂ ∧ s₂.status = .running ∧ Ended s₂ below o ∧ ∃ v L, o = .returned v ∧ Q v s₂.heap L ∧ FrameEnd s o s₂ L C D
section Ends
variable {p : Program} {l : Launch} {e : Env} {R : Room} {s : State} {m : MethodId} {args : Array Value} {below : List Frame} {meth : Method} {c : Code} {T B0 : State} {locs : List Loc} {cells slots C D : Nat} {pc : Nat} {Ls : Array Slot} {rest : List Value} {Q : Option Value → Heap → List Loc → Prop}
theorem retI (X : Stand p l e R s m args below meth c T locs cells slots) (hx : p.tables.exec = Jvm.exec) {z : Int32} (hret : meth.sig.returnType = some .int) (hd : decode c.code pc = .ok (.ireturn, 1)) {fs : List Frame}
    (hl : ∀ (f : JFrame) (acts : List Action), f.method = m → f.locked = none → f.entered = [] → (doReturn e (T.setTop f) acts (some (.int z))).1 = T.setFrames fs) : Steps p.tables e below (T.setTop (mkF m pc Ls (.int z :: rest))) (T.setFrames fs) :=
  retOut X hx hret rfl (Or.inl ⟨rfl, Or.inl rfl, z, rfl⟩) hd hl
theorem finI (X : Stand p l e R s m args below meth c T locs cells slots) (hx : p.tables.exec = Jvm.exec) (hlk : meth.locks = false) (hret : meth.sig.returnType = some .int) {z : Int32} (hd : decode c.code pc = .ok (.ireturn, 1))
    (K : ∀ t, Steps p.tables e below (T.setTop (mkF m pc Ls (.int z :: rest))) t → Steps p.tables e below B0 t) (hC : cells ≤ C) (hD : slots ≤ D) (hQ : Q (some (.int z)) T.heap locs) :
    Fin p e below B0 s C D Q := by
  obtain ⟨fs, hr, hrun, hended, hW, hsame⟩ := X.leave (v := some (.int z)) (fun h => by rw [hret] at h; cases h) hlk
  exact ⟨_, _, K _ (retI X hx hret hd hr), hrun, hended, _, _, rfl, hQ, ⟨_, rfl⟩, hW, hsame.mono hC hD⟩
theorem finN (X : Stand p l e R s m args below meth c T locs cells slots) (hx : p.tables.exec = Jvm.exec) (hlk : meth.locks = false) {ty : FieldType} (hret : meth.sig.returnType = some ty) (ht : ty = .boolean ∨ ty = .byte ∨ ty = .char ∨ ty = .short) {z : Int32} (hd : decode c.code pc = .ok (.ireturn, 1))
    (K : ∀ t, Steps p.tables e below (T.setTop (mkF m pc Ls (.int z :: rest))) t → Steps p.tables e below B0 t) (hC : cells ≤ C) (hD : slots ≤ D) (hQ : Q (some (.int (nar ty z))) T.heap locs) :
    Fin p e below B0 s C D Q := by
  obtain ⟨fs, hr, hrun, hended, hW, hsame⟩ := X.leave (v := some (.int (nar ty z))) (fun h => by rw [hret] at h; cases h) hlk
  exact ⟨_, _, K _ (retN X hx hret ht hd hr), hrun, hended, _, _, rfl, hQ, ⟨_, rfl⟩, hW, hsame.mono hC hD⟩
theorem finJ (X : Stand p l e R s m args below meth c T locs cells slots) (hx : p.tables.exec = Jvm.exec) (hlk : meth.locks = false) (hret : meth.sig.returnType = some .long) {z : Int64} (hd : decode c.code pc = .ok (.lreturn, 1))
    (K : ∀ t, Steps p.tables e below (T.setTop (mkF m pc Ls (.long z :: rest))) t → Steps p.tables e below B0 t) (hC : cells ≤ C) (hD : slots ≤ D) (hQ : Q (some (.long z)) T.heap locs) :
    Fin p e below B0 s C D Q := by
  obtain ⟨fs, hr, hrun, hended, hW, hsame⟩ := X.leave (v := some (.long z)) (fun h => by rw [hret] at h; cases h) hlk
  exact ⟨_, _, K _ (retOut X hx hret rfl (Or.inr (Or.inl ⟨rfl, rfl, z, rfl⟩)) hd hr), hrun, hended, _, _, rfl, hQ, ⟨_, rfl⟩, hW, hsame.mono hC hD⟩
theorem narrow_ref {ty : FieldType} {v : Value} (ht : ty.isReference = true) (hv : v.isRef = true) : narrow ty v = v := by
  cases ty <;> first | (cases ht; done) | (cases v <;> first | rfl | (cases hv; done))
theorem finA (X : Stand p l e R s m args below meth c T locs cells slots) (hx : p.tables.exec = Jvm.exec) (hlk : meth.locks = false) {ty : FieldType} (hret : meth.sig.returnType = some ty) (ht : ty.isReference = true) {v : Value} (hv : v.isRef = true) (hd : decode c.code pc = .ok (.areturn, 1))
    (K : ∀ t, Steps p.tables e below (T.setTop (mkF m pc Ls (v :: rest))) t → Steps p.tables e below B0 t) (hC : cells ≤ C) (hD : slots ≤ D) (hQ : Q (some v) T.heap locs) :
    Fin p e below B0 s C D Q := by
  obtain ⟨fs, hr, hrun, hended, hW, hsame⟩ := X.leave (v := some v) (fun h => by rw [hret] at h; cases h) hlk
  exact ⟨_, _, K _ (retOut X hx hret (narrow_ref ht hv) (Or.inr (Or.inr (Or.inr (Or.inr ⟨rfl, ht, hv⟩)))) hd hr), hrun, hended, _, _, rfl, hQ, ⟨_, rfl⟩, hW, hsame.mono hC hD⟩
theorem finV (X : Stand p l e R s m args below meth c T locs cells slots) (hx : p.tables.exec = Jvm.exec) (hlk : meth.locks = false) (hret : meth.sig.returnType = none) (hd : decode c.code pc = .ok (.return_, 1)) 
    (K : ∀ t, Steps p.tables e below (T.setTop (mkF m pc Ls [])) t → Steps p.tables e below B0 t) (hC : cells ≤ C) (hD : slots ≤ D) (hQ : Q none T.heap locs) :
    Fin p e below B0 s C D Q := by
  obtain ⟨fs, hr, hrun, hended, hW, hsame⟩ := X.leave (v := none) (fun _ => rfl) hlk
  exact ⟨_, _, K _ (X.returnOut hx hret hd hr), hrun, hended, _, _, rfl, hQ, ⟨_, rfl⟩, hW, hsame.mono hC hD⟩
end Ends
section Calls
variable {p : Program} {l : Launch} {e : Env} {R : Room} {s : State} {m : MethodId} {args : Array Value} {below : List Frame} {meth : Method} {c : Code} {T : State} {locs : List Loc} {cells slots : Nat} {pc : Nat} {Ls : Array Slot} {Z : State} {a0 : Array Value} {h : Heap}
/-- a static call by its contract -/
theorem callC (X : Stand p l e R s m args below meth c T locs cells slots) (hx : p.tables.exec = Jvm.exec) (hZ : Z.Warmed39 s.vm) (eT : T.heap = h) {own : String} {index : Nat} {y : MethodName} {bytes : ByteArray} {maxL : Nat} {ret : Option FieldType} {rm : Room} {Q : Option Value → Heap → List Loc → Prop}
    (argsL rest : List Value) (hM : Con l Z y bytes maxL ret rm argsL.toArray h Q) (hown : s.vm.findClass own = some m.cls) (w1 : (Cond.methodLink own index y).before a0 Z = true) (w2 : (Cond.static y).before a0 Z = true) (w3 : (Cond.initialized y.cls).before a0 Z = true) (w4 : (Cond.code y bytes maxL ret).before a0 Z = true)
    (hy : y.cls ≠ "java/lang/invoke/MethodHandle" ∧ y.cls ≠ "java/lang/invoke/VarHandle") (W : Nat) (hf : rm.frames + 1 ≤ R.frames) (hl : W + (maxL + 11) + rm.locals ≤ R.locals) (hcR : cells + rm.cells ≤ R.cells) (hsR : slots + rm.slots ≤ R.slots) (hsz : Ls.size = c.maxLocals)
    {S : List Value} (hlen : ∀ sig, parseMethodDescriptor y.desc = some sig → argsL.length = sig.parameters.length) (hS : S = argsL.reverse ++ rest) (hW : (rest.map fun v => v.category).sum ≤ W) (hd : decode c.code pc = .ok (.invokestatic index, 3)) :
    ∃ (T' : State) (v : Option Value) (L : List Loc), Stand p l e R s m args below meth c T' (locs ++ L) (cells + rm.cells) (slots + rm.slots) ∧ Q v T'.heap L ∧ ∀ t, Steps p.tables e below (T'.setTop (mkF m (pc + 3) Ls (v.toList ++ rest))) t → Steps p.tables e below (T.setTop (mkF m pc Ls S)) t := by
  obtain ⟨v, _, ⟨T', L', k', n'⟩, -, X', ⟨L, hQ, l', y', z'⟩, st⟩ := Jvm.LawKit.callS X hx (y := y) hown (mvT hZ w1) (mvT hZ w2) (mvT hZ w3) (mvT hZ w4) hy (backOf (W := W) (hM []) hZ w4 w3 hf hl) (g := mkF m pc Ls S) rfl hsz (argsL := argsL) (rest := rest) hlen hS (by show 2 * 0 + _ ≤ _; rw [Nat.mul_zero, Nat.zero_add]; exact hW) hd (fun _ _ => ⟨rfl, eT, hcR, hsR⟩)
  dsimp only [Pt.U, Pt.locs, Pt.cells, Pt.slots] at X' l' y' z' st hQ
  subst l' y' z'
  exact ⟨T', v, L, X', hQ, st⟩
theorem callP (X : Stand p l e R s m args below meth c T locs cells slots) (hx : p.tables.exec = Jvm.exec) (hZ : Z.Warmed39 s.vm) (eT : T.heap = h) {own : String} {index : Nat} {y : MethodName} {bytes : ByteArray} {maxL : Nat} {ret : Option FieldType} {rm : Room} {v : Value}
    (argsL rest : List Value) (hM : Con l Z y bytes maxL ret rm argsL.toArray h (Pure v h)) (hown : s.vm.findClass own = some m.cls) (w1 : (Cond.methodLink own index y).before a0 Z = true) (w2 : (Cond.static y).before a0 Z = true) (w3 : (Cond.initialized y.cls).before a0 Z = true) (w4 : (Cond.code y bytes maxL ret).before a0 Z = true)
    (hy : y.cls ≠ "java/lang/invoke/MethodHandle" ∧ y.cls ≠ "java/lang/invoke/VarHandle") (W : Nat) (hrc : rm.cells = 0) (hrs : rm.slots = 0) (hf : rm.frames + 1 ≤ R.frames) (hl : W + (maxL + 11) + rm.locals ≤ R.locals) (hcR : cells ≤ R.cells) (hsR : slots ≤ R.slots) (hsz : Ls.size = c.maxLocals)
    {S : List Value} (hlen : ∀ sig, parseMethodDescriptor y.desc = some sig → argsL.length = sig.parameters.length) (hS : S = argsL.reverse ++ rest) (hW : (rest.map fun v => v.category).sum ≤ W) (hd : decode c.code pc = .ok (.invokestatic index, 3)) :
    ∃ T' : State, Stand p l e R s m args below meth c T' locs cells slots ∧ T'.heap = h ∧ ∀ t, Steps p.tables e below (T'.setTop (mkF m (pc + 3) Ls (v :: rest))) t → Steps p.tables e below (T.setTop (mkF m pc Ls S)) t := by
  obtain ⟨T', v', L, X', ⟨rfl, rfl, hh⟩, st⟩ := callC X hx hZ eT argsL rest hM hown w1 w2 w3 w4 hy W hf hl (by rw [hrc]; exact hcR) (by rw [hrs]; exact hsR) hsz hlen hS hW hd
  rw [hrc, hrs, List.append_nil] at X'
  exact ⟨T', X', hh, st⟩
/-- a virtual call by its contract -/
theorem callV (X : Stand p l e R s m args below meth c T locs cells slots) (hx : p.tables.exec = Jvm.exec) (hZ : Z.Warmed39 s.vm) (eT : T.heap = h) {own K : String} {index : Nat} {y : MethodName} {bytes : ByteArray} {maxL : Nat} {ret : Option FieldType} {rm : Room} {Q : Option Value → Heap → List Loc → Prop}
    (b : Addr) (argsL rest : List Value) (hM : Con l Z y bytes maxL ret rm (Value.ref b :: argsL).toArray h Q) (hown : s.vm.findClass own = some m.cls) (E : Exa Z h b K) (w1 : (Cond.methodLink own index y).before a0 Z = true) (w2 : (Cond.declares y).before a0 Z = true) (w3 : (Cond.selects K y y).before a0 Z = true) (w4 : (Cond.instanceMethod y).before a0 Z = true) (w5 : (Cond.initialized y.cls).before a0 Z = true) (w6 : (Cond.code y bytes maxL ret).before a0 Z = true)
    (hy : y.cls ≠ "java/lang/invoke/MethodHandle" ∧ y.cls ≠ "java/lang/invoke/VarHandle") (W : Nat) (hf : rm.frames + 1 ≤ R.frames) (hl : W + (maxL + 11) + rm.locals ≤ R.locals) (hcR : cells + rm.cells ≤ R.cells) (hsR : slots + rm.slots ≤ R.slots) (hsz : Ls.size = c.maxLocals)
    {S : List Value} (hlen : ∀ sig, parseMethodDescriptor y.desc = some sig → argsL.length = sig.parameters.length) (hS : S = argsL.reverse ++ .ref b :: rest) (hW : (rest.map fun v => v.category).sum ≤ W) (hd : decode c.code pc = .ok (.invokevirtual index, 3)) :
    ∃ (T' : State) (v : Option Value) (L : List Loc), Stand p l e R s m args below meth c T' (locs ++ L) (cells + rm.cells) (slots + rm.slots) ∧ Q v T'.heap L ∧ ∀ t, Steps p.tables e below (T'.setTop (mkF m (pc + 3) Ls (v.toList ++ rest))) t → Steps p.tables e below (T.setTop (mkF m pc Ls S)) t := by
  obtain ⟨cB, kB, q1, q2, q3⟩ := isOf hZ eT E
  obtain ⟨v, _, ⟨T', L', k', n'⟩, -, X', ⟨L, hQ, l', y', z'⟩, st⟩ := X.virtualBack hx (y := y) (z := y) hown (mvT hZ w1) (mvT hZ w2) (notFace_of_selects (args := #[]) (mvT hZ w3)) (mvT hZ w3) (mvT hZ w4) hy (backOf (W := W) (hM []) hZ w6 w5 hf hl) q1 q3 (g := mkF m pc Ls S) rfl hsz (Steps.refl _) (argsL := argsL) (rest := rest) hlen hS (by show 2 * 0 + _ ≤ _; rw [Nat.mul_zero, Nat.zero_add]; exact hW) hd (fun _ _ => ⟨rfl, eT, hcR, hsR⟩)
  dsimp only [Pt.U, Pt.locs, Pt.cells, Pt.slots] at X' l' y' z' st hQ
  subst l' y' z'
  exact ⟨T', v, L, X', hQ, fun t k => st.trans k⟩
theorem callVP (X : Stand p l e R s m args below meth c T locs cells slots) (hx : p.tables.exec = Jvm.exec) (hZ : Z.Warmed39 s.vm) (eT : T.heap = h) {own K : String} {index : Nat} {y : MethodName} {bytes : ByteArray} {maxL : Nat} {ret : Option FieldType} {rm : Room} {v : Value}
    (b : Addr) (argsL rest : List Value) (hM : Con l Z y bytes maxL ret rm (Value.ref b :: argsL).toArray h (Pure v h)) (hown : s.vm.findClass own = some m.cls) (E : Exa Z h b K) (w1 : (Cond.methodLink own index y).before a0 Z = true) (w2 : (Cond.declares y).before a0 Z = true) (w3 : (Cond.selects K y y).before a0 Z = true) (w4 : (Cond.instanceMethod y).before a0 Z = true) (w5 : (Cond.initialized y.cls).before a0 Z = true) (w6 : (Cond.code y bytes maxL ret).before a0 Z = true)
    (hy : y.cls ≠ "java/lang/invoke/MethodHandle" ∧ y.cls ≠ "java/lang/invoke/VarHandle") (W : Nat) (hrc : rm.cells = 0) (hrs : rm.slots = 0) (hf : rm.frames + 1 ≤ R.frames) (hl : W + (maxL + 11) + rm.locals ≤ R.locals) (hcR : cells ≤ R.cells) (hsR : slots ≤ R.slots) (hsz : Ls.size = c.maxLocals)
    {S : List Value} (hlen : ∀ sig, parseMethodDescriptor y.desc = some sig → argsL.length = sig.parameters.length) (hS : S = argsL.reverse ++ .ref b :: rest) (hW : (rest.map fun v => v.category).sum ≤ W) (hd : decode c.code pc = .ok (.invokevirtual index, 3)) :
    ∃ T' : State, Stand p l e R s m args below meth c T' locs cells slots ∧ T'.heap = h ∧ ∀ t, Steps p.tables e below (T'.setTop (mkF m (pc + 3) Ls (v :: rest))) t → Steps p.tables e below (T.setTop (mkF m pc Ls S)) t := by
  obtain ⟨T', v', L, X', ⟨rfl, rfl, hh⟩, st⟩ := callV X hx hZ eT b argsL rest hM hown E w1 w2 w3 w4 w5 w6 hy W hf hl (by rw [hrc]; exact hcR) (by rw [hrs]; exact hsR) hsz hlen hS hW hd
  rw [hrc, hrs, List.append_nil] at X'
  exact ⟨T', X', hh, st⟩
theorem getS (X : Stand p l e R s m args below meth c T locs cells slots) (hx : p.tables.exec = Jvm.exec) (hZ : Z.Warmed39 s.vm) (eT : T.heap = h) {own R0 O n d host : String} {index : Nat} (hown : s.vm.findClass own = some m.cls) (w : (Cond.fieldLink own index R0 n d).before a0 Z = true ∨ (Cond.fieldLinkNest own index R0 n d host).before a0 Z = true) (via : Via Z R0 O n d) {v : Value} (F : Sta Z h O n d v) {S : List Value} (hd : decode c.code pc = .ok (.getstatic index, 3)) :
    ∃ T' : State, Stand p l e R s m args below meth c T' locs cells slots ∧ T'.heap = h ∧ ∀ t, Steps p.tables e below (T'.setTop (mkF m (pc + 3) Ls (v :: S))) t → Steps p.tables e below (T.setTop (mkF m pc Ls S)) t := getS2 (g := mkF m pc Ls S) X hx hZ hown w via eT F rfl hd
theorem getF (X : Stand p l e R s m args below meth c T locs cells slots) (hx : p.tables.exec = Jvm.exec) (hZ : Z.Warmed39 s.vm) (eT : T.heap = h) {own R0 O n d host : String} {index : Nat} (hown : s.vm.findClass own = some m.cls) (w : (Cond.fieldLink own index R0 n d).before a0 Z = true ∨ (Cond.fieldLinkNest own index R0 n d host).before a0 Z = true) (via : Via Z R0 O n d) {a : Addr} {v : Value} (F : Fld Z h a O n d v) {S : List Value} (hd : decode c.code pc = .ok (.getfield index, 3)) :
    ∃ T' : State, Stand p l e R s m args below meth c T' locs cells slots ∧ T'.heap = h ∧ ∀ t, Steps p.tables e below (T'.setTop (mkF m (pc + 3) Ls (v :: S))) t → Steps p.tables e below (T.setTop (mkF m pc Ls (.ref a :: S))) t := Jvm.RoadKit.getF (g := mkF m pc Ls (.ref a :: S)) X hx hZ hown w via eT F rfl rfl hd
end Calls
end Jvm.Own
namespace Jvm.Own
open Sem ClassFile Op Lib Jvm.Stand Jvm.Free Jvm.LawKit Jvm.RoadKit
theorem Ext.refl (h : Heap) : Ext h h := ⟨Nat.le_refl _, fun _ _ q => q⟩
theorem Ext.trans {h0 h h' : Heap} (A : Ext h0 h) (B : Ext h h') : Ext h0 h' := ⟨Nat.le_trans A.1 B.1, fun a c q => B.2 a c (A.2 a c q)⟩
theorem Ext.keep {h0 h h' : Heap} {ws : List Addr} (A : Ext h0 h) (K : Keep h h' ws) (q : ∀ x ∈ ws, h0.size ≤ x) : Ext h0 h' := ⟨Nat.le_trans A.1 K.1, fun a c r => K.2.1 a c (A.2 a c r) fun z => absurd (Array.getElem?_eq_some_iff.mp r).1 (Nat.not_lt.mpr (q a z))⟩
theorem Ext.wr {h0 h h' : Heap} {a : Addr} {sl : Nat} {v : Value} (A : Ext h0 h) (W : Wr h h' a sl v) (q : h0.size ≤ a) : Ext h0 h' := Ext.keep A (Keep.of_wr W) fun x hx => by cases List.mem_singleton.mp hx; exact q
theorem sta_keep {Z : State} {h h' : Heap} {C n d K : String} {v : Value} {x : Addr} (F : Sta Z h C n d v) (Kp : Keep h h' [x]) (E : Exa Z h x K) : Sta Z h' C n d v := by
  obtain ⟨cf, i, k, f, st, cell, h1, h2, h3, h4, h5, h6, h7⟩ := F
  refine ⟨cf, i, k, f, st, cell, h1, h2, h3, h4, Kp.2.1 st cell h5 fun hm => ?_, h6, h7⟩
  cases List.mem_singleton.mp hm
  obtain ⟨c2, _, g1, -, -, g4, -⟩ := E
  cases h5.symm.trans g1
  rw [h6] at g4; cases g4
/-- an array of ints (chars, bytes, booleans) by its list -/
def CA (Z : State) (h : Heap) (a : Addr) (ty : FieldType) (xs : List Int32) : Prop := ∃ k, Arv Z h a k ty (Int32.ofNat xs.length) (xs.map Value.int) (.int 0) ∧ xs.length < 2 ^ 31
theorem CA.ext {Z : State} {h h' : Heap} {a : Addr} {ty : FieldType} {xs : List Int32} (F : CA Z h a ty xs) (E : Ext h h') : CA Z h' a ty xs := by obtain ⟨k, V, q⟩ := F; exact ⟨k, V.ext E, q⟩
theorem CA.keep {Z : State} {h h' : Heap} {a : Addr} {ty : FieldType} {xs : List Int32} {ws : List Addr} (F : CA Z h a ty xs) (K : Keep h h' ws) (n : a ∉ ws) : CA Z h' a ty xs := by obtain ⟨k, V, q⟩ := F; exact ⟨k, V.keep K n, q⟩
theorem CA.other {Z : State} {h h' : Heap} {a b : Addr} {ty : FieldType} {xs : List Int32} {sl : Nat} {v : Value} (F : CA Z h b ty xs) (W : Wr h h' a sl v) (n : b ≠ a) : CA Z h' b ty xs := by obtain ⟨k, V, q⟩ := F; exact ⟨k, V.other W n, q⟩
theorem CA.lt {Z : State} {h : Heap} {a : Addr} {ty : FieldType} {xs : List Int32} (F : CA Z h a ty xs) : a < h.size := by obtain ⟨k, V, q⟩ := F; exact V.lt
theorem ofNat_clamp {n : Nat} (h : n < 2 ^ 31) : (Int32.ofNat n).toNatClampNeg = n := by
  show (Int32.ofNat n).toInt.toNat = n
  rw [Int32.toInt_ofNat_small h]; rfl
theorem CA.len {Z : State} {h : Heap} {a : Addr} {ty : FieldType} {xs : List Int32} (F : CA Z h a ty xs) : ∃ cl, Arr Z h a cl ty ∧ cl.slots.size.toInt32 = Int32.ofNat xs.length := by
  obtain ⟨k, ⟨cl, A, -, S, M, -⟩, q⟩ := F
  exact ⟨cl, A, len_of S M⟩
theorem CA.get {Z : State} {h : Heap} {a : Addr} {ty : FieldType} {xs : List Int32} (F : CA Z h a ty xs) {j : Int32} (h0 : ¬ j < 0) (h1 : j.toNatClampNeg < xs.length) : ∃ cl, Arr Z h a cl ty ∧ ¬ (j < 0 ∨ cl.slots.size ≤ j.toNatClampNeg) ∧ cl.slots[j.toNatClampNeg]? = some (.int (xs.getD j.toNatClampNeg 0)) := by
  obtain ⟨k, ⟨cl, A, -, S, M, H, -⟩, q⟩ := F
  rw [ofNat_clamp q] at S
  refine ⟨cl, A, fun z => z.elim h0 fun z => by omega, ?_⟩
  rw [H _ (by omega)]
  simp [h1]
/-- an array of longs by its list -/
def LA (Z : State) (h : Heap) (a : Addr) (xs : List Int64) : Prop := ∃ k, Arv Z h a k .long (Int32.ofNat xs.length) (xs.map Value.long) (.long 0) ∧ xs.length < 2 ^ 31
theorem LA.ext {Z : State} {h h' : Heap} {a : Addr} {xs : List Int64} (F : LA Z h a xs) (E : Ext h h') : LA Z h' a xs := by obtain ⟨k, V, q⟩ := F; exact ⟨k, V.ext E, q⟩
theorem LA.keep {Z : State} {h h' : Heap} {a : Addr} {xs : List Int64} {ws : List Addr} (F : LA Z h a xs) (K : Keep h h' ws) (n : a ∉ ws) : LA Z h' a xs := by obtain ⟨k, V, q⟩ := F; exact ⟨k, V.keep K n, q⟩
theorem LA.other {Z : State} {h h' : Heap} {a b : Addr} {xs : List Int64} {sl : Nat} {v : Value} (F : LA Z h b xs) (W : Wr h h' a sl v) (n : b ≠ a) : LA Z h' b xs := by obtain ⟨k, V, q⟩ := F; exact ⟨k, V.other W n, q⟩
theorem LA.lt {Z : State} {h : Heap} {a : Addr} {xs : List Int64} (F : LA Z h a xs) : a < h.size := by obtain ⟨k, V, q⟩ := F; exact V.lt
section Heap
variable {p : Program} {l : Launch} {e : Env} {R : Room} {s : State} {m : MethodId} {args : Array Value} {below : List Frame} {meth : Method} {c : Code} {T : State} {locs : List Loc} {cells slots : Nat} {pc : Nat} {Ls : Array Slot} {S : List Value} {Z : State} {a0 : Array Value} {h : Heap}
theorem newO (X : Stand p l e R s m args below meth c T locs cells slots) (hx : p.tables.exec = Jvm.exec) (hZ : Z.Warmed39 s.vm) (eT : T.heap = h) {own C : String} {index n : Nat} (hown : s.vm.findClass own = some m.cls) (w : (Cond.classLink own index C).before a0 Z = true) (wi : (Cond.instantiable C n).before a0 Z = true) (wz : (Cond.initialized C).before a0 Z = true)
    (hd : decode c.code pc = .ok (.new index, 3)) (hc : cells + 1 ≤ R.cells) (hl : slots + n ≤ R.slots) :
    ∃ (T' : State) (h' : Heap) (b : Addr), Stand p l e R s m args below meth c T' locs (cells + 1) (slots + n) ∧ T'.heap = h' ∧ Ext h h' ∧ b = h.size ∧ Exa Z h' b C ∧ (∀ {O nm d : String} {ty : FieldType}, Laid Z a0 C O nm d → parseFieldDescriptor d = some ty → Fld Z h' b O nm d (defaultValue ty)) ∧
      ∀ t, Steps p.tables e below (T'.setTop (mkF m (pc + 3) Ls (.ref b :: S))) t → Steps p.tables e below (T.setTop (mkF m pc Ls S)) t := by
  obtain ⟨T', h', X', e', E, A, D, -, st⟩ := Jvm.RoadKit.newO X hx hZ hown w wi wz eT (g := mkF m pc Ls S) rfl hd hc hl
  exact ⟨T', h', _, X', e', E, rfl, A, D, st⟩
theorem newA (X : Stand p l e R s m args below meth c T locs cells slots) (hx : p.tables.exec = Jvm.exec) (hZ : Z.Warmed39 s.vm) (eT : T.heap = h) {aty : ArrayType} (ty : FieldType) (hty : newarray.typeOf aty = ty) (hdv : defaultValue ty = .int 0) (w : (Cond.arrayClass ty).before a0 Z = true)
    {z : Int32} (n : Nat) (hz : z = Int32.ofNat n) (hn : n < 2 ^ 26) (hd : decode c.code pc = .ok (.newarray aty, 2)) (hc : cells + 1 ≤ R.cells) (hl : slots + n ≤ R.slots) :
    ∃ (T' : State) (h' : Heap) (b : Addr), Stand p l e R s m args below meth c T' locs (cells + 1) (slots + n) ∧ T'.heap = h' ∧ Ext h h' ∧ b = h.size ∧ CA Z h' b ty (List.replicate n 0) ∧
      ∀ t, Steps p.tables e below (T'.setTop (mkF m (pc + 2) Ls (.ref b :: S))) t → Steps p.tables e below (T.setTop (mkF m pc Ls (.int z :: S))) t := by
  subst hty hz
  have q0 : ¬ Int32.ofNat n < 0 := Int32.ofNat_not_neg (show n < 2 ^ 31 by omega)
  have q1 : (Int32.ofNat n).toNatClampNeg = n := ofNat_clamp (by omega)
  obtain ⟨T', h', k, X', e', E, A, st⟩ := newP X hx hZ w eT (g := mkF m pc Ls (.int (Int32.ofNat n) :: S)) rfl hd rfl q0 (cap := n) (Nat.le_of_eq q1) (by omega) hc hl
  refine ⟨T', h', _, X', e', E, rfl, ⟨k, ?_, by simp; omega⟩, st⟩
  have V := Arv.new A q0
  rw [hdv] at V
  rw [List.length_replicate, List.map_replicate]
  exact V.pad (pad_rep [] (.int 0) n)
theorem stc (X : Stand p l e R s m args below meth c T locs cells slots) (hx : p.tables.exec = Jvm.exec) (hZ : Z.Warmed39 s.vm) (eT : T.heap = h) {a : Addr} {xs : List Int32} (F : CA Z h a .char xs) {j x : Int32} (i : Nat) (hi : j.toNatClampNeg = i) (h0 : ¬ j < 0) (h1 : i < xs.length) (hd : decode c.code pc = .ok (.castore, 1)) :
    ∃ (T' : State) (h' : Heap) (L' : List Loc), Stand p l e R s m args below meth c T' L' cells slots ∧ T'.heap = h' ∧ (∀ n0, Fr n0 locs → n0 ≤ a → Fr n0 L') ∧ Wr h h' a i (.int (nar .char x)) ∧ CA Z h' a .char (xs.set i (nar .char x)) ∧
      ∀ t, Steps p.tables e below (T'.setTop (mkF m (pc + 1) Ls S)) t → Steps p.tables e below (T.setTop (mkF m pc Ls (.int x :: .int j :: .ref a :: S))) t := by
  subst hi
  obtain ⟨k, ⟨cl, A, q1, Sz, M, H, G⟩, q⟩ := F
  have Sz' := Sz
  rw [ofNat_clamp q] at Sz'
  obtain ⟨T', h', X', e', W, st⟩ := stC X hx hZ eT A (j := j) (x := x) (fun z => z.elim h0 fun z => by omega) (g := mkF m pc Ls (.int x :: .int j :: .ref a :: S)) rfl rfl hd
  refine ⟨T', h', _, X', e', fun n0 N g => Fr.snoc X' N g, W, ⟨k, ?_, by simpa using q⟩, st⟩
  have V := Arv.set A q1 Sz M H G (fits_nar_char x) W j.toNatClampNeg rfl (by simpa using h1)
  rw [List.length_set, List.map_set]
  exact V
theorem stb (X : Stand p l e R s m args below meth c T locs cells slots) (hx : p.tables.exec = Jvm.exec) (hZ : Z.Warmed39 s.vm) (eT : T.heap = h) {a : Addr} {xs : List Int32} (F : CA Z h a .byte xs) {j x : Int32} (i : Nat) (hi : j.toNatClampNeg = i) (h0 : ¬ j < 0) (h1 : i < xs.length) (hd : decode c.code pc = .ok (.bastore, 1)) :
    ∃ (T' : State) (h' : Heap) (L' : List Loc), Stand p l e R s m args below meth c T' L' cells slots ∧ T'.heap = h' ∧ (∀ n0, Fr n0 locs → n0 ≤ a → Fr n0 L') ∧ Wr h h' a i (.int (nar .byte x)) ∧ CA Z h' a .byte (xs.set i (nar .byte x)) ∧
      ∀ t, Steps p.tables e below (T'.setTop (mkF m (pc + 1) Ls S)) t → Steps p.tables e below (T.setTop (mkF m pc Ls (.int x :: .int j :: .ref a :: S))) t := by
  subst hi
  obtain ⟨k, ⟨cl, A, q1, Sz, M, H, G⟩, q⟩ := F
  have Sz' := Sz
  rw [ofNat_clamp q] at Sz'
  obtain ⟨T', h', X', e', W, st⟩ := stB X hx hZ eT A (j := j) (x := x) (fun z => z.elim h0 fun z => by omega) (g := mkF m pc Ls (.int x :: .int j :: .ref a :: S)) rfl rfl hd
  refine ⟨T', h', _, X', e', fun n0 N g => Fr.snoc X' N g, W, ⟨k, ?_, by simpa using q⟩, st⟩
  have V := Arv.set A q1 Sz M H G (fits_nar_byte x) W j.toNatClampNeg rfl (by simpa using h1)
  rw [List.length_set, List.map_set]
  exact V
theorem newL (X : Stand p l e R s m args below meth c T locs cells slots) (hx : p.tables.exec = Jvm.exec) (hZ : Z.Warmed39 s.vm) (eT : T.heap = h) (w : (Cond.arrayClass .long).before a0 Z = true)
    {z : Int32} (n : Nat) (hz : z = Int32.ofNat n) (hn : n < 2 ^ 26) (hd : decode c.code pc = .ok (.newarray .long, 2)) (hc : cells + 1 ≤ R.cells) (hl : slots + n ≤ R.slots) :
    ∃ (T' : State) (h' : Heap) (b : Addr), Stand p l e R s m args below meth c T' locs (cells + 1) (slots + n) ∧ T'.heap = h' ∧ Ext h h' ∧ b = h.size ∧ LA Z h' b (List.replicate n 0) ∧
      ∀ t, Steps p.tables e below (T'.setTop (mkF m (pc + 2) Ls (.ref b :: S))) t → Steps p.tables e below (T.setTop (mkF m pc Ls (.int z :: S))) t := by
  subst hz
  have q0 : ¬ Int32.ofNat n < 0 := Int32.ofNat_not_neg (show n < 2 ^ 31 by omega)
  have q1 : (Int32.ofNat n).toNatClampNeg = n := ofNat_clamp (by omega)
  obtain ⟨T', h', k, X', e', E, A, st⟩ := newP X hx hZ (aty := .long) w eT (g := mkF m pc Ls (.int (Int32.ofNat n) :: S)) rfl hd rfl q0 (cap := n) (Nat.le_of_eq q1) (by omega) hc hl
  refine ⟨T', h', _, X', e', E, rfl, ⟨k, ?_, by simp; omega⟩, st⟩
  have V := Arv.new A q0
  rw [List.length_replicate, List.map_replicate]
  exact V.pad (pad_rep [] (.long 0) n)
theorem stl (X : Stand p l e R s m args below meth c T locs cells slots) (hx : p.tables.exec = Jvm.exec) (hZ : Z.Warmed39 s.vm) (eT : T.heap = h) {a : Addr} {xs : List Int64} (F : LA Z h a xs) {j : Int32} {x : Int64} (i : Nat) (hi : j.toNatClampNeg = i) (h0 : ¬ j < 0) (h1 : i < xs.length) (hd : decode c.code pc = .ok (.lastore, 1)) :
    ∃ (T' : State) (h' : Heap) (L' : List Loc), Stand p l e R s m args below meth c T' L' cells slots ∧ T'.heap = h' ∧ (∀ n0, Fr n0 locs → n0 ≤ a → Fr n0 L') ∧ Wr h h' a i (.long x) ∧ LA Z h' a (xs.set i x) ∧
      ∀ t, Steps p.tables e below (T'.setTop (mkF m (pc + 1) Ls S)) t → Steps p.tables e below (T.setTop (mkF m pc Ls (.long x :: .int j :: .ref a :: S))) t := by
  subst hi
  obtain ⟨k, ⟨cl, A, q1, Sz, M, H, G⟩, q⟩ := F
  have Sz' := Sz
  rw [ofNat_clamp q] at Sz'
  obtain ⟨T', h', X', e', W, st⟩ := stJ X hx hZ eT A (j := j) (x := x) (fun z => z.elim h0 fun z => by omega) (g := mkF m pc Ls (.long x :: .int j :: .ref a :: S)) rfl rfl hd
  refine ⟨T', h', _, X', e', fun n0 N g => Fr.snoc X' N g, W, ⟨k, ?_, by simpa using q⟩, st⟩
  have V := Arv.set A q1 Sz M H G rfl W j.toNatClampNeg rfl (by simpa using h1)
  rw [List.length_set, List.map_set]
  exact V
theorem lal (X : Stand p l e R s m args below meth c T locs cells slots) (hx : p.tables.exec = Jvm.exec) (hZ : Z.Warmed39 s.vm) (eT : T.heap = h) {a : Addr} {xs : List Int64} (F : LA Z h a xs) {j : Int32} (v : Int64) (h0 : ¬ j < 0) (h1 : j.toNatClampNeg < xs.length) (hv : xs.getD j.toNatClampNeg 0 = v) (hd : decode c.code pc = .ok (.laload, 1)) {t : State}
    (hr : Steps p.tables e below (T.setTop (mkF m (pc + 1) Ls (.long v :: S))) t) : Steps p.tables e below (T.setTop (mkF m pc Ls (.int j :: .ref a :: S))) t := by
  obtain ⟨k, ⟨cl, A, -, Sz, M, H, -⟩, q⟩ := F
  rw [ofNat_clamp q] at Sz
  have e1 := H j.toNatClampNeg (by omega)
  have e2 : (xs.map Value.long).getD j.toNatClampNeg (.long 0) = .long v := by rw [← hv]; simp [h1]
  rw [e2] at e1
  exact laload X hx (.long v) hZ eT A (fun z => z.elim h0 fun z => by omega) e1 hd hr
theorem cal (X : Stand p l e R s m args below meth c T locs cells slots) (hx : p.tables.exec = Jvm.exec) (hZ : Z.Warmed39 s.vm) (eT : T.heap = h) {a : Addr} {xs : List Int32} (F : CA Z h a .char xs) {j : Int32} (v : Int32) (h0 : ¬ j < 0) (h1 : j.toNatClampNeg < xs.length) (hv : xs.getD j.toNatClampNeg 0 = v) (hd : decode c.code pc = .ok (.caload, 1)) {t : State}
    (hr : Steps p.tables e below (T.setTop (mkF m (pc + 1) Ls (.int v :: S))) t) : Steps p.tables e below (T.setTop (mkF m pc Ls (.int j :: .ref a :: S))) t := by
  obtain ⟨cl, A, q1, q2⟩ := F.get h0 h1
  rw [hv] at q2
  exact caload X hx (.int v) hZ eT A q1 q2 hd hr
theorem putF (X : Stand p l e R s m args below meth c T locs cells slots) (hx : p.tables.exec = Jvm.exec) (hZ : Z.Warmed39 s.vm) (eT : T.heap = h) {own R0 O n d host C : String} {index kk : Nat} {ty : FieldType} (hown : s.vm.findClass own = some m.cls) (w : (Cond.fieldLink own index R0 n d).before a0 Z = true ∨ (Cond.fieldLinkNest own index R0 n d host).before a0 Z = true) (via : Via Z R0 O n d)
    {a : Addr} {v old : Value} (F : Fld Z h a O n d old) (E : Exa Z h a C) (L : (Cond.lays C O n d).before a0 Z = true ∨ ((Cond.laysFinal C O n d).before a0 Z = true ∧ own = O ∧ meth.name = "<init>")) (wi : (Cond.instantiable C kk).before a0 Z = true)
    (hty : parseFieldDescriptor d = some ty) (hn : narrow ty v = v) (hf : fits ty v = true) (hd : decode c.code pc = .ok (.putfield index, 3)) :
    ∃ (T' : State) (h' : Heap) (L' : List Loc), Stand p l e R s m args below meth c T' L' cells slots ∧ T'.heap = h' ∧ (∀ n0, Fr n0 locs → n0 ≤ a → Fr n0 L') ∧ Wr h h' a (Jvm.RoadKit.slotOf Z O n d) v ∧ Fld Z h' a O n d v ∧
      ∀ t, Steps p.tables e below (T'.setTop (mkF m (pc + 3) Ls S)) t → Steps p.tables e below (T.setTop (mkF m pc Ls (v :: .ref a :: S))) t := by
  obtain ⟨T', h', X', e', W, st⟩ := Jvm.RoadKit.putF X hx hZ hown w via eT F E L wi hty hn hf (g := mkF m pc Ls (v :: .ref a :: S)) rfl rfl hd
  exact ⟨T', h', _, X', e', fun n0 N g => Fr.snoc X' N g, W, F.same W, st⟩
theorem initO (X : Stand p l e R s m args below meth c T locs cells slots) (hx : p.tables.exec = Jvm.exec) (hZ : Z.Warmed39 s.vm) (eT : T.heap = h) {own : String} {idx : Nat} (hown : s.vm.findClass own = some m.cls) (w1 : (Cond.methodLink own idx Lib.objectInit).before a0 Z = true) (w2 : (Cond.instanceMethod Lib.objectInit).before a0 Z = true)
    (w3 : (Cond.code Lib.objectInit ⟨#[0xb1]⟩ 1 none).before a0 Z = true) (hsz : Ls.size = c.maxLocals) {a : Addr} (hd : decode c.code pc = .ok (.invokespecial idx, 3)) (hf : 1 ≤ R.frames) (W : Nat) (hW : (S.map fun v => v.category).sum ≤ W) (hl : W + 12 ≤ R.locals) :
    ∃ T' : State, Stand p l e R s m args below meth c T' locs cells slots ∧ T'.heap = h ∧ ∀ t, Steps p.tables e below (T'.setTop (mkF m (pc + 3) Ls S)) t → Steps p.tables e below (T.setTop (mkF m pc Ls (.ref a :: S))) t :=
  Jvm.RoadKit.initO X hx hZ hown w1 w2 w3 eT (g := mkF m pc Ls (.ref a :: S)) rfl hsz rfl hd hf (W := W) (by show 2 * 0 + _ ≤ _; rw [Nat.mul_zero, Nat.zero_add]; exact hW) hl
/-- a constructor by its payer -/
theorem callIB (X : Stand p l e R s m args below meth c T locs cells slots) (hx : p.tables.exec = Jvm.exec) (hZ : Z.Warmed39 s.vm) (eT : T.heap = h) {own : String} {index : Nat} {y : MethodName} {bytes : ByteArray} {maxL : Nat} {rc rs : Nat} {Q : Option Value → Heap → List Loc → Prop} (hy1 : y.name = "<init>")
    (a : Addr) (argsL rest : List Value) (W : Nat) (hB : Back l R p e below s args y 3 W (fun A b => b = (Value.ref a :: argsL).toArray ∧ A.U.heap = h ∧ A.cells + rc ≤ R.cells ∧ A.slots + rs ≤ R.slots) (fun A _ v B => ∃ L, Q v B.U.heap L ∧ B.locs = A.locs ++ L ∧ B.cells = A.cells + rc ∧ B.slots = A.slots + rs))
    (hown : s.vm.findClass own = some m.cls) (w1 : (Cond.methodLink own index y).before a0 Z = true) (w2 : (Cond.instanceMethod y).before a0 Z = true) (w4 : (Cond.code y bytes maxL none).before a0 Z = true)
    (hy : y.cls ≠ "java/lang/invoke/MethodHandle" ∧ y.cls ≠ "java/lang/invoke/VarHandle") (hcR : cells + rc ≤ R.cells) (hsR : slots + rs ≤ R.slots) (hsz : Ls.size = c.maxLocals)
    {S : List Value} (hlen : ∀ sig, parseMethodDescriptor y.desc = some sig → argsL.length = sig.parameters.length) (hS : S = argsL.reverse ++ .ref a :: rest) (hW : (rest.map fun v => v.category).sum ≤ W) (hd : decode c.code pc = .ok (.invokespecial index, 3)) :
    ∃ (T' : State) (h' : Heap) (v : Option Value) (L M : List Loc), Stand p l e R s m args below meth c T' M (cells + rc) (slots + rs) ∧ T'.heap = h' ∧ (∀ n0, Fr n0 locs → Fr n0 L → Fr n0 M) ∧ Q v h' L ∧ ∀ t, Steps p.tables e below (T'.setTop (mkF m (pc + 3) Ls (v.toList ++ rest))) t → Steps p.tables e below (T.setTop (mkF m pc Ls S)) t := by
  obtain ⟨v, _, ⟨T', L', k', n'⟩, -, X', ⟨L, hQ, l', y', z'⟩, st⟩ := X.specialBack hx (y := y) hy1 hown (mvT hZ w1) (mvT hZ w2) (mvT hZ w4) hy hB (g := mkF m pc Ls S) rfl hsz (Steps.refl _) (a := a) (argsL := argsL) (rest := rest) hlen hS (by show 2 * 0 + _ ≤ _; rw [Nat.mul_zero, Nat.zero_add]; exact hW) hd (fun _ _ => ⟨rfl, eT, hcR, hsR⟩)
  dsimp only [Pt.U, Pt.locs, Pt.cells, Pt.slots] at X' l' y' z' st hQ
  subst l' y' z'
  exact ⟨T', _, v, L, _, X', rfl, fun n0 A B => Fr.app A B, hQ, fun t k => st.trans k⟩
theorem callI (X : Stand p l e R s m args below meth c T locs cells slots) (hx : p.tables.exec = Jvm.exec) (hZ : Z.Warmed39 s.vm) (eT : T.heap = h) {own : String} {index : Nat} {y : MethodName} {bytes : ByteArray} {maxL : Nat} {rm : Room} {Q : Option Value → Heap → List Loc → Prop} (hy1 : y.name = "<init>")
    (a : Addr) (argsL rest : List Value) (hM : Con l Z y bytes maxL none rm (Value.ref a :: argsL).toArray h Q)
    (hown : s.vm.findClass own = some m.cls) (w1 : (Cond.methodLink own index y).before a0 Z = true) (w2 : (Cond.instanceMethod y).before a0 Z = true) (w3 : (Cond.initialized y.cls).before a0 Z = true) (w4 : (Cond.code y bytes maxL none).before a0 Z = true)
    (hy : y.cls ≠ "java/lang/invoke/MethodHandle" ∧ y.cls ≠ "java/lang/invoke/VarHandle") (W : Nat) (hf : rm.frames + 1 ≤ R.frames) (hl : W + (maxL + 11) + rm.locals ≤ R.locals) (hcR : cells + rm.cells ≤ R.cells) (hsR : slots + rm.slots ≤ R.slots) (hsz : Ls.size = c.maxLocals)
    {S : List Value} (hlen : ∀ sig, parseMethodDescriptor y.desc = some sig → argsL.length = sig.parameters.length) (hS : S = argsL.reverse ++ .ref a :: rest) (hW : (rest.map fun v => v.category).sum ≤ W) (hd : decode c.code pc = .ok (.invokespecial index, 3)) :
    ∃ (T' : State) (h' : Heap) (v : Option Value) (L M : List Loc), Stand p l e R s m args below meth c T' M (cells + rm.cells) (slots + rm.slots) ∧ T'.heap = h' ∧ (∀ n0, Fr n0 locs → Fr n0 L → Fr n0 M) ∧ Q v h' L ∧ ∀ t, Steps p.tables e below (T'.setTop (mkF m (pc + 3) Ls (v.toList ++ rest))) t → Steps p.tables e below (T.setTop (mkF m pc Ls S)) t :=
  callIB X hx hZ eT hy1 a argsL rest W (backOf (W := W) (hM []) hZ w4 w3 hf hl) hown w1 w2 w4 hy hcR hsR hsz hlen hS hW hd
/-- a static call by its contract, the heap and the places named -/
theorem callH (X : Stand p l e R s m args below meth c T locs cells slots) (hx : p.tables.exec = Jvm.exec) (hZ : Z.Warmed39 s.vm) (eT : T.heap = h) {own : String} {index : Nat} {y : MethodName} {bytes : ByteArray} {maxL : Nat} {ret : Option FieldType} {rm : Room} {Q : Option Value → Heap → List Loc → Prop}
    (argsL rest : List Value) (hM : Con l Z y bytes maxL ret rm argsL.toArray h Q) (hown : s.vm.findClass own = some m.cls) (w1 : (Cond.methodLink own index y).before a0 Z = true) (w2 : (Cond.static y).before a0 Z = true) (w3 : (Cond.initialized y.cls).before a0 Z = true) (w4 : (Cond.code y bytes maxL ret).before a0 Z = true)
    (hy : y.cls ≠ "java/lang/invoke/MethodHandle" ∧ y.cls ≠ "java/lang/invoke/VarHandle") (W : Nat) (hf : rm.frames + 1 ≤ R.frames) (hl : W + (maxL + 11) + rm.locals ≤ R.locals) (hcR : cells + rm.cells ≤ R.cells) (hsR : slots + rm.slots ≤ R.slots) (hsz : Ls.size = c.maxLocals)
    {S : List Value} (hlen : ∀ sig, parseMethodDescriptor y.desc = some sig → argsL.length = sig.parameters.length) (hS : S = argsL.reverse ++ rest) (hW : (rest.map fun v => v.category).sum ≤ W) (hd : decode c.code pc = .ok (.invokestatic index, 3)) :
    ∃ (T' : State) (h' : Heap) (v : Option Value) (L M : List Loc), Stand p l e R s m args below meth c T' M (cells + rm.cells) (slots + rm.slots) ∧ T'.heap = h' ∧ (∀ n0, Fr n0 locs → Fr n0 L → Fr n0 M) ∧ Q v h' L ∧ ∀ t, Steps p.tables e below (T'.setTop (mkF m (pc + 3) Ls (v.toList ++ rest))) t → Steps p.tables e below (T.setTop (mkF m pc Ls S)) t := by
  obtain ⟨T', v, L, X', hQ, st⟩ := callC X hx hZ eT argsL rest hM hown w1 w2 w3 w4 hy W hf hl hcR hsR hsz hlen hS hW hd
  exact ⟨T', _, v, L, _, X', rfl, fun n0 A B => Fr.app A B, hQ, st⟩
/-- a virtual call by a payer that writes nothing -/
theorem callVB (X : Stand p l e R s m args below meth c T locs cells slots) (hx : p.tables.exec = Jvm.exec) (hZ : Z.Warmed39 s.vm) (eT : T.heap = h) {own K : String} {index : Nat} {y : MethodName} {Q : Option Value → Heap → List Loc → Prop}
    (b : Addr) (argsL rest : List Value) (W : Nat) (hB : Back l R p e below s args y 3 W (fun A a => a = (Value.ref b :: argsL).toArray ∧ A.U.heap = h ∧ A.cells + 0 ≤ R.cells ∧ A.slots + 0 ≤ R.slots) (fun A _ v B => ∃ L, Q v B.U.heap L ∧ B.locs = A.locs ++ L ∧ B.cells = A.cells + 0 ∧ B.slots = A.slots + 0)) (hQ0 : ∀ v h' L, Q v h' L → L = [] ∧ h' = h)
    (hown : s.vm.findClass own = some m.cls) (E : Exa Z h b K) (w1 : (Cond.methodLink own index y).before a0 Z = true) (w2 : (Cond.declares y).before a0 Z = true) (w3 : (Cond.selects K y y).before a0 Z = true) (w4 : (Cond.instanceMethod y).before a0 Z = true)
    (hy : y.cls ≠ "java/lang/invoke/MethodHandle" ∧ y.cls ≠ "java/lang/invoke/VarHandle") (hcR : cells ≤ R.cells) (hsR : slots ≤ R.slots) (hsz : Ls.size = c.maxLocals)
    {S : List Value} (hlen : ∀ sig, parseMethodDescriptor y.desc = some sig → argsL.length = sig.parameters.length) (hS : S = argsL.reverse ++ .ref b :: rest) (hW : (rest.map fun v => v.category).sum ≤ W) (hd : decode c.code pc = .ok (.invokevirtual index, 3)) :
    ∃ (T' : State) (v : Option Value), Stand p l e R s m args below meth c T' locs cells slots ∧ T'.heap = h ∧ Q v h [] ∧ ∀ t, Steps p.tables e below (T'.setTop (mkF m (pc + 3) Ls (v.toList ++ rest))) t → Steps p.tables e below (T.setTop (mkF m pc Ls S)) t := by
  obtain ⟨cB, kB, q1, q2, q3⟩ := isOf hZ eT E
  obtain ⟨v, _, ⟨T', L', k', n'⟩, -, X', ⟨L, hQ, l', y', z'⟩, st⟩ := X.virtualBack hx (y := y) (z := y) hown (mvT hZ w1) (mvT hZ w2) (notFace_of_selects (args := #[]) (mvT hZ w3)) (mvT hZ w3) (mvT hZ w4) hy hB q1 q3 (g := mkF m pc Ls S) rfl hsz (Steps.refl _) (argsL := argsL) (rest := rest) hlen hS (by show 2 * 0 + _ ≤ _; rw [Nat.mul_zero, Nat.zero_add]; exact hW) hd (fun _ _ => ⟨rfl, eT, hcR, hsR⟩)
  dsimp only [Pt.U, Pt.locs, Pt.cells, Pt.slots] at X' l' y' z' st hQ
  obtain ⟨rfl, hh⟩ := hQ0 _ _ _ hQ
  rw [List.append_nil] at l'
  subst l' y' z'
  rw [hh] at hQ
  exact ⟨T', v, X', hh, hQ, fun t k => st.trans k⟩
/-- a constructor that writes nothing -/
theorem callIP (X : Stand p l e R s m args below meth c T locs cells slots) (hx : p.tables.exec = Jvm.exec) (hZ : Z.Warmed39 s.vm) (eT : T.heap = h) {own : String} {index : Nat} {y : MethodName} {bytes : ByteArray} {maxL : Nat} {rm : Room} (hy1 : y.name = "<init>")
    (a : Addr) (argsL rest : List Value) (hM : Con l Z y bytes maxL none rm (Value.ref a :: argsL).toArray h (fun v h' L => v = none ∧ L = [] ∧ h' = h))
    (hown : s.vm.findClass own = some m.cls) (w1 : (Cond.methodLink own index y).before a0 Z = true) (w2 : (Cond.instanceMethod y).before a0 Z = true) (w3 : (Cond.initialized y.cls).before a0 Z = true) (w4 : (Cond.code y bytes maxL none).before a0 Z = true)
    (hy : y.cls ≠ "java/lang/invoke/MethodHandle" ∧ y.cls ≠ "java/lang/invoke/VarHandle") (W : Nat) (hrc : rm.cells = 0) (hrs : rm.slots = 0) (hf : rm.frames + 1 ≤ R.frames) (hl : W + (maxL + 11) + rm.locals ≤ R.locals) (hcR : cells ≤ R.cells) (hsR : slots ≤ R.slots) (hsz : Ls.size = c.maxLocals)
    {S : List Value} (hlen : ∀ sig, parseMethodDescriptor y.desc = some sig → argsL.length = sig.parameters.length) (hS : S = argsL.reverse ++ .ref a :: rest) (hW : (rest.map fun v => v.category).sum ≤ W) (hd : decode c.code pc = .ok (.invokespecial index, 3)) :
    ∃ T' : State, Stand p l e R s m args below meth c T' locs cells slots ∧ T'.heap = h ∧ ∀ t, Steps p.tables e below (T'.setTop (mkF m (pc + 3) Ls rest)) t → Steps p.tables e below (T.setTop (mkF m pc Ls S)) t := by
  obtain ⟨v, _, ⟨T', L', k', n'⟩, -, X', ⟨L, ⟨rfl, rfl, hh⟩, l', y', z'⟩, st⟩ := X.specialBack hx (y := y) hy1 hown (mvT hZ w1) (mvT hZ w2) (mvT hZ w4) hy (backOf (W := W) (Q := fun v h' L => v = none ∧ L = [] ∧ h' = h) (hM []) hZ w4 w3 hf hl) (g := mkF m pc Ls S) rfl hsz (Steps.refl _) (a := a) (argsL := argsL) (rest := rest) hlen hS (by show 2 * 0 + _ ≤ _; rw [Nat.mul_zero, Nat.zero_add]; exact hW) hd (fun _ _ => ⟨rfl, eT, by rw [hrc]; exact hcR, by rw [hrs]; exact hsR⟩)
  dsimp only [Pt.U, Pt.locs, Pt.cells, Pt.slots] at X' l' y' z' st hh
  rw [List.append_nil] at l'
  rw [hrc] at y'; rw [hrs] at z'
  subst l' y' z'
  exact ⟨T', X', hh, fun t k => st.trans k⟩
theorem aal (X : Stand p l e R s m args below meth c T locs cells slots) (hx : p.tables.exec = Jvm.exec) (hZ : Z.Warmed39 s.vm) (eT : T.heap = h) {a : Addr} {cl : Cell} {ty : FieldType} (A : Arr Z h a cl ty) (hty : ty.isReference = true) {j : Int32} (v : Value) (hin : ¬ (j < 0 ∨ cl.slots.size ≤ j.toNatClampNeg)) (hat : cl.slots[j.toNatClampNeg]? = some v) (hd : decode c.code pc = .ok (.aaload, 1)) {t : State}
    (hr : Steps p.tables e below (T.setTop (mkF m (pc + 1) Ls (v :: S))) t) : Steps p.tables e below (T.setTop (mkF m pc Ls (.int j :: .ref a :: S))) t :=
  X.aaload hx (j := j) (v := v) (by rw [eT]; exact A.1) (State.isArrayOf_alike hZ.alike A.2.1) hty A.2.2 hin hat (g := mkF m pc Ls (.int j :: .ref a :: S)) rfl rfl hd _ hr
theorem instY (X : Stand p l e R s m args below meth c T locs cells slots) (hx : p.tables.exec = Jvm.exec) (hZ : Z.Warmed39 s.vm) (eT : T.heap = h) {own K : String} {index : Nat} (hown : s.vm.findClass own = some m.cls) (w : (Cond.classLink own index K).before a0 Z = true) {a : Addr} (F : Ins Z h a K true) (hd : decode c.code pc = .ok (.instanceof index, 3)) :
    ∃ T' : State, Stand p l e R s m args below meth c T' locs cells slots ∧ T'.heap = h ∧ ∀ t, Steps p.tables e below (T'.setTop (mkF m (pc + 3) Ls (.int 1 :: S))) t → Steps p.tables e below (T.setTop (mkF m pc Ls (.ref a :: S))) t := Jvm.RoadKit.instY (g := mkF m pc Ls (.ref a :: S)) X hx hZ hown w eT F rfl rfl hd
theorem castY (X : Stand p l e R s m args below meth c T locs cells slots) (hx : p.tables.exec = Jvm.exec) (hZ : Z.Warmed39 s.vm) (eT : T.heap = h) {own K : String} {index : Nat} (hown : s.vm.findClass own = some m.cls) (w : (Cond.classLink own index K).before a0 Z = true) {a : Addr} (F : Ins Z h a K true) (hd : decode c.code pc = .ok (.checkcast index, 3)) :
    ∃ T' : State, Stand p l e R s m args below meth c T' locs cells slots ∧ T'.heap = h ∧ ∀ t, Steps p.tables e below (T'.setTop (mkF m (pc + 3) Ls (.ref a :: S))) t → Steps p.tables e below (T.setTop (mkF m pc Ls (.ref a :: S))) t := Jvm.RoadKit.castY (g := mkF m pc Ls (.ref a :: S)) X hx hZ hown w eT F rfl rfl hd
theorem instN (X : Stand p l e R s m args below meth c T locs cells slots) (hx : p.tables.exec = Jvm.exec) (hZ : Z.Warmed39 s.vm) (eT : T.heap = h) {own K C : String} {index : Nat} (hown : s.vm.findClass own = some m.cls) (w : (Cond.classLink own index K).before a0 Z = true) {a : Addr} (E : Exa Z h a C) {n : Nat} (wi : (Cond.instantiable K n).before a0 Z = true) {t : List String} (hw : ∀ d ∈ Cond.chainWords (C :: t), d.before a0 Z = true) (hn : K ∉ C :: t) (hd : decode c.code pc = .ok (.instanceof index, 3)) :
    ∃ T' : State, Stand p l e R s m args below meth c T' locs cells slots ∧ T'.heap = h ∧ ∀ t, Steps p.tables e below (T'.setTop (mkF m (pc + 3) Ls (.int 0 :: S))) t → Steps p.tables e below (T.setTop (mkF m pc Ls (.ref a :: S))) t := by
  obtain ⟨cy, ky, h1, h2, h3, h4, -⟩ := Cond.instantiable_spec wi
  obtain ⟨cell, k, e1, e2, -⟩ := id E
  have h5 : ky.isInterface = false := by cases hi : ky.isInterface <;> simp [hi] at h4 ⊢
  exact instNo (g := mkF m pc Ls (.ref a :: S)) X hx hZ hown w eT E ⟨_, _, e2, h1, Vm.notAssignable_of_chain e2 h1 h2 h3 h5 hw hn⟩ rfl rfl hd
theorem instNull (X : Stand p l e R s m args below meth c T locs cells slots) (hx : p.tables.exec = Jvm.exec) {index : Nat} {t : State} (hd : decode c.code pc = .ok (.instanceof index, 3)) (hr : Steps p.tables e below (T.setTop (mkF m (pc + 3) Ls (.int 0 :: S))) t) : Steps p.tables e below (T.setTop (mkF m pc Ls (.null :: S))) t := X.instanceofNull hx (g := mkF m pc Ls (.null :: S)) rfl rfl hd _ hr
theorem more (X : Stand p l e R s m args below meth c T locs cells slots) {C D : Nat} (hC : cells ≤ C) (hD : slots ≤ D) : Stand p l e R s m args below meth c T locs C D := X.more hC hD
end Heap
end Jvm.Own
namespace Jvm.Own
open Sem ClassFile Op Lib Bundle Jvm.Stand Jvm.Free Jvm.LawKit Jvm.RoadKit
def ConH (l : Launch) (Z : State) (EL : List (String × Nat)) (y : MethodName) (bytes : ByteArray) (maxL : Nat) (ret : Option FieldType) (rm : Room) (as' : Array Value) (h0 : Heap) (Q : Option Value → Heap → List Loc → Prop) : Prop :=
  ∀ ws : List Jvm.Cond, MetFree l y (head1 (Jvm.Cond.code y bytes maxL ret :: ws) rm) (fun a U => a = as' ∧ Z.Warmed39 U.vm ∧ U.heap = h0 ∧ CHv Z EL U.vm h0) (fun _ _ _ _ _ => True) (fun _ U o U' => ∃ v L, o = .returned v ∧ Q v U'.heap L ∧ CHr Z EL U.vm U.heap U'.vm U'.heap ∧ ReturnedEndW U o U' L rm.cells rm.slots)
abbrev FinH (p : Program) (e : Env) (below : List Frame) (B0 s Z : State) (EL : List (String × Nat)) (C D : Nat) (Q : Option Value → Heap → List Loc → Prop) : Prop := ∃ s₂ o, Steps p.tables e below B0 s₂ ∧ s₂.status = .running ∧ Ended s₂ below o ∧ ∃ v L, o = .returned v ∧ Q v s₂.heap L ∧ CHr Z EL s.vm s.heap s₂.vm s₂.heap ∧ ReturnedEndW s o s₂ L C D
/-- what a wide walk bears: the tables since the true start, the constants' invariant at the heap h -/
def Wd (s Z : State) (EL : List (String × Nat)) (own : String) (k : ClassId) (vm : Vm) (h : Heap) : Prop := (∃ n, s.Since vm n ∧ n ≤ h.size) ∧ Z.Warmed39 vm ∧ vm.findClass own = some k ∧ CHr Z EL s.vm s.heap vm h
section Wd
variable {s Z : State} {EL : List (String × Nat)} {own : String} {k : ClassId} {vm : Vm} {h h' : Heap}
theorem Wd.hZ (D : Wd s Z EL own k vm h) : Z.Warmed39 (s.setVm vm).vm := D.2.1
theorem Wd.hown (D : Wd s Z EL own k vm h) : (s.setVm vm).vm.findClass own = some k := D.2.2.1
theorem Wd.H (D : Wd s Z EL own k vm h) : CHv Z EL vm h := D.2.2.2.1
theorem Wd.start (hZ : Z.Warmed39 s.vm) (hown : s.vm.findClass own = some k) (H : CHv Z EL s.vm s.heap) : Wd s Z EL own k s.vm s.heap := ⟨⟨0, (State.WarmedH.refl s).since 0, Nat.zero_le _⟩, hZ, hown, CHr.refl H⟩
theorem Wd.on (D : Wd s Z EL own k vm h) (A : CHr Z EL vm h vm h') : Wd s Z EL own k vm h' := by
  obtain ⟨⟨n, d1, d2⟩, d3, d4, d5⟩ := D
  exact ⟨⟨n, d1, Nat.le_trans d2 A.2.1⟩, d3, d4, d5.trans A⟩
theorem Wd.ext (D : Wd s Z EL own k vm h) (E : Ext h h') : Wd s Z EL own k vm h' := D.on (CHr.ext E D.H)
theorem Wd.wr {a : Addr} {sl : Nat} {v : Value} (D : Wd s Z EL own k vm h) (W : Wr h h' a sl v) (S : Safe Z EL vm h a) : Wd s Z EL own k vm h' := D.on (CHr.wr W S D.H)
theorem Wd.keep {ws : List Addr} (D : Wd s Z EL own k vm h) (K : Keep h h' ws) (S : ∀ x ∈ ws, Safe Z EL vm h x) : Wd s Z EL own k vm h' := D.on (CHr.keep K S D.H)
end Wd
/-- a String whose value is null is no booked one -/
theorem safe_null {Z : State} {EL : List (String × Nat)} {vm : Vm} {h : Heap} {x : Addr} (hal : Z.vm.Alike vm) (E : Exa Z h x "java/lang/String") (F : Fld Z h x "java/lang/String" "value" "[B" .null) : Safe Z EL vm h x := fun B => by
  obtain ⟨p, hp, u, a, hb, q, hqa, FS, hy⟩ := B
  obtain ⟨cS, ⟨⟨s1, s2, s3, ⟨cv, kv, iv, s4, s4'⟩, ⟨cc, kc, ic, s5, s5'⟩, s6, s7, s8, s9, s10, s11, s12, s13, s14, s15, s16⟩, hfS, hcS⟩, ⟨kS, k1, k2, k3⟩, hB, hbyt⟩ := FS
  obtain ⟨cell, cf, k, i, f, f1, f2, f3, f4, f5, f6, f7⟩ := F
  rcases hy with rfl | rfl
  · have e1 : cell = q.sC := Option.some.inj (f1.symm.trans s1)
    subst e1
    obtain ⟨kv', z4⟩ := ff_back (U := Wst Z vm h) hal s4
    cases z4.symm.trans f2
    cases s8.symm.trans f7
  · have e1 : cell = q.SA := Option.some.inj (f1.symm.trans s10)
    obtain ⟨cE, kE, g1, g2, g3, g4, g5⟩ := E
    have e2 : cE = q.SA := Option.some.inj (g1.symm.trans s10)
    subst e2
    have hBZ : Z.vm.findClass "[B" = some q.SA.cls := by rw [← hal.findClass]; exact hB
    obtain ⟨ka, ha1, ha2⟩ := Vm.findClass_spec g2
    obtain ⟨kb, hb1, hb2⟩ := Vm.findClass_spec hBZ
    cases ha1.symm.trans hb1
    exact absurd (ha2.symm.trans hb2) (by decide)
theorem CA.safe {Z : State} {EL : List (String × Nat)} {vm : Vm} {h : Heap} {a : Addr} {ty : FieldType} {xs : List Int32} (hal : Z.vm.Alike vm) (F : CA Z h a ty xs) (ht : ty ≠ .byte) : Safe Z EL vm h a := by obtain ⟨k, V, -⟩ := F; exact Safe.arv hal V ht
section WEnds
variable {p : Program} {l : Launch} {e : Env} {R : Room} {s : State} {m : MethodId} {args : Array Value} {below : List Frame} {meth : Method} {c : Code} {T : State} {locs : List Loc} {cells slots : Nat} {pc : Nat} {Ls : Array Slot} {Z : State} {a0 : Array Value} {h : Heap} {vm0 : Vm} {EL : List (String × Nat)} {own : String} {B0 : State} {C D : Nat} {rest : List Value} {Q : Option Value → Heap → List Loc → Prop} {k : ClassId}
theorem endW (X : Stand p l e R (s.setVm vm0) m args below meth c T locs cells slots) (hEL : EW Z a0 EL) (eT : T.heap = h) (W : Wd s Z EL own k vm0 h) {v : Option Value} {fs : List Frame} (hW : (s.setVm vm0).WarmedH (T.setFrames fs).vm) (hs : (s.setVm vm0).sameButNew ({ T.setFrames fs with vm := (s.setVm vm0).vm } : State) locs cells slots) (hC : cells ≤ C) (hD : slots ≤ D) :
    CHr Z EL s.vm s.heap (T.setFrames fs).vm (T.setFrames fs).heap ∧ ReturnedEndW s (.returned v) (T.setFrames fs) locs C D := by
  obtain ⟨⟨n, d1, d2⟩, d3, d4, d5⟩ := W
  subst eT
  have q := d1.ended (U := T.setFrames fs) hW d2 hs
  exact ⟨d5.trans (show CHr Z EL vm0 T.heap T.vm T.heap from CHv.at X d3 hEL d5.1), ⟨_, rfl⟩, q.1, q.2.1, q.2.2.mono hC hD⟩
theorem finHN (X : Stand p l e R (s.setVm vm0) m args below meth c T locs cells slots) (hx : p.tables.exec = Jvm.exec) (hEL : EW Z a0 EL) (eT : T.heap = h) (W : Wd s Z EL own k vm0 h) (hlk : meth.locks = false) {ty : FieldType} (hret : meth.sig.returnType = some ty) (ht : ty = .boolean ∨ ty = .byte ∨ ty = .char ∨ ty = .short) {z : Int32} (hd : decode c.code pc = .ok (.ireturn, 1))
    (K : ∀ t, Steps p.tables e below (T.setTop (mkF m pc Ls (.int z :: rest))) t → Steps p.tables e below B0 t) (hC : cells ≤ C) (hD : slots ≤ D) (hQ : Q (some (.int (nar ty z))) T.heap locs) : FinH p e below B0 s Z EL C D Q := by
  obtain ⟨fs, hr, hrun, hended, hW, hsame⟩ := X.leave (v := some (.int (nar ty z))) (fun h => by rw [hret] at h; cases h) hlk
  obtain ⟨r1, r2⟩ := endW X hEL eT W (v := some (.int (nar ty z))) hW hsame hC hD
  exact ⟨_, _, K _ (retN X hx hret ht hd hr), hrun, hended, _, _, rfl, hQ, r1, r2⟩
theorem finHI (X : Stand p l e R (s.setVm vm0) m args below meth c T locs cells slots) (hx : p.tables.exec = Jvm.exec) (hEL : EW Z a0 EL) (eT : T.heap = h) (W : Wd s Z EL own k vm0 h) (hlk : meth.locks = false) (hret : meth.sig.returnType = some .int) {z : Int32} (hd : decode c.code pc = .ok (.ireturn, 1))
    (K : ∀ t, Steps p.tables e below (T.setTop (mkF m pc Ls (.int z :: rest))) t → Steps p.tables e below B0 t) (hC : cells ≤ C) (hD : slots ≤ D) (hQ : Q (some (.int z)) T.heap locs) : FinH p e below B0 s Z EL C D Q := by
  obtain ⟨fs, hr, hrun, hended, hW, hsame⟩ := X.leave (v := some (.int z)) (fun h => by rw [hret] at h; cases h) hlk
  obtain ⟨r1, r2⟩ := endW X hEL eT W (v := some (.int z)) hW hsame hC hD
  exact ⟨_, _, K _ (retI X hx hret hd hr), hrun, hended, _, _, rfl, hQ, r1, r2⟩
theorem finHJ (X : Stand p l e R (s.setVm vm0) m args below meth c T locs cells slots) (hx : p.tables.exec = Jvm.exec) (hEL : EW Z a0 EL) (eT : T.heap = h) (W : Wd s Z EL own k vm0 h) (hlk : meth.locks = false) (hret : meth.sig.returnType = some .long) {z : Int64} (hd : decode c.code pc = .ok (.lreturn, 1))
    (K : ∀ t, Steps p.tables e below (T.setTop (mkF m pc Ls (.long z :: rest))) t → Steps p.tables e below B0 t) (hC : cells ≤ C) (hD : slots ≤ D) (hQ : Q (some (.long z)) T.heap locs) : FinH p e below B0 s Z EL C D Q := by
  obtain ⟨fs, hr, hrun, hended, hW, hsame⟩ := X.leave (v := some (.long z)) (fun h => by rw [hret] at h; cases h) hlk
  obtain ⟨r1, r2⟩ := endW X hEL eT W (v := some (.long z)) hW hsame hC hD
  exact ⟨_, _, K _ (retOut X hx hret rfl (Or.inr (Or.inl ⟨rfl, rfl, z, rfl⟩)) hd hr), hrun, hended, _, _, rfl, hQ, r1, r2⟩
theorem finHA (X : Stand p l e R (s.setVm vm0) m args below meth c T locs cells slots) (hx : p.tables.exec = Jvm.exec) (hEL : EW Z a0 EL) (eT : T.heap = h) (W : Wd s Z EL own k vm0 h) (hlk : meth.locks = false) {ty : FieldType} (hret : meth.sig.returnType = some ty) (ht : ty.isReference = true) {v : Value} (hv : v.isRef = true) (hd : decode c.code pc = .ok (.areturn, 1))
    (K : ∀ t, Steps p.tables e below (T.setTop (mkF m pc Ls (v :: rest))) t → Steps p.tables e below B0 t) (hC : cells ≤ C) (hD : slots ≤ D) (hQ : Q (some v) T.heap locs) : FinH p e below B0 s Z EL C D Q := by
  obtain ⟨fs, hr, hrun, hended, hW, hsame⟩ := X.leave (v := some v) (fun h => by rw [hret] at h; cases h) hlk
  obtain ⟨r1, r2⟩ := endW X hEL eT W (v := some v) hW hsame hC hD
  exact ⟨_, _, K _ (retOut X hx hret (narrow_ref ht hv) (Or.inr (Or.inr (Or.inr (Or.inr ⟨rfl, ht, hv⟩)))) hd hr), hrun, hended, _, _, rfl, hQ, r1, r2⟩
theorem finHV (X : Stand p l e R (s.setVm vm0) m args below meth c T locs cells slots) (hx : p.tables.exec = Jvm.exec) (hEL : EW Z a0 EL) (eT : T.heap = h) (W : Wd s Z EL own k vm0 h) (hlk : meth.locks = false) (hret : meth.sig.returnType = none) (hd : decode c.code pc = .ok (.return_, 1))
    (K : ∀ t, Steps p.tables e below (T.setTop (mkF m pc Ls ([]))) t → Steps p.tables e below B0 t) (hC : cells ≤ C) (hD : slots ≤ D) (hQ : Q (none) T.heap locs) : FinH p e below B0 s Z EL C D Q := by
  obtain ⟨fs, hr, hrun, hended, hW, hsame⟩ := X.leave (v := none) (fun _ => rfl) hlk
  obtain ⟨r1, r2⟩ := endW X hEL eT W (v := none) hW hsame hC hD
  exact ⟨_, _, K _ (X.returnOut hx hret hd hr), hrun, hended, _, _, rfl, hQ, r1, r2⟩
end WEnds
section WCalls
variable {p : Program} {l : Launch} {e : Env} {R : Room} {s : State} {m : MethodId} {args : Array Value} {below : List Frame} {meth : Method} {c : Code} {T : State} {locs : List Loc} {cells slots : Nat} {pc : Nat} {Ls : Array Slot} {Z : State} {a0 : Array Value} {h : Heap} {vm0 : Vm} {EL : List (String × Nat)} {own : String}
theorem Wd.back {vm1 : Vm} {n1 : Nat} {h' : Heap} {k : ClassId} (W : Wd s Z EL own k vm0 h) (hS : (s.setVm vm0).Since vm1 h'.size) (hg : h.size ≤ h'.size) (A : CHr Z EL vm0 h vm1 h') : Wd s Z EL own k vm1 h' := by
  obtain ⟨⟨n, d1, d2⟩, d3, d4, d5⟩ := W
  exact ⟨⟨h'.size, d1.trans hS (Nat.le_trans d2 hg), Nat.le_refl _⟩, State.Warmed39.trans (t := s.setVm vm0) d3 hS.1, (hS.1.alike.findClass _ _).trans d4, d5.trans A⟩
theorem callHW (X : Stand p l e R (s.setVm vm0) m args below meth c T locs cells slots) (hx : p.tables.exec = Jvm.exec) (hEL : EW Z a0 EL) (Wd0 : Wd s Z EL own m.cls vm0 h) (eT : T.heap = h) {index : Nat} {y : MethodName} {bytes : ByteArray} {maxL : Nat} {ret : Option FieldType} {rm : Room} {Q : Option Value → Heap → List Loc → Prop}
    (argsL rest : List Value) (hM : ConH l Z EL y bytes maxL ret rm argsL.toArray h Q) (w1 : (Cond.methodLink own index y).before a0 Z = true) (w2 : (Cond.static y).before a0 Z = true) (w3 : (Cond.initialized y.cls).before a0 Z = true) (w4 : (Cond.code y bytes maxL ret).before a0 Z = true)
    (hy : y.cls ≠ "java/lang/invoke/MethodHandle" ∧ y.cls ≠ "java/lang/invoke/VarHandle") (W : Nat) (hf : rm.frames + 1 ≤ R.frames) (hl : W + (maxL + 11) + rm.locals ≤ R.locals) (hcR : cells + rm.cells ≤ R.cells) (hsR : slots + rm.slots ≤ R.slots) (hsz : Ls.size = c.maxLocals)
    {S : List Value} (hlen : ∀ sig, parseMethodDescriptor y.desc = some sig → argsL.length = sig.parameters.length) (hS : S = argsL.reverse ++ rest) (hW : (rest.map fun v => v.category).sum ≤ W) (hd : decode c.code pc = .ok (.invokestatic index, 3)) :
    ∃ (vm1 : Vm) (T' : State) (h' : Heap) (v : Option Value) (L M : List Loc), Stand p l e R (s.setVm vm1) m args below meth c T' M (cells + rm.cells) (slots + rm.slots) ∧ T'.heap = h' ∧ Wd s Z EL own m.cls vm1 h' ∧ h.size ≤ h'.size ∧ (∀ n0, Fr n0 locs → Fr n0 L → Fr n0 M) ∧ Q v h' L ∧ ∀ t, Steps p.tables e below (T'.setTop (mkF m (pc + 3) Ls (v.toList ++ rest))) t → Steps p.tables e below (T.setTop (mkF m pc Ls S)) t := by
  subst eT
  obtain ⟨v, _, ⟨T', L', k', n'⟩, -, X', hS', hg, ⟨L, hQ, l', y', z', hC⟩, st⟩ := callSS X hx (y := y) Wd0.hown (mvT Wd0.hZ w1) (mvT Wd0.hZ w2) (mvT Wd0.hZ w3) (mvT Wd0.hZ w4) hy (backOfSH (W := W) (hM []) Wd0.2.1 w4 w3 hf hl hEL Wd0.H) (g := mkF m pc Ls S) rfl hsz (argsL := argsL) (rest := rest) hlen hS (by show 2 * 0 + _ ≤ _; rw [Nat.mul_zero, Nat.zero_add]; exact hW) hd (fun _ _ => ⟨rfl, rfl, hcR, hsR⟩)
  dsimp only [Pt.U, Pt.locs, Pt.cells, Pt.slots] at X' l' y' z' st hQ hS' hg hC
  subst l' y' z'
  exact ⟨T'.vm, T', _, v, L, _, X', rfl, Wd.back (n1 := 0) Wd0 hS' hg hC, hg, fun n0 A B => Fr.app A B, hQ, fun t k => st.trans k⟩
theorem callIW (X : Stand p l e R (s.setVm vm0) m args below meth c T locs cells slots) (hx : p.tables.exec = Jvm.exec) (hEL : EW Z a0 EL) (Wd0 : Wd s Z EL own m.cls vm0 h) (eT : T.heap = h) {index : Nat} {y : MethodName} {bytes : ByteArray} {maxL : Nat} {rm : Room} {Q : Option Value → Heap → List Loc → Prop} (hy1 : y.name = "<init>")
    (a : Addr) (argsL rest : List Value) (hM : ConH l Z EL y bytes maxL none rm (Value.ref a :: argsL).toArray h Q) (w1 : (Cond.methodLink own index y).before a0 Z = true) (w2 : (Cond.instanceMethod y).before a0 Z = true) (w3 : (Cond.initialized y.cls).before a0 Z = true) (w4 : (Cond.code y bytes maxL none).before a0 Z = true)
    (hy : y.cls ≠ "java/lang/invoke/MethodHandle" ∧ y.cls ≠ "java/lang/invoke/VarHandle") (W : Nat) (hf : rm.frames + 1 ≤ R.frames) (hl : W + (maxL + 11) + rm.locals ≤ R.locals) (hcR : cells + rm.cells ≤ R.cells) (hsR : slots + rm.slots ≤ R.slots) (hsz : Ls.size = c.maxLocals)
    {S : List Value} (hlen : ∀ sig, parseMethodDescriptor y.desc = some sig → argsL.length = sig.parameters.length) (hS : S = argsL.reverse ++ .ref a :: rest) (hW : (rest.map fun v => v.category).sum ≤ W) (hd : decode c.code pc = .ok (.invokespecial index, 3)) :
    ∃ (vm1 : Vm) (T' : State) (h' : Heap) (v : Option Value) (L M : List Loc), Stand p l e R (s.setVm vm1) m args below meth c T' M (cells + rm.cells) (slots + rm.slots) ∧ T'.heap = h' ∧ Wd s Z EL own m.cls vm1 h' ∧ h.size ≤ h'.size ∧ (∀ n0, Fr n0 locs → Fr n0 L → Fr n0 M) ∧ Q v h' L ∧ ∀ t, Steps p.tables e below (T'.setTop (mkF m (pc + 3) Ls (v.toList ++ rest))) t → Steps p.tables e below (T.setTop (mkF m pc Ls S)) t := by
  subst eT
  obtain ⟨v, _, ⟨T', L', k', n'⟩, -, X', hS', hg, ⟨L, hQ, l', y', z', hC⟩, st⟩ := X.specialBackS hx (y := y) hy1 Wd0.hown (mvT Wd0.hZ w1) (mvT Wd0.hZ w2) (mvT Wd0.hZ w4) hy (backOfSH (W := W) (hM []) Wd0.2.1 w4 w3 hf hl hEL Wd0.H) (g := mkF m pc Ls S) rfl hsz (Steps.refl _) (a := a) (argsL := argsL) (rest := rest) hlen hS (by show 2 * 0 + _ ≤ _; rw [Nat.mul_zero, Nat.zero_add]; exact hW) hd (fun _ _ => ⟨rfl, rfl, hcR, hsR⟩)
  dsimp only [Pt.U, Pt.locs, Pt.cells, Pt.slots] at X' l' y' z' st hQ hS' hg hC
  subst l' y' z'
  exact ⟨T'.vm, T', _, v, L, _, X', rfl, Wd.back (n1 := 0) Wd0 hS' hg hC, hg, fun n0 A B => Fr.app A B, hQ, fun t k => st.trans k⟩
theorem ldcT (X : Stand p l e R (s.setVm vm0) m args below meth c T locs cells slots) (hx : p.tables.exec = Jvm.exec) (hEL : EW Z a0 EL) (Wd0 : Wd s Z EL own m.cls vm0 h) (eT : T.heap = h) {index : Nat} (text : String) (w : (Cond.stringLink own index text).before a0 Z = true) (wS : ∀ a ∈ Bundle.stringAtoms, a.before a0 Z = true) (hmem : (own, index) ∈ EL)
    (cs : List Int32) (ht : ∀ c ∈ text.toList, c.toNat < 256) (hcs : text.toList.map (fun c => Value.int (Jvm.Lit.byteI c.toNat.toUInt16)) = (cs.map fun c => c.toInt8.toInt32).map Value.int) (n : Nat) (hn : 4 * text.toList.length ≤ n) (hbig : n ≤ 536870912) (hlen : cs.length < 2 ^ 31) (hc : cells + 2 ≤ R.cells) (hl : slots + (n + 4) ≤ R.slots) {S : List Value} (hd : decode c.code pc = .ok (.ldc index, 2)) :
    ∃ (vm1 : Vm) (T' : State) (h' : Heap) (a b : Addr) (k : ClassId), Stand p l e R (s.setVm vm1) m args below meth c T' locs (cells + 2) (slots + (n + 4)) ∧ T'.heap = h' ∧ Ext h h' ∧ Wd s Z EL own m.cls vm1 h' ∧ (∀ x, x < h.size → Safe Z EL vm0 h x → Safe Z EL vm1 h' x) ∧ Exa Z h' a "java/lang/String" ∧ Fld Z h' a "java/lang/String" "value" "[B" (.ref b) ∧ Fld Z h' a "java/lang/String" "coder" "B" (.int 0) ∧ Arv Z h' b k .byte (Int32.ofNat cs.length) ((cs.map fun c => c.toInt8.toInt32).map Value.int) (.int 0) ∧ (∀ x, Safe Z EL vm1 h' x → x ≠ a ∧ x ≠ b) ∧
      ∀ t, Steps p.tables e below (T'.setTop (mkF m (pc + 2) Ls (.ref a :: S))) t → Steps p.tables e below (T.setTop (mkF m pc Ls S)) t := by
  obtain ⟨⟨k0, d1, d2⟩, d3, d4, d5⟩ := Wd0
  obtain ⟨a, T', h', k1, b, k, X', e', E, hS, hk, hW, hf, r1, r2, r3, r4, -, -, hC, -, hne, st⟩ := ldcCH X hx d3 d4 w wS eT d1 d2 hEL hmem d5.1 (vs := (cs.map fun c => c.toInt8.toInt32).map Value.int) (z := Int32.ofNat cs.length) ⟨ht, hcs⟩ (Int32.ofNat_not_neg hlen) (by rw [ofNat_clamp hlen]; simp) (g := mkF m pc Ls S) rfl hd hn hbig hc hl
  exact ⟨T'.vm, T', h', a, b, k, X', e', E, ⟨⟨k1, hS, hk⟩, hW, hf, d5.trans hC⟩, fun x q r => hC.safe q r, r1, r3, r2, r4, hne, st⟩
end WCalls
end Jvm.Own
/- laws to paste: Road.backV, Road.eqW, Road.codOf (cut by pick.py; bodies as the Statement names them) -/
namespace Jvm.Pilot.@@N@@
namespace StrChars
open Jvm Sem ClassFile Op Lib Jvm.Stand Jvm.Free.XT Jvm.Free.ALB Jvm.Free.JM Jvm.Free
open Jvm.Lib.Cold (StaticIs)
/-- a char array whose places are chars -/
def Ch (a : Addr) (A : Cell) (U : State) : Prop := Arr .char a A U ∧ Typed .char A
theorem Ch.mv {a : Addr} {A : Cell} {U U' : State} (h : Ch a A U) (hal : U.vm.Alike U'.vm) (hh : U'.heap = U.heap) : Ch a A U' := ⟨h.1.mv hal hh, h.2⟩
theorem Ch.keep {a : Addr} {A : Cell} {U U' : State} (h : Ch a A U) (hal : U.vm.Alike U'.vm) (hk : U'.heap[a]? = some A) : Ch a A U' := ⟨h.1.keep hal hk, h.2⟩
/-- what place i of a char[]'s cell holds -/
def cv (A : Cell) (i : Nat) : Int32 := match A.slots[i]? with | some (.int x) => x | _ => 0
theorem Ch.get {a : Addr} {A : Cell} {U : State} (h : Ch a A U) {i : Nat} (hi : i < A.slots.size) : A.slots[i]? = some (.int (cv A i)) := by
  have e := Array.getElem?_eq_getElem hi
  have f := h.2 i _ e
  unfold cv; rw [e]
  generalize A.slots[i] = v at f
  cases v <;> simp [fits] at f ⊢
/-- the byte that i2b leaves of a char -/
def lo8 (x : Int32) : Int32 := x.toInt8.toInt32
theorem fits_lo8 (y : Int32) : fits .byte (.int (lo8 y)) = true := by
  have h1 := y.toInt8.le_toInt
  have h2 := y.toInt8.toInt_lt
  simp only [lo8, fits, Bool.and_eq_true, decide_eq_true_eq, Int32.le_iff_toInt_le, Int8.toInt_toInt32, show (-128 : Int32).toInt = -128 from by decide, show (127 : Int32).toInt = 127 from by decide]
  omega
/-- A' is A but that each place j of lo .. hi - 1 holds f j -/
def Laid (A A' : Cell) (lo hi : Nat) (f : Nat → Value) : Prop := A'.cls = A.cls ∧ A'.vm = A.vm ∧ A'.slots.size = A.slots.size ∧ ∀ i, A'.slots[i]? = if lo ≤ i ∧ i < hi then some (f i) else A.slots[i]?
theorem Laid.zero (A : Cell) (lo : Nat) (f : Nat → Value) : Laid A A lo (lo + 0) f := ⟨rfl, rfl, rfl, fun i => by rw [if_neg (by omega)]⟩
theorem Laid.step {A Ak : Cell} {lo k : Nat} {f : Nat → Value} {v : Value} (h : Laid A Ak lo k f) (hlo : lo ≤ k) (hk : k < Ak.slots.size) (hv : v = f k) : Laid A (Ak.setSlot k v) lo (k + 1) f := by
  refine ⟨h.1, h.2.1, by simpa [Cell.setSlot] using h.2.2.1, fun i => ?_⟩
  by_cases e : k = i
  · subst e; rw [Cell.slots_setSlot_self v hk, if_pos (by omega), hv]
  · rw [Cell.slots_setSlot_ne v e, h.2.2.2 i]
    by_cases q : lo ≤ i ∧ i < k
    · rw [if_pos q, if_pos (by omega)]
    · rw [if_neg q, if_neg (by omega)]
def U16 : String := "java/lang/StringUTF16"
namespace Cmp5
def yN : MethodName := ⟨"java/lang/StringUTF16", "compress", "([CI[BII)I"⟩
abbrev yB : ByteArray := jdk_52_method_21_code
theorem d0 : decode yB 0 = .ok (.iconst 0, 1) := by decide +kernel
theorem d1 : decode yB 1 = .ok (.istore 5, 2) := by decide +kernel
theorem d3 : decode yB 3 = .ok (.iload 5, 2) := by decide +kernel
theorem d5 : decode yB 5 = .ok (.iload 4, 2) := by decide +kernel
theorem d7 : decode yB 7 = .ok (.if_icmp (.ge) 37, 3) := by decide +kernel
theorem d10 : decode yB 10 = .ok (.aload_n 0, 1) := by decide +kernel
theorem d11 : decode yB 11 = .ok (.iload_n 1, 1) := by decide +kernel
theorem d12 : decode yB 12 = .ok (.caload, 1) := by decide +kernel
theorem d13 : decode yB 13 = .ok (.istore 6, 2) := by decide +kernel
theorem d15 : decode yB 15 = .ok (.iload 6, 2) := by decide +kernel
theorem d17 : decode yB 17 = .ok (.sipush 255, 3) := by decide +kernel
theorem d20 : decode yB 20 = .ok (.if_icmp (.le) 6, 3) := by decide +kernel
theorem d26 : decode yB 26 = .ok (.aload_n 2, 1) := by decide +kernel
theorem d27 : decode yB 27 = .ok (.iload_n 3, 1) := by decide +kernel
theorem d28 : decode yB 28 = .ok (.iload 6, 2) := by decide +kernel
theorem d30 : decode yB 30 = .ok (.i2b, 1) := by decide +kernel
theorem d31 : decode yB 31 = .ok (.bastore, 1) := by decide +kernel
theorem d32 : decode yB 32 = .ok (.iinc 1 1, 3) := by decide +kernel
theorem d35 : decode yB 35 = .ok (.iinc 3 1, 3) := by decide +kernel
theorem d38 : decode yB 38 = .ok (.iinc 5 1, 3) := by decide +kernel
theorem d41 : decode yB 41 = .ok (.goto (-38), 3) := by decide +kernel
theorem d44 : decode yB 44 = .ok (.iload 4, 2) := by decide +kernel
theorem d46 : decode yB 46 = .ok (.ireturn, 1) := by decide +kernel
def site : List Cond := []
def tab : Cond := tabOf yN yB 7 (some .int) site
def P (b : Addr) (A : Cell) (d : Addr) (B : Cell) (o q len : Nat) (args : Array Value) (s : State) : Prop := args = #[.ref b, .int (Int32.ofNat o), .ref d, .int (Int32.ofNat q), .int (Int32.ofNat len)] ∧ Ch b A s ∧ Arr .byte d B s ∧ b ≠ d ∧ o + len ≤ A.slots.size ∧ q + len ≤ B.slots.size ∧ ∀ i, i < len → ¬ 255 < cv A (o + i)
def E (b : Addr) (A : Cell) (d : Addr) (B : Cell) (o q len : Nat) (r : Option Value) (s u : State) : Prop := r = some (.int (Int32.ofNat len)) ∧ ∃ B', Put d B' s u ∧ Laid B B' q (q + len) (fun j => Value.int (lo8 (cv A (o + (j - q)))))
/-- no char of the range above 255: len; the places written hold each char's low byte -/
theorem law (l : Launch) (b : Addr) (A : Cell) (d : Addr) (B : Cell) (o q len : Nat) : Law l yN 5 5 0 0 yB 7 (some .int) site (P b A d B o q len) (E b A d B o q len) (copyLocs d q len) 0 0 := by
  refine Law.of_walk (plainFor_of_name (by decide +kernel)) (by decide +kernel) (by decide +kernel) (by decide) (fun _ _ h => by rw [h.1]; rfl) (fun _ U U' hal hh h => ⟨h.1, h.2.1.mv hal hh, h.2.2.1.mv hal hh, h.2.2.2⟩) (fun r U U' V V' h1 hal h2 h => ⟨h.1, h.2.elim fun B' q => ⟨B', q.1.mv h1 h2, q.2⟩⟩) ?_
  intro p e s m args below meth c s₁ X0 hexec hbytes hml hret hlk hnm hown hh0 W hP
  obtain ⟨rfl, hA, hB, hne, l1, l2, hp⟩ := hP
  have c1 : Steps p.tables e below (s₁.setTop (entryFrame m #[.ref b, .int (Int32.ofNat o), .ref d, .int (Int32.ofNat q), .int (Int32.ofNat len)] 7)) (s₁.setTop (mkF m 0 #[.val (.ref b), .val (.int (Int32.ofNat o)), .val (.ref d), .val (.int (Int32.ofNat q)), .val (.int (Int32.ofNat len)), .unset, .unset] [])) := entry rfl
  have hA0 := hA.1.mv X0.warmed.alike hh0
  have hB0 := hB.mv X0.warmed.alike hh0
  have a31 := hA.1.2.2.2
  have c2 : Steps p.tables e below (s₁.setTop (entryFrame m #[.ref b, .int (Int32.ofNat o), .ref d, .int (Int32.ofNat q), .int (Int32.ofNat len)] 7)) (s₁.setTop (mkF m 3 #[.val (.ref b), .val (.int (Int32.ofNat o)), .val (.ref d), .val (.int (Int32.ofNat q)), .val (.int (Int32.ofNat len)), .val (.int 0), .unset] [])) := c1.trans (by
    refine iconstV X0.here hexec rfl 0 (hb hbytes d0) (by decide) ?_
    refine XS.istore X0.here hexec rfl (hb hbytes d1) rfl rfl ?_
    exact Steps.refl _)
  have loop : ∀ (r i : Nat), i + r = len → ∀ (z : Slot), (z = .unset ∨ ∃ w, z = .val w ∧ w.category = 1) → ∀ (Tl : State) (Bk : Cell), Stand p l e { frames := 0, locals := 0, cells := 0, slots := 0 } s m #[.ref b, .int (Int32.ofNat o), .ref d, .int (Int32.ofNat q), .int (Int32.ofNat len)] below meth c Tl ([] ++ copyLocs d q i) 0 0 → Put d Bk s₁ Tl → Laid B Bk q (q + i) (fun j => Value.int (lo8 (cv A (o + (j - q))))) →
      Steps p.tables e below (s₁.setTop (entryFrame m #[.ref b, .int (Int32.ofNat o), .ref d, .int (Int32.ofNat q), .int (Int32.ofNat len)] 7)) (Tl.setTop (mkF m 3 #[.val (.ref b), .val (.int (Int32.ofNat (o + i))), .val (.ref d), .val (.int (Int32.ofNat (q + i))), .val (.int (Int32.ofNat len)), .val (.int (Int32.ofNat i)), z] [])) → ∃ (T' : State) (B' : Cell) (z' : Slot), Stand p l e { frames := 0, locals := 0, cells := 0, slots := 0 } s m #[.ref b, .int (Int32.ofNat o), .ref d, .int (Int32.ofNat q), .int (Int32.ofNat len)] below meth c T' ([] ++ copyLocs d q len) 0 0 ∧ Put d B' s₁ T' ∧ Laid B B' q (q + len) (fun j => Value.int (lo8 (cv A (o + (j - q))))) ∧
      Steps p.tables e below (s₁.setTop (entryFrame m #[.ref b, .int (Int32.ofNat o), .ref d, .int (Int32.ofNat q), .int (Int32.ofNat len)] 7)) (T'.setTop (mkF m 3 #[.val (.ref b), .val (.int (Int32.ofNat (o + len))), .val (.ref d), .val (.int (Int32.ofNat (q + len))), .val (.int (Int32.ofNat len)), .val (.int (Int32.ofNat len)), z'] [])) := by
    intro r
    induction r with
    | zero =>
      intro i hi z hz Tl Bk Xl pl fl cl
      have hil : i = len := by omega
      rw [hil] at Xl fl cl
      exact ⟨Tl, Bk, z, Xl, pl, fl, cl⟩
    | succ r ih =>
      intro i hi z hz Tl Bk Xl pl fl cl
      have all := X0.warmed.alike.symm.trans Xl.warmed.alike
      have hAl := hA0.keep all (pl.other hne hA0.1)
      have hBk := hB0.like all pl.1 fl.1 fl.2.1 fl.2.2.1
      have hlt : q + i < Bk.slots.size := by rw [fl.2.2.1]; omega
      have c3 : Steps p.tables e below (s₁.setTop (entryFrame m #[.ref b, .int (Int32.ofNat o), .ref d, .int (Int32.ofNat q), .int (Int32.ofNat len)] 7)) (Tl.setTop (mkF m 12 #[.val (.ref b), .val (.int (Int32.ofNat (o + i))), .val (.ref d), .val (.int (Int32.ofNat (q + i))), .val (.int (Int32.ofNat len)), .val (.int (Int32.ofNat i)), z] [.int (Int32.ofNat (o + i)), .ref b])) := cl.trans (by
        refine XS.iload Xl.here hexec rfl (hb hbytes d3) rfl ?_
        refine XS.iload Xl.here hexec rfl (hb hbytes d5) rfl ?_
        refine XS.icmpNo Xl.here hexec rfl (hb hbytes d7) rfl (ii_ge_f (lt32 (by omega) (by omega))) ?_
        refine XS.aloadN Xl.here hexec rfl (hb hbytes d10) rfl rfl ?_
        refine XS.iloadN Xl.here hexec rfl (hb hbytes d11) rfl ?_
        exact Steps.refl _)
      have c4 : Steps p.tables e below (s₁.setTop (entryFrame m #[.ref b, .int (Int32.ofNat o), .ref d, .int (Int32.ofNat q), .int (Int32.ofNat len)] 7)) (Tl.setTop (mkF m 13 #[.val (.ref b), .val (.int (Int32.ofNat (o + i))), .val (.ref d), .val (.int (Int32.ofNat (q + i))), .val (.int (Int32.ofNat len)), .val (.int (Int32.ofNat i)), z] [.int (cv A (o + i))])) := c3.trans (by
        refine Xl.aget hexec hAl rfl (hA.get (i := o + i) (by omega)) rfl rfl (hb hbytes d12) ?_
        exact Steps.refl _)
      have c5 : Steps p.tables e below (s₁.setTop (entryFrame m #[.ref b, .int (Int32.ofNat o), .ref d, .int (Int32.ofNat q), .int (Int32.ofNat len)] 7)) (Tl.setTop (mkF m 15 #[.val (.ref b), .val (.int (Int32.ofNat (o + i))), .val (.ref d), .val (.int (Int32.ofNat (q + i))), .val (.int (Int32.ofNat len)), .val (.int (Int32.ofNat i)), .val (.int (cv A (o + i)))] [])) := c4.trans (by
        refine XS.istoreS Xl.here hexec rfl (hb hbytes d13) rfl rfl hz ?_
        exact Steps.refl _)
      have c6 : Steps p.tables e below (s₁.setTop (entryFrame m #[.ref b, .int (Int32.ofNat o), .ref d, .int (Int32.ofNat q), .int (Int32.ofNat len)] 7)) (Tl.setTop (mkF m 31 #[.val (.ref b), .val (.int (Int32.ofNat (o + i))), .val (.ref d), .val (.int (Int32.ofNat (q + i))), .val (.int (Int32.ofNat len)), .val (.int (Int32.ofNat i)), .val (.int (cv A (o + i)))] [.int (lo8 (cv A (o + i))), .int (Int32.ofNat (q + i)), .ref d])) := c5.trans (by
        refine XS.iload Xl.here hexec rfl (hb hbytes d15) rfl ?_
        refine sipushV Xl.here hexec rfl 255 (hb hbytes d17) (by decide) ?_
        refine XS.icmpYes Xl.here hexec rfl (pc0 := 20) rfl (hb hbytes d20) rfl (ii_le_t (hp i (by omega))) (by decide) rfl ?_
        refine XS.aloadN Xl.here hexec rfl (hb hbytes d26) rfl rfl ?_
        refine XS.iloadN Xl.here hexec rfl (hb hbytes d27) rfl ?_
        refine XS.iload Xl.here hexec rfl (hb hbytes d28) rfl ?_
        refine i2b Xl.here hexec rfl (hb hbytes d30) rfl ?_
        exact Steps.refl _)
      obtain ⟨T7, X7, p7, st7⟩ := Xl.aput hexec hBk rfl hlt rfl (fits_lo8 (cv A (o + i))) (g := (mkF m 31 #[.val (.ref b), .val (.int (Int32.ofNat (o + i))), .val (.ref d), .val (.int (Int32.ofNat (q + i))), .val (.int (Int32.ofNat len)), .val (.int (Int32.ofNat i)), .val (.int (cv A (o + i)))] [.int (lo8 (cv A (o + i))), .int (Int32.ofNat (q + i)), .ref d])) rfl (rest := []) rfl (hb hbytes d31)
      have c8 : Steps p.tables e below (s₁.setTop (entryFrame m #[.ref b, .int (Int32.ofNat o), .ref d, .int (Int32.ofNat q), .int (Int32.ofNat len)] 7)) (T7.setTop (mkF m 32 #[.val (.ref b), .val (.int (Int32.ofNat (o + i))), .val (.ref d), .val (.int (Int32.ofNat (q + i))), .val (.int (Int32.ofNat len)), .val (.int (Int32.ofNat i)), .val (.int (cv A (o + i)))] [])) := c6.trans (st7 _ (Steps.refl _))
      have c9 : Steps p.tables e below (s₁.setTop (entryFrame m #[.ref b, .int (Int32.ofNat o), .ref d, .int (Int32.ofNat q), .int (Int32.ofNat len)] 7)) (T7.setTop (mkF m 3 #[.val (.ref b), .val (.int (Int32.ofNat (o + i) + 1)), .val (.ref d), .val (.int (Int32.ofNat (q + i) + 1)), .val (.int (Int32.ofNat len)), .val (.int (Int32.ofNat i + 1)), .val (.int (cv A (o + i)))] [])) := c8.trans (by
        refine iincV X7.here hexec rfl 1 (hb hbytes d32) (by decide) rfl rfl ?_
        refine iincV X7.here hexec rfl 1 (hb hbytes d35) (by decide) rfl rfl ?_
        refine iincV X7.here hexec rfl 1 (hb hbytes d38) (by decide) rfl rfl ?_
        refine XS.goto X7.here hexec rfl (pc0 := 41) rfl (hb hbytes d41) (by decide) rfl ?_
        exact Steps.refl _)
      have c10 : Steps p.tables e below (s₁.setTop (entryFrame m #[.ref b, .int (Int32.ofNat o), .ref d, .int (Int32.ofNat q), .int (Int32.ofNat len)] 7)) (T7.setTop (mkF m 3 #[.val (.ref b), .val (.int (Int32.ofNat (o + (i + 1)))), .val (.ref d), .val (.int (Int32.ofNat (q + (i + 1)))), .val (.int (Int32.ofNat len)), .val (.int (Int32.ofNat (i + 1))), .val (.int (cv A (o + i)))] [])) := by
        have := c9
        rw [succ32, succ32, succ32] at this
        exact this
      exact ih (i + 1) (by omega) _ (Or.inr ⟨_, rfl, rfl⟩) T7 _ (by rw [copyLocs_step, ← List.append_assoc]; exact X7) (pl.trans p7) (fl.step (by omega) hlt (by simp)) c10
  obtain ⟨T9, B9, z9, X9, p9, f9, g9⟩ := loop len 0 (by omega) .unset (Or.inl rfl) s₁ B (by simpa [copyLocs] using X0) ⟨hB0.1, fun _ _ => rfl, rfl⟩ (Laid.zero _ _ _) c2
  have c11 : Steps p.tables e below (s₁.setTop (entryFrame m #[.ref b, .int (Int32.ofNat o), .ref d, .int (Int32.ofNat q), .int (Int32.ofNat len)] 7)) (T9.setTop (mkF m 46 #[.val (.ref b), .val (.int (Int32.ofNat (o + len))), .val (.ref d), .val (.int (Int32.ofNat (q + len))), .val (.int (Int32.ofNat len)), .val (.int (Int32.ofNat len)), z9] [.int (Int32.ofNat len)])) := g9.trans (by
    refine XS.iload X9.here hexec rfl (hb hbytes d3) rfl ?_
    refine XS.iload X9.here hexec rfl (hb hbytes d5) rfl ?_
    refine XS.icmpYes X9.here hexec rfl (pc0 := 7) rfl (hb hbytes d7) rfl (ii_ge_t (nlt32 (by omega) (Nat.le_refl _))) (by decide) rfl ?_
    refine XS.iload X9.here hexec rfl (hb hbytes d44) rfl ?_
    exact Steps.refl _)
  exact ⟨T9, some (.int (Int32.ofNat len)), _, _, _, X9, by simp, rfl, rfl, (fun h => by cases h), ⟨rfl, B9, p9.from hh0, f9⟩, fun fs hl => c11.trans (X9.ireturnOut hexec hret rfl (Or.inl rfl) (hb hbytes d46) hl)⟩
end Cmp5
namespace Cmp3
def yN : MethodName := ⟨"java/lang/StringUTF16", "compress", "([CII)[B"⟩
abbrev yB : ByteArray := jdk_52_method_16_code
theorem d0 : decode yB 0 = .ok (.iload_n 2, 1) := by decide +kernel
theorem d1 : decode yB 1 = .ok (.newarray .byte, 2) := by decide +kernel
theorem d3 : decode yB 3 = .ok (.astore_n 3, 1) := by decide +kernel
theorem d4 : decode yB 4 = .ok (.aload_n 0, 1) := by decide +kernel
theorem d5 : decode yB 5 = .ok (.iload_n 1, 1) := by decide +kernel
theorem d6 : decode yB 6 = .ok (.aload_n 3, 1) := by decide +kernel
theorem d7 : decode yB 7 = .ok (.iconst 0, 1) := by decide +kernel
theorem d8 : decode yB 8 = .ok (.iload_n 2, 1) := by decide +kernel
theorem d9 : decode yB 9 = .ok (.invokestatic 115, 3) := by decide +kernel
theorem d12 : decode yB 12 = .ok (.istore 4, 2) := by decide +kernel
theorem d14 : decode yB 14 = .ok (.iload 4, 2) := by decide +kernel
theorem d16 : decode yB 16 = .ok (.iload_n 2, 1) := by decide +kernel
theorem d17 : decode yB 17 = .ok (.if_icmp (.eq) 40, 3) := by decide +kernel
theorem d57 : decode yB 57 = .ok (.aload_n 3, 1) := by decide +kernel
theorem d58 : decode yB 58 = .ok (.areturn, 1) := by decide +kernel
def site : List Cond := [.arrayClass .byte, Cmp5.tab] ++ staticW U16 115 Cmp5.yN
def tab : Cond := tabOf yN yB 6 (some (.array .byte)) site
def P (b : Addr) (A : Cell) (o len : Nat) (args : Array Value) (s : State) : Prop := args = #[.ref b, .int (Int32.ofNat o), .int (Int32.ofNat len)] ∧ Ch b A s ∧ o + len ≤ A.slots.size ∧ len ≤ 536870912 ∧ ∀ i, i < len → ¬ 255 < cv A (o + i)
def E (b : Addr) (A : Cell) (o len : Nat) (r : Option Value) (s u : State) : Prop := NewArr .byte "[B" len (fun j => .int (lo8 (cv A (o + j)))) r s u ∧ u.heap.size = s.heap.size + 1
/-- no char of the range above 255: a new byte[] of their low bytes -/
theorem law (l : Launch) (b : Addr) (A : Cell) (o len : Nat) : Law l yN 3 3 1 18 yB 6 (some (.array .byte)) site (P b A o len) (E b A o len) [] 1 len := by
  refine Law.of_walk (plainFor_of_name (by decide +kernel)) (by decide +kernel) (by decide +kernel) (by decide) (fun _ _ h => by rw [h.1]; rfl) (fun _ U U' hal hh h => ⟨h.1, h.2.1.mv hal hh, h.2.2⟩) (fun r U U' V V' h1 hal h2 h => ⟨NewArr.mv r U U' V V' h1 hal h2 h.1, by rw [h1, h2]; exact h.2⟩) ?_
  intro p e s m args below meth c s₁ X0 hexec hbytes hml hret hlk hnm hown hh0 W hP
  obtain ⟨rfl, hA, l1, l2, hp⟩ := hP
  have a31 := hA.1.2.2.2
  have c1 : Steps p.tables e below (s₁.setTop (entryFrame m #[.ref b, .int (Int32.ofNat o), .int (Int32.ofNat len)] 6)) (s₁.setTop (mkF m 0 #[.val (.ref b), .val (.int (Int32.ofNat o)), .val (.int (Int32.ofNat len)), .unset, .unset, .unset] [])) := entry rfl
  have c2 : Steps p.tables e below (s₁.setTop (entryFrame m #[.ref b, .int (Int32.ofNat o), .int (Int32.ofNat len)] 6)) (s₁.setTop (mkF m 1 #[.val (.ref b), .val (.int (Int32.ofNat o)), .val (.int (Int32.ofNat len)), .unset, .unset, .unset] [.int (Int32.ofNat len)])) := c1.trans (by
    refine XS.iloadN X0.here hexec rfl (hb hbytes d0) rfl ?_
    exact Steps.refl _)
  obtain ⟨T3, B3, X3, ba3, bs3, bv3, bh3, bf3, st3⟩ := X0.anew hexec (atype := .byte) (wk W (.arrayClass .byte)) rfl (by show len * 1 ≤ _; omega) (by omega) (g := (mkF m 1 #[.val (.ref b), .val (.int (Int32.ofNat o)), .val (.int (Int32.ofNat len)), .unset, .unset, .unset] [.int (Int32.ofNat len)])) rfl (hb hbytes d1) (rest := []) rfl (Nat.le_refl _) (by show 0 + len ≤ len; omega)
  rw [hh0] at ba3 st3
  have kp3 : XT.Kept s T3 := (XT.Kept.of_eq hh0).push bh3
  have hA3 := hA.keep X3.warmed.alike (kp3 _ _ hA.1.1)
  have hne : b ≠ s.heap.size := hA.1.ne
  have c4 : Steps p.tables e below (s₁.setTop (entryFrame m #[.ref b, .int (Int32.ofNat o), .int (Int32.ofNat len)] 6)) (T3.setTop (mkF m 3 #[.val (.ref b), .val (.int (Int32.ofNat o)), .val (.int (Int32.ofNat len)), .unset, .unset, .unset] [.ref s.heap.size])) := c2.trans (st3 _ (Steps.refl _))
  have c5 : Steps p.tables e below (s₁.setTop (entryFrame m #[.ref b, .int (Int32.ofNat o), .int (Int32.ofNat len)] 6)) (T3.setTop (mkF m 9 #[.val (.ref b), .val (.int (Int32.ofNat o)), .val (.int (Int32.ofNat len)), .val (.ref s.heap.size), .unset, .unset] [.int (Int32.ofNat len), .int 0, .ref s.heap.size, .int (Int32.ofNat o), .ref b])) := c4.trans (by
    refine XS.astoreN X3.here hexec rfl (hb hbytes d3) rfl rfl rfl ?_
    refine XS.aloadN X3.here hexec rfl (hb hbytes d4) rfl rfl ?_
    refine XS.iloadN X3.here hexec rfl (hb hbytes d5) rfl ?_
    refine XS.aloadN X3.here hexec rfl (hb hbytes d6) rfl rfl ?_
    refine iconstV X3.here hexec rfl 0 (hb hbytes d7) (by decide) ?_
    refine XS.iloadN X3.here hexec rfl (hb hbytes d8) rfl ?_
    exact Steps.refl _)
  obtain ⟨v6, T6, X6, E6, g6⟩ := X3.callS hexec (Cmp5.law l b A s.heap.size B3 o 0 len) hown (wks W (staticW U16 115 Cmp5.yN)) (wk W Cmp5.tab) (W := 0) (Nat.le_of_ble_eq_true rfl) (Nat.le_of_ble_eq_true rfl) (Nat.le_refl _) (by show 0 + len + 0 ≤ len; omega) (g := (mkF m 9 #[.val (.ref b), .val (.int (Int32.ofNat o)), .val (.int (Int32.ofNat len)), .val (.ref s.heap.size), .unset, .unset] [.int (Int32.ofNat len), .int (Int32.ofNat 0), .ref s.heap.size, .int (Int32.ofNat o), .ref b])) rfl (by rw [hml]; rfl) c5 (argsL := [.ref b, .int (Int32.ofNat o), .ref s.heap.size, .int (Int32.ofNat 0), .int (Int32.ofNat len)]) (rest := []) rfl rfl (by show 2 * 0 + 0 ≤ _; decide) (hb hbytes d9) (⟨rfl, hA3, ba3, hne, l1, by rw [bs3]; simp, hp⟩)
  obtain ⟨rfl, B6, p6, f6⟩ := E6
  have c7 : Steps p.tables e below (s₁.setTop (entryFrame m #[.ref b, .int (Int32.ofNat o), .int (Int32.ofNat len)] 6)) (T6.setTop (mkF m 12 #[.val (.ref b), .val (.int (Int32.ofNat o)), .val (.int (Int32.ofNat len)), .val (.ref s.heap.size), .unset, .unset] [.int (Int32.ofNat len)])) := g6
  have c8 : Steps p.tables e below (s₁.setTop (entryFrame m #[.ref b, .int (Int32.ofNat o), .int (Int32.ofNat len)] 6)) (T6.setTop (mkF m 58 #[.val (.ref b), .val (.int (Int32.ofNat o)), .val (.int (Int32.ofNat len)), .val (.ref s.heap.size), .val (.int (Int32.ofNat len)), .unset] [.ref s.heap.size])) := c7.trans (by
    refine XS.istore X6.here hexec rfl (hb hbytes d12) rfl rfl ?_
    refine XS.iload X6.here hexec rfl (hb hbytes d14) rfl ?_
    refine XS.iloadN X6.here hexec rfl (hb hbytes d16) rfl ?_
    refine XS.icmpYes X6.here hexec rfl (pc0 := 17) rfl (hb hbytes d17) rfl (ii_eq_t rfl) (by decide) rfl ?_
    refine XS.aloadN X6.here hexec rfl (hb hbytes d57) rfl rfl ?_
    exact Steps.refl _)
  have X8 := X6.wide (L' := []) (cells' := 1) (slots' := len) (fun x hx hlt => by
    simp only [List.nil_append, copyLocs, List.mem_map, List.mem_range] at hx
    obtain ⟨i, -, rfl⟩ := hx
    exact absurd hlt (Nat.lt_irrefl _)) (Nat.le_refl _) (by omega)
  exact ⟨T6, some (.ref s.heap.size), _, _, _, X8, rfl, rfl, rfl, (fun h => by cases h), ⟨⟨rfl, B6, ba3.like (X3.warmed.alike.symm.trans X6.warmed.alike) p6.1 f6.1 f6.2.1 f6.2.2.1, f6.2.1.trans bv3, by rw [X6.warmed.alike.findClass, f6.1]; exact bf3, by rw [f6.2.2.1, bs3]; simp, fun j hj => by rw [f6.2.2.2 j, if_pos (by omega)]; rfl, kp3.put p6 (Nat.le_refl _)⟩, by rw [p6.2.2, bh3, hh0]; simp⟩, fun fs hl => c8.trans (X8.areturnOut hexec rfl hret rfl (hb hbytes d58) hl)⟩
end Cmp3
namespace CodL
def yN : MethodName := ⟨"java/lang/StringUTF16", "coderFromArrayLen", "([BI)B"⟩
abbrev yB : ByteArray := jdk_52_method_15_code
theorem d0 : decode yB 0 = .ok (.iload_n 1, 1) := by decide +kernel
theorem d1 : decode yB 1 = .ok (.aload_n 0, 1) := by decide +kernel
theorem d2 : decode yB 2 = .ok (.arraylength, 1) := by decide +kernel
theorem d3 : decode yB 3 = .ok (.isub, 1) := by decide +kernel
theorem d4 : decode yB 4 = .ok (.bipush 31, 2) := by decide +kernel
theorem d6 : decode yB 6 = .ok (.iushr, 1) := by decide +kernel
theorem d7 : decode yB 7 = .ok (.i2b, 1) := by decide +kernel
theorem d8 : decode yB 8 = .ok (.ireturn, 1) := by decide +kernel
def site : List Cond := []
def tab : Cond := tabOf yN yB 2 (some .byte) site
def P (d : Addr) (B : Cell) (args : Array Value) (s : State) : Prop := args = #[.ref d, .int (Int32.ofNat B.slots.size)] ∧ Arr .byte d B s
def E (r : Option Value) (s u : State) : Prop := XT.PureE (some (.int 0)) r s u
/-- an array as long as the number of chars: LATIN1 -/
theorem law (l : Launch) (d : Addr) (B : Cell) : Law l yN 2 2 0 0 yB 2 (some .byte) site (P d B) E [] 0 0 := by
  refine Law.of_walk (plainFor_of_name (by decide +kernel)) (by decide +kernel) (by decide +kernel) (by decide) (fun _ _ h => by rw [h.1]; rfl) (fun _ U U' hal hh h => ⟨h.1, h.2.mv hal hh⟩) (fun r U U' V V' h1 hal h2 h => XT.PureE.mv r U U' V V' h1 hal h2 h) ?_
  intro p e s m args below meth c s₁ X0 hexec hbytes hml hret hlk hnm hown hh0 W hP
  obtain ⟨rfl, hB⟩ := hP
  have hB0 := hB.mv X0.warmed.alike hh0
  have c1 : Steps p.tables e below (s₁.setTop (entryFrame m #[.ref d, .int (Int32.ofNat B.slots.size)] 2)) (s₁.setTop (mkF m 0 #[.val (.ref d), .val (.int (Int32.ofNat B.slots.size))] [])) := entry rfl
  have c2 : Steps p.tables e below (s₁.setTop (entryFrame m #[.ref d, .int (Int32.ofNat B.slots.size)] 2)) (s₁.setTop (mkF m 2 #[.val (.ref d), .val (.int (Int32.ofNat B.slots.size))] [.ref d, .int (Int32.ofNat B.slots.size)])) := c1.trans (by
    refine XS.iloadN X0.here hexec rfl (hb hbytes d0) rfl ?_
    refine XS.aloadN X0.here hexec rfl (hb hbytes d1) rfl rfl ?_
    exact Steps.refl _)
  have c3 : Steps p.tables e below (s₁.setTop (entryFrame m #[.ref d, .int (Int32.ofNat B.slots.size)] 2)) (s₁.setTop (mkF m 8 #[.val (.ref d), .val (.int (Int32.ofNat B.slots.size))] [.int (lo8 (ushr (Int32.ofNat B.slots.size - Int32.ofNat B.slots.size) 31))])) := c2.trans (by
    refine X0.alen hexec hB0 rfl rfl (hb hbytes d2) ?_
    refine XS.isub X0.here hexec rfl (hb hbytes d3) rfl ?_
    refine bipushV X0.here hexec rfl 31 (hb hbytes d4) (by decide) ?_
    refine iushr X0.here hexec rfl (hb hbytes d6) rfl ?_
    refine i2b X0.here hexec rfl (hb hbytes d7) rfl ?_
    exact Steps.refl _)
  have e0 : lo8 (ushr (Int32.ofNat B.slots.size - Int32.ofNat B.slots.size) 31) = 0 := by rw [Int32.sub_self]; decide
  rw [e0] at c3
  exact ⟨s₁, some (.int 0), _, _, _, X0, rfl, rfl, rfl, (fun h => by cases h), ⟨rfl, hh0⟩, fun fs hl => c3.trans (X0.ireturnOut hexec hret rfl (Or.inr (Or.inr (Or.inl rfl))) (hb hbytes d8) hl)⟩
end CodL
/-- the String at a is Latin-1 over a new byte[] (the heap's one new cell): the low bytes of the len chars of A from o on; every cell but a is kept -/
def Got (a : Addr) (D : Cell) (fV fC : Field) (A : Cell) (o len : Nat) (r : Option Value) (s u : State) : Prop := r = none ∧ ∃ D' V : Cell, Blank "java/lang/String" a D' u ∧ Same D D' [fV.slot, fC.slot] ∧ D'.slots[fV.slot]? = some (.ref s.heap.size) ∧ D'.slots[fC.slot]? = some (.int 0) ∧ Arr .byte s.heap.size V u ∧ V.vm = .none ∧ u.vm.findClass "[B" = some V.cls ∧ V.slots.size = len ∧ (∀ j, j < len → V.slots[j]? = some (.int (lo8 (cv A (o + j))))) ∧ (∀ (y : Addr) (c : Cell), y ≠ a → s.heap[y]? = some c → u.heap[y]? = some c) ∧ u.heap.size = s.heap.size + 1
theorem Got.mv {a : Addr} {D A : Cell} {fV fC : Field} {o len : Nat} : ∀ r (U U' V V' : State), U'.heap = U.heap → V.vm.Alike V'.vm → V'.heap = V.heap → Got a D fV fC A o len r U V → Got a D fV fC A o len r U' V' :=
  fun r U U' V V' h1 hal h2 ⟨e0, D', X, a1, a2, a3, a4, a5, a6, a7, a8, a9, a10, a11⟩ => ⟨e0, D', X, a1.mv hal h2, a2, by rw [h1]; exact a3, a4, by rw [h1]; exact a5.mv hal h2, a6, by rw [hal.findClass]; exact a7, a8, a9, by rw [h1, h2]; exact a10, by rw [h1, h2]; exact a11⟩
namespace New4
def yN : MethodName := ⟨"java/lang/String", "<init>", "([CIILjava/lang/Void;)V"⟩
abbrev yB : ByteArray := jdk_42_method_149_code
theorem d0 : decode yB 0 = .ok (.aload_n 0, 1) := by decide +kernel
theorem d1 : decode yB 1 = .ok (.invokespecial 1, 3) := by decide +kernel
theorem d4 : decode yB 4 = .ok (.iload_n 3, 1) := by decide +kernel
theorem d5 : decode yB 5 = .ok (.ifCond (.ne) 22, 3) := by decide +kernel
theorem d27 : decode yB 27 = .ok (.getstatic 38, 3) := by decide +kernel
theorem d30 : decode yB 30 = .ok (.ifCond (.eq) 28, 3) := by decide +kernel
theorem d33 : decode yB 33 = .ok (.aload_n 1, 1) := by decide +kernel
theorem d34 : decode yB 34 = .ok (.iload_n 2, 1) := by decide +kernel
theorem d35 : decode yB 35 = .ok (.iload_n 3, 1) := by decide +kernel
theorem d36 : decode yB 36 = .ok (.invokestatic 177, 3) := by decide +kernel
theorem d39 : decode yB 39 = .ok (.astore 5, 2) := by decide +kernel
theorem d41 : decode yB 41 = .ok (.aload_n 0, 1) := by decide +kernel
theorem d42 : decode yB 42 = .ok (.aload 5, 2) := by decide +kernel
theorem d44 : decode yB 44 = .ok (.iload_n 3, 1) := by decide +kernel
theorem d45 : decode yB 45 = .ok (.invokestatic 47, 3) := by decide +kernel
theorem d48 : decode yB 48 = .ok (.putfield 15, 3) := by decide +kernel
theorem d51 : decode yB 51 = .ok (.aload_n 0, 1) := by decide +kernel
theorem d52 : decode yB 52 = .ok (.aload 5, 2) := by decide +kernel
theorem d54 : decode yB 54 = .ok (.putfield 9, 3) := by decide +kernel
theorem d57 : decode yB 57 = .ok (.return_, 1) := by decide +kernel
def site : List Cond := [.fieldLink "java/lang/String" 38 "java/lang/String" "COMPACT_STRINGS" "Z", Cmp3.tab, CodL.tab, .laysFinal "java/lang/String" "java/lang/String" "value" "[B", .fieldLink "java/lang/String" 9 "java/lang/String" "value" "[B", .laysFinal "java/lang/String" "java/lang/String" "coder" "B", .fieldLink "java/lang/String" 15 "java/lang/String" "coder" "B"] ++ objW "java/lang/String" 1 ++ staticW "java/lang/String" 177 Cmp3.yN ++ staticW "java/lang/String" 47 CodL.yN
def tab : Cond := tabOf yN yB 6 none site
def P (a : Addr) (D : Cell) (fV fC : Field) (b : Addr) (A : Cell) (z : Int32) (o len : Nat) (args : Array Value) (s : State) : Prop := args = #[.ref a, .ref b, .int (Int32.ofNat o), .int (Int32.ofNat len), .null] ∧ Blank "java/lang/String" a D s ∧ Found "java/lang/String" "value" "[B" fV s ∧ Found "java/lang/String" "coder" "B" fC s ∧ Ch b A s ∧ StaticIs s "java/lang/String" "COMPACT_STRINGS" "Z" (.int z) ∧ ¬ z = 0 ∧ 0 < len ∧ o + len ≤ A.slots.size ∧ len ≤ 536870912 ∧ ∀ i, i < len → ¬ 255 < cv A (o + i)
def E (a : Addr) (D : Cell) (fV fC : Field) (A : Cell) (o len : Nat) (r : Option Value) (s u : State) : Prop := Got a D fV fC A o len r s u
/-- len > 0, no char of the range above 255: a Latin-1 String of their low bytes -/
theorem law (l : Launch) (a : Addr) (D : Cell) (fV fC : Field) (b : Addr) (A : Cell) (z : Int32) (o len : Nat) : Law l yN 5 4 2 35 yB 6 none site (P a D fV fC b A z o len) (E a D fV fC A o len) [⟨a, fC.slot⟩, ⟨a, fV.slot⟩] 1 len := by
  refine Law.of_walk (plainFor_of_name (by decide +kernel)) (by decide +kernel) (by decide +kernel) (by decide) (fun _ _ h => by rw [h.1]; rfl) (fun _ U U' hal hh h => ⟨h.1, h.2.1.mv hal hh, h.2.2.1.al hal, h.2.2.2.1.al hal, h.2.2.2.2.1.mv hal hh, h.2.2.2.2.2.1.there hal hh, h.2.2.2.2.2.2⟩) (fun r U U' V V' h1 hal h2 h => Got.mv r U U' V V' h1 hal h2 h) ?_
  intro p e s m args below meth c s₁ X0 hexec hbytes hml hret hlk hnm hown hh0 W hP
  obtain ⟨rfl, hB, f1, f2, hA, s1, hz, l0, l1, l2, hp⟩ := hP
  have a31 := hA.1.2.2.2
  have c1 : Steps p.tables e below (s₁.setTop (entryFrame m #[.ref a, .ref b, .int (Int32.ofNat o), .int (Int32.ofNat len), .null] 6)) (s₁.setTop (mkF m 0 #[.val (.ref a), .val (.ref b), .val (.int (Int32.ofNat o)), .val (.int (Int32.ofNat len)), .val .null, .unset] [])) := entry rfl
  have c2 : Steps p.tables e below (s₁.setTop (entryFrame m #[.ref a, .ref b, .int (Int32.ofNat o), .int (Int32.ofNat len), .null] 6)) (s₁.setTop (mkF m 1 #[.val (.ref a), .val (.ref b), .val (.int (Int32.ofNat o)), .val (.int (Int32.ofNat len)), .val .null, .unset] [.ref a])) := c1.trans (by
    refine XS.aloadN X0.here hexec rfl (hb hbytes d0) rfl rfl ?_
    exact Steps.refl _)
  obtain ⟨T3, X3, q3, st3⟩ := X0.oinit hexec hown (wks W (objW "java/lang/String" 1)) (g := (mkF m 1 #[.val (.ref a), .val (.ref b), .val (.int (Int32.ofNat o)), .val (.int (Int32.ofNat len)), .val .null, .unset] [.ref a])) rfl (by rw [hml]; rfl) (rest := []) rfl (hb hbytes d1) (W := 0) (by show 2 * 0 + 0 ≤ _; decide) (Nat.le_of_ble_eq_true rfl) (Nat.le_of_ble_eq_true rfl)
  have hh3 := q3.trans hh0
  have c4 : Steps p.tables e below (s₁.setTop (entryFrame m #[.ref a, .ref b, .int (Int32.ofNat o), .int (Int32.ofNat len), .null] 6)) (T3.setTop (mkF m 27 #[.val (.ref a), .val (.ref b), .val (.int (Int32.ofNat o)), .val (.int (Int32.ofNat len)), .val .null, .unset] [])) := (c2.trans (st3 _ (Steps.refl _))).trans (by
    refine XS.iloadN X3.here hexec rfl (hb hbytes d4) rfl ?_
    refine XS.ifYes X3.here hexec rfl (pc0 := 5) rfl (hb hbytes d5) rfl (i0_ne_t (nz32 (by omega) l0)) (by decide) rfl ?_
    exact Steps.refl _)
  obtain ⟨T5, X5, q5, st5⟩ := X3.sget hexec hown (wk W (.fieldLink "java/lang/String" 38 "java/lang/String" "COMPACT_STRINGS" "Z")) s1 (fun _ _ h => by rw [hh3]; exact h) (g := (mkF m 27 #[.val (.ref a), .val (.ref b), .val (.int (Int32.ofNat o)), .val (.int (Int32.ofNat len)), .val .null, .unset] [])) rfl (hb hbytes d27)
  have hh5 := q5.trans hh3
  have c6 : Steps p.tables e below (s₁.setTop (entryFrame m #[.ref a, .ref b, .int (Int32.ofNat o), .int (Int32.ofNat len), .null] 6)) (T5.setTop (mkF m 30 #[.val (.ref a), .val (.ref b), .val (.int (Int32.ofNat o)), .val (.int (Int32.ofNat len)), .val .null, .unset] [.int z])) := c4.trans (st5 _ (Steps.refl _))
  have c7 : Steps p.tables e below (s₁.setTop (entryFrame m #[.ref a, .ref b, .int (Int32.ofNat o), .int (Int32.ofNat len), .null] 6)) (T5.setTop (mkF m 36 #[.val (.ref a), .val (.ref b), .val (.int (Int32.ofNat o)), .val (.int (Int32.ofNat len)), .val .null, .unset] [.int (Int32.ofNat len), .int (Int32.ofNat o), .ref b])) := c6.trans (by
    refine XS.ifNo X5.here hexec rfl (hb hbytes d30) rfl (i0_eq_f hz) ?_
    refine XS.aloadN X5.here hexec rfl (hb hbytes d33) rfl rfl ?_
    refine XS.iloadN X5.here hexec rfl (hb hbytes d34) rfl ?_
    refine XS.iloadN X5.here hexec rfl (hb hbytes d35) rfl ?_
    exact Steps.refl _)
  obtain ⟨v8, T8, X8, E8, g8⟩ := X5.callS hexec (Cmp3.law l b A o len) hown (wks W (staticW "java/lang/String" 177 Cmp3.yN)) (wk W Cmp3.tab) (W := 0) (Nat.le_of_ble_eq_true rfl) (Nat.le_of_ble_eq_true rfl) (Nat.le_refl _) (by show 0 + len ≤ len; omega) (g := (mkF m 36 #[.val (.ref a), .val (.ref b), .val (.int (Int32.ofNat o)), .val (.int (Int32.ofNat len)), .val .null, .unset] [.int (Int32.ofNat len), .int (Int32.ofNat o), .ref b])) rfl (by rw [hml]; rfl) c7 (argsL := [.ref b, .int (Int32.ofNat o), .int (Int32.ofNat len)]) (rest := []) rfl rfl (by show 2 * 0 + 0 ≤ _; decide) (hb hbytes d36) (⟨rfl, hA.mv X5.warmed.alike hh5, l1, l2, hp⟩)
  obtain ⟨e8, z8⟩ := E8
  obtain ⟨rfl, N, n1, n2, n3, n4, n5, n6⟩ := NewArr.mv _ T5 s _ _ hh5.symm (Vm.Alike.refl _) rfl e8
  rw [hh5] at z8
  have hB1 := hB.keep X8.warmed.alike (n6 _ _ hB.1)
  have hne : s.heap.size ≠ a := (Nat.ne_of_lt (Array.getElem?_eq_some_iff.mp hB.1).1).symm
  have c9 : Steps p.tables e below (s₁.setTop (entryFrame m #[.ref a, .ref b, .int (Int32.ofNat o), .int (Int32.ofNat len), .null] 6)) (T8.setTop (mkF m 39 #[.val (.ref a), .val (.ref b), .val (.int (Int32.ofNat o)), .val (.int (Int32.ofNat len)), .val .null, .unset] [.ref s.heap.size])) := g8
  have c10 : Steps p.tables e below (s₁.setTop (entryFrame m #[.ref a, .ref b, .int (Int32.ofNat o), .int (Int32.ofNat len), .null] 6)) (T8.setTop (mkF m 45 #[.val (.ref a), .val (.ref b), .val (.int (Int32.ofNat o)), .val (.int (Int32.ofNat len)), .val .null, .val (.ref s.heap.size)] [.int (Int32.ofNat N.slots.size), .ref s.heap.size, .ref a])) := by
    have hc : Steps p.tables e below (s₁.setTop (entryFrame m #[.ref a, .ref b, .int (Int32.ofNat o), .int (Int32.ofNat len), .null] 6)) (T8.setTop (mkF m 45 #[.val (.ref a), .val (.ref b), .val (.int (Int32.ofNat o)), .val (.int (Int32.ofNat len)), .val .null, .val (.ref s.heap.size)] [.int (Int32.ofNat len), .ref s.heap.size, .ref a])) := c9.trans (by
      refine XS.astore X8.here hexec rfl (hb hbytes d39) rfl rfl rfl ?_
      refine XS.aloadN X8.here hexec rfl (hb hbytes d41) rfl rfl ?_
      refine XS.aload X8.here hexec rfl (hb hbytes d42) rfl rfl ?_
      refine XS.iloadN X8.here hexec rfl (hb hbytes d44) rfl ?_
      exact Steps.refl _)
    rw [n4]; exact hc
  obtain ⟨v11, T11, X11, E11, g11⟩ := X8.callS hexec (CodL.law l s.heap.size N) hown (wks W (staticW "java/lang/String" 47 CodL.yN)) (wk W CodL.tab) (W := 1) (Nat.le_of_ble_eq_true rfl) (Nat.le_of_ble_eq_true rfl) (Nat.le_refl _) (by show 0 + len + 0 ≤ len; omega) (g := (mkF m 45 #[.val (.ref a), .val (.ref b), .val (.int (Int32.ofNat o)), .val (.int (Int32.ofNat len)), .val .null, .val (.ref s.heap.size)] [.int (Int32.ofNat N.slots.size), .ref s.heap.size, .ref a])) rfl (by rw [hml]; rfl) c10 (argsL := [.ref s.heap.size, .int (Int32.ofNat N.slots.size)]) (rest := [.ref a]) rfl rfl (by show 2 * 0 + (1 + 0) ≤ _; decide) (hb hbytes d45) (⟨rfl, n1⟩)
  obtain ⟨rfl, q11⟩ := E11
  have hB11 := hB1.mv (X8.warmed.alike.symm.trans X11.warmed.alike) q11
  have c12 : Steps p.tables e below (s₁.setTop (entryFrame m #[.ref a, .ref b, .int (Int32.ofNat o), .int (Int32.ofNat len), .null] 6)) (T11.setTop (mkF m 48 #[.val (.ref a), .val (.ref b), .val (.int (Int32.ofNat o)), .val (.int (Int32.ofNat len)), .val .null, .val (.ref s.heap.size)] [.int 0, .ref a])) := g11
  obtain ⟨T13, X13, p13, bl13, sl13, st13⟩ := X11.finit hexec hown (wk W (.fieldLink "java/lang/String" 15 "java/lang/String" "coder" "B")) (Or.inr ⟨_, (wk W (.laysFinal "java/lang/String" "java/lang/String" "coder" "B"))⟩) (Or.inl ⟨rfl, hnm⟩) f2 (Or.inl rfl) hB11 (t := .byte) (by decide +kernel) rfl (g := (mkF m 48 #[.val (.ref a), .val (.ref b), .val (.int (Int32.ofNat o)), .val (.int (Int32.ofNat len)), .val .null, .val (.ref s.heap.size)] [.int 0, .ref a])) rfl (rest := []) rfl (hb hbytes d48)
  have c14 : Steps p.tables e below (s₁.setTop (entryFrame m #[.ref a, .ref b, .int (Int32.ofNat o), .int (Int32.ofNat len), .null] 6)) (T13.setTop (mkF m 54 #[.val (.ref a), .val (.ref b), .val (.int (Int32.ofNat o)), .val (.int (Int32.ofNat len)), .val .null, .val (.ref s.heap.size)] [.ref s.heap.size, .ref a])) := (c12.trans (st13 _ (Steps.refl _))).trans (by
    refine XS.aloadN X13.here hexec rfl (hb hbytes d51) rfl rfl ?_
    refine XS.aload X13.here hexec rfl (hb hbytes d52) rfl rfl ?_
    exact Steps.refl _)
  obtain ⟨T15, X15, p15, bl15, sl15, st15⟩ := X13.finit hexec hown (wk W (.fieldLink "java/lang/String" 9 "java/lang/String" "value" "[B")) (Or.inr ⟨_, (wk W (.laysFinal "java/lang/String" "java/lang/String" "value" "[B"))⟩) (Or.inl ⟨rfl, hnm⟩) f1 (Or.inl rfl) bl13 (t := (.array .byte)) (by decide +kernel) rfl (g := (mkF m 54 #[.val (.ref a), .val (.ref b), .val (.int (Int32.ofNat o)), .val (.int (Int32.ofNat len)), .val .null, .val (.ref s.heap.size)] [.ref s.heap.size, .ref a])) rfl (rest := []) rfl (hb hbytes d54)
  have c16 : Steps p.tables e below (s₁.setTop (entryFrame m #[.ref a, .ref b, .int (Int32.ofNat o), .int (Int32.ofNat len), .null] 6)) (T15.setTop (mkF m 57 #[.val (.ref a), .val (.ref b), .val (.int (Int32.ofNat o)), .val (.int (Int32.ofNat len)), .val .null, .val (.ref s.heap.size)] [])) := c14.trans (st15 _ (Steps.refl _))
  have ap := apart (Or.inr ⟨_, (wk W (.laysFinal "java/lang/String" "java/lang/String" "value" "[B"))⟩) (Or.inr ⟨_, (wk W (.laysFinal "java/lang/String" "java/lang/String" "coder" "B"))⟩) f1 f2 (t₁ := .array .byte) (t₂ := .byte) (by decide +kernel) (by decide +kernel) (by decide)
  have al := X8.warmed.alike.symm.trans X15.warmed.alike
  have n7 : T11.heap[s.heap.size]? = some N := by rw [q11]; exact n1.1
  exact ⟨T15, none, _, _, _, X15, by simp, rfl, by omega, (fun _ => rfl), ⟨rfl, _, N, bl15, ((Same.refl D _).set _ (by simp)).set _ (by simp), sl15, (Cell.slots_setSlot_ne _ ap).trans sl13, n1.keep al (p15.other hne (p13.other hne n7)), n2, by rw [al.findClass]; exact n3, n4, n5, fun y c h1 h2 => p15.other h1 (p13.other h1 (by rw [q11]; exact n6 y c h2)), by rw [p15.2.2, p13.2.2, q11]; exact z8⟩, fun fs hl => c16.trans (X15.returnOut hexec hret (hb hbytes d57) hl)⟩
end New4
namespace New1
def yN : MethodName := ⟨"java/lang/String", "<init>", "([C)V"⟩
abbrev yB : ByteArray := jdk_42_method_3_code
theorem d0 : decode yB 0 = .ok (.aload_n 0, 1) := by decide +kernel
theorem d1 : decode yB 1 = .ok (.aload_n 1, 1) := by decide +kernel
theorem d2 : decode yB 2 = .ok (.iconst 0, 1) := by decide +kernel
theorem d3 : decode yB 3 = .ok (.aload_n 1, 1) := by decide +kernel
theorem d4 : decode yB 4 = .ok (.arraylength, 1) := by decide +kernel
theorem d5 : decode yB 5 = .ok (.aconst_null, 1) := by decide +kernel
theorem d6 : decode yB 6 = .ok (.invokespecial 27, 3) := by decide +kernel
theorem d9 : decode yB 9 = .ok (.return_, 1) := by decide +kernel
def site : List Cond := [New4.tab] ++ initW "java/lang/String" 27 New4.yN
def tab : Cond := tabOf yN yB 2 none site
def P (a : Addr) (D : Cell) (fV fC : Field) (b : Addr) (A : Cell) (z : Int32) (args : Array Value) (s : State) : Prop := args = #[.ref a, .ref b] ∧ Blank "java/lang/String" a D s ∧ Found "java/lang/String" "value" "[B" fV s ∧ Found "java/lang/String" "coder" "B" fC s ∧ Ch b A s ∧ StaticIs s "java/lang/String" "COMPACT_STRINGS" "Z" (.int z) ∧ ¬ z = 0 ∧ 0 < A.slots.size ∧ A.slots.size ≤ 536870912 ∧ ∀ i, i < A.slots.size → ¬ 255 < cv A i
def E (a : Addr) (D : Cell) (fV fC : Field) (A : Cell) (r : Option Value) (s u : State) : Prop := Got a D fV fC A 0 A.slots.size r s u
/-- new String(chars), not empty, no char above 255: a Latin-1 String of their low bytes -/
theorem law (l : Launch) (a : Addr) (D : Cell) (fV fC : Field) (b : Addr) (A : Cell) (z : Int32) : Law l yN 2 1 3 52 yB 2 none site (P a D fV fC b A z) (E a D fV fC A) [⟨a, fC.slot⟩, ⟨a, fV.slot⟩] 1 A.slots.size := by
  refine Law.of_walk (plainFor_of_name (by decide +kernel)) (by decide +kernel) (by decide +kernel) (by decide) (fun _ _ h => by rw [h.1]; rfl) (fun _ U U' hal hh h => ⟨h.1, h.2.1.mv hal hh, h.2.2.1.al hal, h.2.2.2.1.al hal, h.2.2.2.2.1.mv hal hh, h.2.2.2.2.2.1.there hal hh, h.2.2.2.2.2.2⟩) (fun r U U' V V' h1 hal h2 h => Got.mv r U U' V V' h1 hal h2 h) ?_
  intro p e s m args below meth c s₁ X0 hexec hbytes hml hret hlk hnm hown hh0 W hP
  obtain ⟨rfl, hB, f1, f2, hA, s1, hz, l0, l2, hp⟩ := hP
  have c1 : Steps p.tables e below (s₁.setTop (entryFrame m #[.ref a, .ref b] 2)) (s₁.setTop (mkF m 0 #[.val (.ref a), .val (.ref b)] [])) := entry rfl
  have c2 : Steps p.tables e below (s₁.setTop (entryFrame m #[.ref a, .ref b] 2)) (s₁.setTop (mkF m 6 #[.val (.ref a), .val (.ref b)] [.null, .int (Int32.ofNat A.slots.size), .int 0, .ref b, .ref a])) := c1.trans (by
    refine XS.aloadN X0.here hexec rfl (hb hbytes d0) rfl rfl ?_
    refine XS.aloadN X0.here hexec rfl (hb hbytes d1) rfl rfl ?_
    refine iconstV X0.here hexec rfl 0 (hb hbytes d2) (by decide) ?_
    refine XS.aloadN X0.here hexec rfl (hb hbytes d3) rfl rfl ?_
    refine X0.alen hexec (hA.1.mv X0.warmed.alike hh0) rfl rfl (hb hbytes d4) ?_
    refine XS.aconstNull X0.here hexec rfl (hb hbytes d5) ?_
    exact Steps.refl _)
  obtain ⟨v3, T3, X3, E3, g3⟩ := X0.callN hexec (New4.law l a D fV fC b A z 0 A.slots.size) rfl hown (wks W (initW "java/lang/String" 27 New4.yN)) (W New4.tab (by simp only [site, List.mem_cons, List.mem_append, true_or, or_true])) (W := 0) (Nat.le_of_ble_eq_true rfl) (Nat.le_of_ble_eq_true rfl) (Nat.le_refl _) (by show 0 + A.slots.size ≤ A.slots.size; omega) (g := (mkF m 6 #[.val (.ref a), .val (.ref b)] [.null, .int (Int32.ofNat A.slots.size), .int (Int32.ofNat 0), .ref b, .ref a])) rfl (by rw [hml]; rfl) c2 (argsL := [.ref b, .int (Int32.ofNat 0), .int (Int32.ofNat A.slots.size), .null]) (rest := []) rfl rfl (by show 2 * 0 + 0 ≤ _; decide) (hb hbytes d6) (⟨rfl, hB.mv X0.warmed.alike hh0, f1.al X0.warmed.alike, f2.al X0.warmed.alike, hA.mv X0.warmed.alike hh0, s1.there X0.warmed.alike hh0, hz, l0, by omega, l2, fun i hi => by rw [Nat.zero_add]; exact hp i hi⟩)
  have e0 := Got.mv _ s₁ s _ _ hh0.symm (Vm.Alike.refl _) rfl E3
  obtain rfl := e0.1
  have c4 : Steps p.tables e below (s₁.setTop (entryFrame m #[.ref a, .ref b] 2)) (T3.setTop (mkF m 9 #[.val (.ref a), .val (.ref b)] [])) := g3
  exact ⟨T3, none, _, _, _, X3, by simp, rfl, by omega, (fun _ => rfl), e0, fun fs hl => c4.trans (X3.returnOut hexec hret (hb hbytes d9) hl)⟩
theorem pays {l : Launch} {R : Room} {p : Program} {e : Env} {below : List Frame} {s : State} {sargs : Array Value} {len W : Nat} (a : Addr) (D : Cell) (fV fC : Field) (b : Addr) (A : Cell) (z : Int32) (htab : tab.before sargs s = true) (hfr : 4 ≤ R.frames) (hlo : W + 65 ≤ R.locals) :
    Back l R p e below s sargs yN len W (fun A₁ a₁ => A₁.cells + 1 ≤ R.cells ∧ A₁.slots + A.slots.size ≤ R.slots ∧ P a D fV fC b A z a₁ A₁.U) (fun A₁ _ v₁ B₁ => E a D fV fC A v₁ A₁.U B₁.U ∧ B₁.locs = A₁.locs ++ [⟨a, fC.slot⟩, ⟨a, fV.slot⟩] ∧ B₁.cells = A₁.cells + 1 ∧ B₁.slots = A₁.slots + A.slots.size) :=
  (law l a D fV fC b A z).pays htab hfr (by omega)
end New1
/-- the byte, read back as charAt reads it, is the char -/
theorem lo8_mask {x : Int32} (h0 : ¬ x < 0) (h1 : ¬ 255 < x) : lo8 x &&& 255 = x := by
  have t : ∀ k : Fin 256, lo8 (Int32.ofNat k.val) &&& 255 = Int32.ofNat k.val := by decide +kernel
  rw [Int32.lt_iff_toInt_lt] at h0 h1
  have e0 : (0 : Int32).toInt = 0 := rfl
  have e1 : (255 : Int32).toInt = 255 := rfl
  obtain ⟨k, hk⟩ : ∃ k : Nat, x.toInt = k := ⟨x.toInt.toNat, by omega⟩
  have hx : x = Int32.ofNat k := Int32.toInt_inj.mp (by rw [hk, Int32.toInt_ofNat_small (by omega)])
  rw [hx]
  exact t ⟨k, by omega⟩
end StrChars
namespace StrChars.Road
open Jvm Sem ClassFile Op Lib Jvm.Stand Jvm.Free Jvm.Free.XT
open Jvm.Lib.Cold (StaticIs)
abbrev ST : String := "java/lang/String"
/-- every table word that New1's law asks, flat -/
abbrev words : List Jvm.Cond := [.code New1.yN New1.yB 2 none, .initialized ST, .methodLink ST 27 New4.yN, .instanceMethod New4.yN,
  .code New4.yN New4.yB 6 none, .fieldLink ST 38 ST "COMPACT_STRINGS" "Z", .laysFinal ST ST "value" "[B", .fieldLink ST 9 ST "value" "[B", .laysFinal ST ST "coder" "B", .fieldLink ST 15 ST "coder" "B",
  .methodLink ST 1 Lib.objectInit, .instanceMethod Lib.objectInit, .code Lib.objectInit ⟨#[0xb1]⟩ 1 none, .methodLink ST 177 Cmp3.yN, .static Cmp3.yN, .methodLink ST 47 CodL.yN, .static CodL.yN,
  .code Cmp3.yN Cmp3.yB 6 (some (.array .byte)), .initialized U16, .arrayClass .byte, .methodLink U16 115 Cmp5.yN, .static Cmp5.yN, .code Cmp5.yN Cmp5.yB 7 (some .int), .code CodL.yN CodL.yB 2 (some .byte)]
theorem tab_of {a : Array Value} {s : State} (h : ∀ w ∈ words, w.before a s = true) : New1.tab.before a s = true := by
  have h5 : Cmp5.tab.before a s = true := unparts (wk h (.code Cmp5.yN Cmp5.yB 7 (some .int))) (wks h (.initialized Cmp5.yN.cls :: Cmp5.site))
  have hc : CodL.tab.before a s = true := unparts (wk h (.code CodL.yN CodL.yB 2 (some .byte))) (wks h (.initialized CodL.yN.cls :: CodL.site))
  have q5 : ∀ w ∈ Cmp5.tab :: words, w.before a s = true := fun w hw => (List.mem_cons.mp hw).elim (fun e => e ▸ h5) (h w)
  have h3 : Cmp3.tab.before a s = true := unparts (wk q5 (.code Cmp3.yN Cmp3.yB 6 (some (.array .byte)))) (wks q5 (.initialized Cmp3.yN.cls :: Cmp3.site))
  have q3 : ∀ w ∈ Cmp3.tab :: CodL.tab :: words, w.before a s = true := fun w hw => (List.mem_cons.mp hw).elim (fun e => e ▸ h3) fun hw => (List.mem_cons.mp hw).elim (fun e => e ▸ hc) (h w)
  have h4 : New4.tab.before a s = true := unparts (wk q3 (.code New4.yN New4.yB 6 none)) (wks q3 (.initialized New4.yN.cls :: New4.site))
  have q4 : ∀ w ∈ New4.tab :: words, w.before a s = true := fun w hw => (List.mem_cons.mp hw).elim (fun e => e ▸ h4) (h w)
  exact unparts (wk q4 (.code New1.yN New1.yB 2 none)) (wks q4 (.initialized New1.yN.cls :: New1.site))
/-- the words ride from the start Z to the walk's own state -/
theorem moved {Z s : State} {a0 args : Array Value} (hZ : Z.Warmed39 s.vm) (hw : ∀ d ∈ words, d.before a0 Z = true) : ∀ d ∈ words, d.before args s = true := fun d hd => by
  have q := hw d hd
  have t : ∀ d ∈ words, d = .arrayClass .byte ∨ (d.onTables && d.keepsFace) = true := by decide +kernel
  rcases t d hd with rfl | t
  · exact RoadKit.mvA hZ q
  · exact RoadKit.mv hZ q t
/-- WHAT COMES BACK, over the tables of the start Z: h the heap at the call, h' behind it -/
def Q (Z : State) (x : Addr) (A : Cell) (h : Heap) (v : Option Value) (h' : Heap) (L : List Loc) : Prop := v = none ∧ (∀ y ∈ L, y.base = x) ∧ RoadKit.Keep h h' [x] ∧ h'.size = h.size + 1 ∧ RoadKit.Exa Z h' x ST ∧ RoadKit.Fld Z h' x ST "value" "[B" (.ref h.size) ∧ RoadKit.Fld Z h' x ST "coder" "B" (.int 0) ∧
  (∃ V : Cell, RoadKit.Arr Z h' h.size V .byte ∧ V.vm = .none ∧ Z.vm.findClass "[B" = some V.cls ∧ V.slots.size = A.slots.size ∧ ∀ j, j < A.slots.size → V.slots[j]? = some (.int (lo8 (cv A j)))) ∧
  ∀ (O n d : String) (w : Value), RoadKit.Fld Z h x O n d w → RoadKit.slotOf Z O n d ≠ RoadKit.slotOf Z ST "value" "[B" → RoadKit.slotOf Z O n d ≠ RoadKit.slotOf Z ST "coder" "B" → RoadKit.Fld Z h' x O n d w
/-- **new String(chars) AT A CALL, IN THE ROAD'S FORM**: for specialBack behind newO: x the fresh String, b the char[] with the cell A -/
theorem back {p : Program} {l : Launch} {e : Env} {R : Room} {s : State} {args : Array Value} {below : List Frame} {len W : Nat} {Z : State} {a0 : Array Value} {h : Heap} (hZ : Z.Warmed39 s.vm) (hw : ∀ d ∈ words, d.before a0 Z = true) {kI : Nat} (wi : (Jvm.Cond.instantiable ST kI).before a0 Z = true)
    {x b : Addr} {A : Cell} {z : Int32} {v0 c0 : Value} (E : RoadKit.Exa Z h x ST) (V : RoadKit.Fld Z h x ST "value" "[B" v0) (C : RoadKit.Fld Z h x ST "coder" "B" c0) (K : RoadKit.Arr Z h b A .char) (hty : Typed .char A) (S : RoadKit.Sta Z h ST "COMPACT_STRINGS" "Z" (.int z)) (hz : ¬ z = 0)
    (l0 : 0 < A.slots.size) (l2 : A.slots.size ≤ 536870912) (hp : ∀ i, i < A.slots.size → ¬ 255 < cv A i) (hfr : 4 ≤ R.frames) (hlo : W + 65 ≤ R.locals) :
    Back l R p e below s args New1.yN len W (fun P a => a = #[.ref x, .ref b] ∧ P.U.heap = h ∧ P.cells + 1 ≤ R.cells ∧ P.slots + A.slots.size ≤ R.slots)
      (fun P _ v B => ∃ L, Q Z x A h v B.U.heap L ∧ B.locs = P.locs ++ L ∧ B.cells = P.cells + 1 ∧ B.slots = P.slots + A.slots.size) := by
  intro m meth c P g ig mk a X hg hsize hdg hW hn hp'
  obtain ⟨rfl, rfl, r1, r2⟩ := hp'
  have al : Z.vm.Alike P.U.vm := hZ.alike.trans X.warmed.alike
  obtain ⟨D, cfV, kV, iV, fV, hD, gV, stV, knV, obV, asV, slV⟩ := id V
  obtain ⟨D', cfC, kC, iC, fC, hD', gC, stC, -, -, asC, slC⟩ := id C
  cases hD.symm.trans hD'
  obtain ⟨D2, kD, e1, e2, e3, e4, e5⟩ := id E
  cases hD.symm.trans e1
  obtain ⟨c2, k2, i1, i2, i3, -⟩ := Cond.instantiable_spec wi
  cases e2.symm.trans i1
  cases e3.symm.trans i2
  obtain ⟨kU, u1, u2⟩ := al.2.2 _ _ e3
  have hB : Blank ST x D P.U := ⟨hD, ⟨knV, fun q hq => by rw [hq] at obV; cases obV⟩, by rw [al.findClass]; exact e2, kU, u1, by rw [u2]; exact i3, by rw [u2]; exact e5 i3⟩
  have F1 : Found ST "value" "[B" fV P.U := ⟨SBG.found_only al ⟨cfV, kV, iV, gV⟩, stV⟩
  have F2 : Found ST "coder" "B" fC P.U := ⟨SBG.found_only al ⟨cfC, kC, iC, gC⟩, stC⟩
  have hA : Ch b A P.U := ⟨⟨K.1, State.isArrayOf_alike al K.2.1, K.2.2, by omega⟩, hty⟩
  have hS : StaticIs P.U ST "COMPACT_STRINGS" "Z" (.int z) := by
    obtain ⟨cfS, iS, kS, fS, st, cS, t1, t2, t3, t4, t5, t6, t7⟩ := S
    exact StaticIs.there (s := { Z with heap := P.U.heap }) ⟨cfS, iS, kS, fS, st, cS, t1, t2, t3, t4, t5, (fun q => by rw [q] at t6; cases t6), t7⟩ al rfl
  obtain ⟨v, B, X', ⟨⟨hv, E', V', q1, q2, q3, q4, q5, q6, q7, q8, q9, q10, q11⟩, hl, hc, hs⟩, st⟩ := New1.pays x D fV fC b A z (tab_of (moved hZ hw)) hfr hlo m meth c P g ig mk _ X hg hsize hdg hW hn ⟨r1, r2, rfl, hB, F1, F2, hA, hS, hz, l0, l2, hp⟩
  have al' : Z.vm.Alike B.U.vm := hZ.alike.trans X'.warmed.alike
  have hsz : E'.slots.size = D.slots.size := by
    obtain ⟨-, -, -, kB, w1, w2, w3⟩ := q1
    obtain ⟨kB', y1, y2⟩ := al'.2.2 _ _ e3
    rw [q2.2.1] at w1
    cases w1.symm.trans y1
    rw [w3, e5 i3, y2]
  refine ⟨v, B, X', ⟨_, ⟨hv, ?_, ⟨by omega, fun y cy hy hn' => q10 y cy (by simpa using hn') hy, fun y cy hy => ?_⟩, q11, ⟨E', _, q1.1, by rw [q2.2.1]; exact e2, by rw [q2.2.1]; exact e3, by rw [q2.1]; exact obV, fun _ => by rw [hsz]; exact e5 i3⟩,
    ⟨E', cfV, kV, iV, fV, q1.1, gV, stV, by rw [q2.1]; exact knV, by rw [q2.1]; exact obV, by rw [q2.2.1]; exact asV, q3⟩, ⟨E', cfC, kC, iC, fC, q1.1, gC, stC, by rw [q2.1]; exact knV, by rw [q2.1]; exact obV, by rw [q2.2.1]; exact asC, q4⟩,
    ⟨V', ⟨q5.1, State.isArrayOf_alike al'.symm q5.2.1, q5.2.2.1⟩, q6, by rw [← al'.findClass]; exact q7, q8, fun j hj => by have := q9 j hj; rwa [Nat.zero_add] at this⟩, fun O n d w F n1 n2 => ?_⟩, hl, hc, hs⟩, st⟩
  · intro y hy
    simp only [List.mem_cons, List.not_mem_nil, or_false] at hy
    rcases hy with rfl | rfl <;> rfl
  · by_cases q : y = x
    · subst q
      cases hD.symm.trans hy
      exact ⟨E', q1.1, q2.2.1, q2.1, hsz⟩
    · exact ⟨cy, q10 y cy q hy, rfl, rfl, rfl⟩
  · obtain ⟨D3, cf, k, i, f, g1, g2, g3, g4, g5, g6, g7⟩ := F
    cases hD.symm.trans g1
    simp only [RoadKit.slotOf, g2, gV, gC, Option.map_some, Option.getD_some] at n1 n2
    exact ⟨E', cf, k, i, f, q1.1, g2, g3, by rw [q2.1]; exact g4, by rw [q2.1]; exact g5, by rw [q2.2.1]; exact g6, by rw [q2.2.2 f.slot (by simp [n1, n2])]; exact g7⟩
end StrChars.Road
namespace StrChars.Road
open Jvm Sem ClassFile Op Lib Jvm.Stand Jvm.Free Jvm.Free.XT
/-- WHAT COMES BACK, the byte[] as a list of values -/
def QA (Z : State) (x : Addr) (zn : Int32) (cs : List Int32) (h : Heap) (v : Option Value) (h' : Heap) (L : List Loc) : Prop := v = none ∧ (∀ y ∈ L, y.base = x) ∧ RoadKit.Keep h h' [x] ∧ h'.size = h.size + 1 ∧ RoadKit.Exa Z h' x ST ∧ RoadKit.Fld Z h' x ST "value" "[B" (.ref h.size) ∧ RoadKit.Fld Z h' x ST "coder" "B" (.int 0) ∧
  (∃ kb, Z.vm.findClass "[B" = some kb ∧ RoadKit.Arv Z h' h.size kb .byte zn (cs.map fun c => .int (lo8 c)) (.int 0)) ∧
  ∀ (O n d : String) (w : Value), RoadKit.Fld Z h x O n d w → RoadKit.slotOf Z O n d ≠ RoadKit.slotOf Z ST "value" "[B" → RoadKit.slotOf Z O n d ≠ RoadKit.slotOf Z ST "coder" "B" → RoadKit.Fld Z h' x O n d w
/-- **new String(chars) AT A CALL, THE ARRAYS AS LISTS**: the char[] at b holds cs, not empty, no char above 255 -/
theorem backArv {p : Program} {l : Launch} {e : Env} {R : Room} {s : State} {args : Array Value} {below : List Frame} {len W : Nat} {Z : State} {a0 : Array Value} {h : Heap} (hZ : Z.Warmed39 s.vm) (hw : ∀ d ∈ words, d.before a0 Z = true) {kI : Nat} (wi : (Jvm.Cond.instantiable ST kI).before a0 Z = true)
    {x b : Addr} {k : ClassId} {zn z : Int32} {cs : List Int32} {dv v0 c0 : Value} (E : RoadKit.Exa Z h x ST) (V : RoadKit.Fld Z h x ST "value" "[B" v0) (C : RoadKit.Fld Z h x ST "coder" "B" c0) (K : RoadKit.Arv Z h b k .char zn (cs.map Value.int) dv) (S : RoadKit.Sta Z h ST "COMPACT_STRINGS" "Z" (.int z)) (hz : ¬ z = 0)
    (hlen : zn.toNatClampNeg = cs.length) (h0 : 0 < cs.length) (hbig : cs.length ≤ 536870912) (hall : ∀ c ∈ cs, ¬ 255 < c) (hfr : 4 ≤ R.frames) (hlo : W + 65 ≤ R.locals) :
    Back l R p e below s args New1.yN len W (fun P a => a = #[.ref x, .ref b] ∧ P.U.heap = h ∧ P.cells + 1 ≤ R.cells ∧ P.slots + cs.length ≤ R.slots)
      (fun P _ v B => ∃ L, QA Z x zn cs h v B.U.heap L ∧ B.locs = P.locs ++ L ∧ B.cells = P.cells + 1 ∧ B.slots = P.slots + cs.length) := by
  obtain ⟨A, K1, K2, K3, K4, K5, K6⟩ := K
  have e : A.slots.size = cs.length := K3.trans hlen
  have hat : ∀ (i : Nat) (hi : i < cs.length), A.slots[i]? = some (.int cs[i]) := fun i hi => by rw [K5 i (by omega)]; simp [List.getD_eq_getElem?_getD, hi]
  have hcv : ∀ (i : Nat) (hi : i < cs.length), cv A i = cs[i] := fun i hi => by unfold cv; rw [hat i hi]
  have hty : Typed .char A := fun i v hv => by
    have hi : i < A.slots.size := (Array.getElem?_eq_some_iff.mp hv).1
    have q := K5 i hi
    rw [hv] at q
    rw [Option.some.inj q]
    exact K6 i hi
  refine Back.mono (back hZ hw wi E V C K1 hty S hz (by omega) (by omega) (fun i hi => by rw [hcv i (by omega)]; exact hall _ (List.getElem_mem _)) hfr hlo) (fun P a hp => ⟨hp.1, hp.2.1, hp.2.2.1, by rw [e]; exact hp.2.2.2⟩) (fun P a v B hp hq => ?_)
  obtain ⟨L, ⟨q1, q2, q3, q4, q5, q6, q7, ⟨V', v1, v2, v3, v4, v5⟩, q9⟩, hl, hc, hs⟩ := hq
  refine ⟨L, ⟨q1, q2, q3, q4, q5, q6, q7, ⟨V'.cls, v3, V', v1, rfl, by rw [v4, e, hlen], K4, fun i hi => ?_, fun i hi => ?_⟩, q9⟩, hl, hc, by rw [hs, e]⟩
  · have hi' : i < cs.length := by omega
    rw [v5 i (by omega), hcv i hi']; simp [List.getD_eq_getElem?_getD, hi']
  · have hi' : i < cs.length := by omega
    simp only [List.getD_eq_getElem?_getD, List.getElem?_map, List.getElem?_eq_getElem hi', Option.map_some, Option.getD_some]
    exact fits_lo8 _
end StrChars.Road
namespace StrChars.Road
open Jvm Sem ClassFile Op Lib Jvm.Stand Jvm.Free Jvm.Free.XT
/-- WHAT COMES BACK, in the writer's own shape -/
def QV (Z : State) (x : Addr) (N : Int32) (bs : List Int32) (h : Heap) (n0 : Nat) (v : Option Value) (h' : Heap) (L : List Loc) : Prop := v = none ∧ RoadKit.Fr n0 L ∧ RoadKit.Keep h h' [x] ∧ RoadKit.Exa Z h' x ST ∧ RoadKit.Fld Z h' x ST "coder" "B" (.int 0) ∧
  ∃ (t : Addr) (kb : ClassId), n0 ≤ t ∧ h.size ≤ t ∧ ¬ t = x ∧ RoadKit.Fld Z h' x ST "value" "[B" (.ref t) ∧ RoadKit.Arv Z h' t kb .byte N (bs.map Value.int) (.int 0)
/-- **new String(chars) AT A CALL, FOR THE WRITER**: a char[] of n known ints, each 0 to 255 -/
theorem backV {p : Program} {l : Launch} {e : Env} {R : Room} {s : State} {args : Array Value} {below : List Frame} {len W : Nat} {Z : State} {a0 : Array Value} {h : Heap} (hZ : Z.Warmed39 s.vm) (hw : ∀ d ∈ words, d.before a0 Z = true) {kI : Nat} (wi : (Jvm.Cond.instantiable ST kI).before a0 Z = true)
    {x b : Addr} {kC : ClassId} {cs bs : List Int32} {d v0 c0 : Value} {z N : Int32} {n n0 : Nat} (hx0 : n0 ≤ x) (hh0 : n0 ≤ h.size) (E : RoadKit.Exa Z h x ST) (V : RoadKit.Fld Z h x ST "value" "[B" v0) (C : RoadKit.Fld Z h x ST "coder" "B" c0) (K : RoadKit.Arv Z h b kC .char N (cs.map Value.int) d) (S : RoadKit.Sta Z h ST "COMPACT_STRINGS" "Z" (.int z)) (hz : ¬ z = 0)
    (hn : cs.length = n) (hN : N = Int32.ofNat n) (l0 : 0 < n) (l2 : n ≤ 4000) (hp : ∀ c ∈ cs, ¬ c < 0 ∧ ¬ (255 : Int32) < c) (hb : bs = cs.map (fun c => c.toInt8.toInt32)) (hfr : 4 ≤ R.frames) (hlo : W + 65 ≤ R.locals) :
    Back l R p e below s args (⟨"java/lang/String", "<init>", "([C)V"⟩ : MethodName) len W (fun P a => a = #[.ref x, .ref b] ∧ P.U.heap = h ∧ P.cells + 1 ≤ R.cells ∧ P.slots + n ≤ R.slots)
      (fun P _ v B => ∃ L, QV Z x N bs h n0 v B.U.heap L ∧ B.locs = P.locs ++ L ∧ B.cells = P.cells + 1 ∧ B.slots = P.slots + n) := by
  subst hn hN hb
  refine Back.mono (backArv hZ hw wi E V C K S hz (n32 (by omega)) l0 (by omega) (fun c hc => (hp c hc).2) hfr hlo) (fun P a hp => hp) (fun P a v B hp hq => ?_)
  obtain ⟨L, ⟨q1, q2, q3, q4, q5, q6, q7, ⟨kb, v1, v2⟩, q9⟩, hl, hc, hs⟩ := hq
  exact ⟨L, ⟨q1, fun y hy => by rw [q2 y hy]; exact hx0, q3, q5, q7, h.size, kb, hh0, Nat.le_refl _, Nat.ne_of_gt E.lt, q6, by rw [List.map_map]; exact v2⟩, hl, hc, hs⟩
end StrChars.Road
namespace StrChars
open Jvm Sem ClassFile Op Lib Jvm.Stand Jvm.Free.XT Jvm.Free.ALB Jvm.Free.JM Jvm.Free
open Jvm.Lib.Cold (StaticIs)
def hi8 (x : Int32) : Int32 := lo8 (x >>> ((8 : Int32) &&& 31))
/-- what StringUTF16.getChar makes of two bytes -/
def pairCh (u v : Int32) : Int32 := (((u &&& 255) <<< ((0 : Int32) &&& 31)) ||| ((v &&& 255) <<< ((8 : Int32) &&& 31))).toUInt32.toUInt16.toUInt32.toInt32
theorem lo8_and (x : Int32) : (lo8 x &&& 255).toBitVec.toNat = x.toBitVec.toNat % 256 := by
  have h : (lo8 x).toBitVec = (x.toBitVec.signExtend 8).signExtend 32 := by rw [lo8, Int8.toBitVec_toInt32, Int32.toBitVec_toInt8]
  rw [Int32.toBitVec_and, BitVec.toNat_and, h]
  have e : ((x.toBitVec.signExtend 8).signExtend 32).toNat % 256 = x.toBitVec.toNat % 256 := by
    rw [BitVec.toNat_signExtend]
    have hlt := x.toBitVec.isLt
    simp only [BitVec.toNat_setWidth, BitVec.toNat_signExtend]
    split <;> split <;> omega
  rw [← e]
  exact Nat.and_two_pow_sub_one_eq_mod _ 8
theorem pair_says {c : Int32} (h0 : ¬ c < 0) (h1 : ¬ 65535 < c) : pairCh (lo8 c) (hi8 c) = c := by
  rw [Int32.lt_iff_toInt_lt] at h0 h1
  have e0 : (0 : Int32).toInt = 0 := rfl
  have e1 : (65535 : Int32).toInt = 65535 := rfl
  have hc : c.toInt = c.toBitVec.toNat := by
    have := c.toBitVec.isLt
    have e : c.toInt = c.toBitVec.toInt := rfl
    rw [e] at h0 h1
    rw [e]
    rw [BitVec.toInt_eq_toNat_cond] at h0 h1 ⊢
    split at h0 <;> split <;> omega
  have hn : c.toBitVec.toNat < 65536 := by omega
  have a1 := lo8_and c
  have a2 : (hi8 c &&& 255).toBitVec.toNat = c.toBitVec.toNat / 256 := by
    rw [hi8, lo8_and]
    have e : ((8 : Int32) &&& 31) = 8 := by decide
    rw [e, Int32.toBitVec_shiftRight]
    have e2 : ((8 : Int32).toBitVec.smod 32) = 8#32 := by decide
    rw [e2, BitVec.sshiftRight_eq', BitVec.toNat_sshiftRight_of_msb_false (by rw [BitVec.msb_eq_false_iff_two_mul_lt]; omega)]
    show c.toBitVec.toNat >>> 8 % 256 = _
    rw [Nat.shiftRight_eq_div_pow]
    omega
  unfold pairCh
  apply Int32.toBitVec_inj.mp
  apply BitVec.eq_of_toNat_eq
  have f0 : ((0 : Int32) &&& 31) = 0 := by decide
  have f8 : ((8 : Int32) &&& 31) = 8 := by decide
  rw [f0, f8]
  have g : (((lo8 c &&& 255) <<< (0 : Int32)) ||| ((hi8 c &&& 255) <<< (8 : Int32))).toBitVec.toNat = c.toBitVec.toNat := by
    rw [Int32.toBitVec_or, Int32.toBitVec_shiftLeft, Int32.toBitVec_shiftLeft]
    have s0 : ((0 : Int32).toBitVec.smod 32) = 0#32 := by decide
    have s8 : ((8 : Int32).toBitVec.smod 32) = 8#32 := by decide
    rw [s0, s8, BitVec.toNat_or]
    simp only [BitVec.shiftLeft_eq', BitVec.toNat_shiftLeft, a1, a2]
    show (c.toBitVec.toNat % 256) <<< 0 % 2 ^ 32 ||| (c.toBitVec.toNat / 256) <<< 8 % 2 ^ 32 = _
    rw [Nat.shiftLeft_zero, Nat.mod_eq_of_lt (show c.toBitVec.toNat % 256 < 2 ^ 32 by omega), Nat.mod_eq_of_lt (show (c.toBitVec.toNat / 256) <<< 8 < 2 ^ 32 by rw [Nat.shiftLeft_eq]; omega), Nat.or_comm, ← Nat.shiftLeft_add_eq_or_of_lt (by omega), Nat.shiftLeft_eq]
    omega
  show BitVec.toNat (((((lo8 c &&& 255) <<< (0 : Int32)) ||| ((hi8 c &&& 255) <<< (8 : Int32))).toBitVec.setWidth 16).setWidth 32) = _
  rw [BitVec.toNat_setWidth, BitVec.toNat_setWidth, g]
  omega
end StrChars
namespace StrChars
open Jvm Sem ClassFile Op Lib Jvm.Stand Jvm.Free.XT Jvm.Free.ALB Jvm.Free.JM Jvm.Free
open Jvm.Lib.Cold (StaticIs)
/-- the array's cell V codes the n chars f 0 .. f (n - 1) by the coder cd, as the JDK does: coder 1 just where some char is above 255 -/
def Cod (cd : Int32) (n : Nat) (f : Nat → Int32) (V : Cell) : Prop := (cd = 0 ∧ V.slots.size = n ∧ ∀ j, j < n → V.slots[j]? = some (.int (lo8 (f j))) ∧ ¬ 255 < f j) ∨ (cd = 1 ∧ V.slots.size = 2 * n ∧ (∀ j, j < n → V.slots[2 * j]? = some (.int (lo8 (f j))) ∧ V.slots[2 * j + 1]? = some (.int (hi8 (f j)))) ∧ ∃ j, j < n ∧ 255 < f j)
/-- **x is a String of the n chars f 0 .. f (n - 1)**, Latin-1 or UTF-16; its array at t has the cell V -/
def Txt (x t : Addr) (V : Cell) (cd : Int32) (n : Nat) (f : Nat → Int32) (U : State) : Prop := Exact "java/lang/String" x U ∧ Has x "java/lang/String" "value" "[B" (.ref t) U ∧ Has x "java/lang/String" "coder" "B" (.int cd) U ∧ XT.Arr .byte t V U ∧ Cod cd n f V ∧ ∀ j, j < n → ¬ f j < 0 ∧ ¬ 65535 < f j
theorem Txt.mv {x t : Addr} {V : Cell} {cd : Int32} {n : Nat} {f : Nat → Int32} {U U' : State} (h : Txt x t V cd n f U) (hal : U.vm.Alike U'.vm) (hh : U'.heap = U.heap) : Txt x t V cd n f U' := ⟨h.1.mv hal hh, h.2.1.mv hal hh, h.2.2.1.mv hal hh, h.2.2.2.1.mv hal hh, h.2.2.2.2⟩
end StrChars
namespace StrChars.Road
open Jvm Sem ClassFile Op Lib Jvm.Stand Jvm.Free Jvm.Free.XT
open Jvm.Lib.Cold (StaticIs)
theorem consq {a : Array Value} {s : State} {c : Jvm.Cond} {L : List Jvm.Cond} (h0 : c.before a s = true) (h : ∀ w ∈ L, w.before a s = true) : ∀ w ∈ c :: L, w.before a s = true := fun w hw => (List.mem_cons.mp hw).elim (fun e => e ▸ h0) (h w)
/-- the bytes of the chars cs, low before high -/
def wideBytes : List Int32 → List Value
  | [] => []
  | c :: cs => .int (lo8 c) :: .int (hi8 c) :: wideBytes cs
theorem wide_lo (d : Value) : ∀ (cs : List Int32) (j : Nat), j < cs.length → (wideBytes cs).getD (2 * j) d = .int (lo8 (cs.getD j 0))
  | [], j, h => absurd h (Nat.not_lt_zero j)
  | c :: cs, 0, _ => rfl
  | c :: cs, j + 1, h => by
    have q := wide_lo d cs j (by simpa using h)
    rw [show 2 * (j + 1) = 2 * j + 1 + 1 from by omega]
    simpa [wideBytes] using q
theorem wide_hi (d : Value) : ∀ (cs : List Int32) (j : Nat), j < cs.length → (wideBytes cs).getD (2 * j + 1) d = .int (hi8 (cs.getD j 0))
  | [], j, h => absurd h (Nat.not_lt_zero j)
  | c :: cs, 0, _ => rfl
  | c :: cs, j + 1, h => by
    have q := wide_hi d cs j (by simpa using h)
    rw [show 2 * (j + 1) + 1 = 2 * j + 1 + 1 + 1 from by omega]
    simpa [wideBytes] using q
theorem low_at (d : Value) (cs : List Int32) (j : Nat) (h : j < cs.length) : (cs.map fun c => Value.int (lo8 c)).getD j d = .int (lo8 (cs.getD j 0)) := by
  simp [List.getD_eq_getElem?_getD, h]
/-- an array of N2 bytes vs codes the chars cs by the coder cd -/
def CodA (cs : List Int32) (cd N2 : Int32) (vs : List Value) : Prop := (cd = 0 ∧ N2 = Int32.ofNat cs.length ∧ vs = (cs.map fun c => Value.int (lo8 c)) ∧ ∀ c ∈ cs, ¬ 255 < c) ∨ (cd = 1 ∧ N2 = Int32.ofNat (2 * cs.length) ∧ vs = wideBytes cs ∧ ∃ c ∈ cs, 255 < c)
theorem CodA.cod {cs : List Int32} {cd N2 : Int32} {vs : List Value} {V : Cell} (h : CodA cs cd N2 vs) (hn : 2 * cs.length < 2 ^ 31) (hs : V.slots.size = N2.toNatClampNeg) (hv : RoadKit.Has V vs (.int 0)) : Cod cd cs.length (fun j => cs.getD j 0) V := by
  rcases h with ⟨rfl, rfl, rfl, h⟩ | ⟨rfl, rfl, rfl, c, hc, hw⟩
  · rw [n32 (by omega)] at hs
    exact Or.inl ⟨rfl, hs, fun j hj => ⟨by rw [hv j (by omega), low_at _ _ _ hj], by
      have e : cs.getD j 0 = cs[j] := by simp [List.getD_eq_getElem?_getD, hj]
      show ¬ 255 < cs.getD j 0
      rw [e]; exact h _ (List.getElem_mem _)⟩⟩
  · rw [n32 (by omega)] at hs
    obtain ⟨j, hj, rfl⟩ := List.getElem_of_mem hc
    exact Or.inr ⟨rfl, hs, fun j hj => ⟨by rw [hv _ (by omega), wide_lo _ _ _ hj], by rw [hv _ (by omega), wide_hi _ _ _ hj]⟩, j, hj, by
      have e : cs.getD j 0 = cs[j] := by simp [List.getD_eq_getElem?_getD, hj]
      show 255 < cs.getD j 0
      rw [e]; exact hw⟩
/-- an object of exactly java/lang/String, its two fields found: as the laws ask it -/
theorem strObj {Z U : State} {a0 : Array Value} {kI : Nat} (wi : (Jvm.Cond.instantiable ST kI).before a0 Z = true) (al : Z.vm.Alike U.vm) {x : Addr} {v0 c0 : Value} (E : RoadKit.Exa Z U.heap x ST) (V : RoadKit.Fld Z U.heap x ST "value" "[B" v0) (C : RoadKit.Fld Z U.heap x ST "coder" "B" c0) :
    ∃ (D : Cell) (fV fC : Field), Blank ST x D U ∧ Found ST "value" "[B" fV U ∧ Found ST "coder" "B" fC U ∧ D.slots[fV.slot]? = some v0 ∧ D.slots[fC.slot]? = some c0 ∧ RoadKit.slotOf Z ST "value" "[B" = fV.slot ∧ RoadKit.slotOf Z ST "coder" "B" = fC.slot := by
  obtain ⟨D, cfV, kV, iV, fV, hD, gV, stV, knV, obV, asV, slV⟩ := V
  obtain ⟨D', cfC, kC, iC, fC, hD', gC, stC, -, -, asC, slC⟩ := C
  cases hD.symm.trans hD'
  obtain ⟨D2, kD, e1, e2, e3, e4, e5⟩ := E
  cases hD.symm.trans e1
  obtain ⟨c2, k2, i1, i2, i3, -⟩ := Cond.instantiable_spec wi
  cases e2.symm.trans i1
  cases e3.symm.trans i2
  obtain ⟨kU, u1, u2⟩ := al.2.2 _ _ e3
  exact ⟨D, fV, fC, ⟨hD, ⟨knV, fun q hq => by rw [hq] at obV; cases obV⟩, by rw [al.findClass]; exact e2, kU, u1, by rw [u2]; exact i3, by rw [u2]; exact e5 i3⟩, ⟨SBG.found_only al ⟨cfV, kV, iV, gV⟩, stV⟩, ⟨SBG.found_only al ⟨cfC, kC, iC, gC⟩, stC⟩, slV, slC, by simp [RoadKit.slotOf, gV], by simp [RoadKit.slotOf, gC]⟩
theorem sta_is {Z U : State} (al : Z.vm.Alike U.vm) {C n d : String} {v : Value} (S : RoadKit.Sta Z U.heap C n d v) : StaticIs U C n d v := by
  obtain ⟨cfS, iS, kS, fS, st, cS, t1, t2, t3, t4, t5, t6, t7⟩ := S
  exact StaticIs.there (s := { Z with heap := U.heap }) ⟨cfS, iS, kS, fS, st, cS, t1, t2, t3, t4, t5, (fun q => by rw [q] at t6; cases t6), t7⟩ al rfl
end StrChars.Road
namespace StrChars
open Jvm Sem ClassFile Op Lib Jvm.Stand Jvm.Free.XT Jvm.Free.ALB Jvm.Free.JM Jvm.Free
open Jvm.Lib.Cold (StaticIs)
/-- what place i of a byte[]'s cell holds -/
def yv (A : Cell) (i : Nat) : Int32 := match A.slots[i]? with | some (.int x) => x | _ => 0
theorem yv_get {a : Addr} {A : Cell} {U : State} (h : XT.Arr .byte a A U) (ht : Typed .byte A) {i : Nat} (hi : i < A.slots.size) : A.slots[i]? = some (.int (yv A i)) := by
  have e := Array.getElem?_eq_getElem hi
  have f := ht i _ e
  unfold yv; rw [e]
  generalize A.slots[i] = v at f
  cases v <;> simp [fits] at f ⊢
/-- the two arrays are equal, place for place -/
def EqC (A B : Cell) : Prop := A.slots.size = B.slots.size ∧ ∀ i, i < A.slots.size → yv A i = yv B i
/-- a boolean that says whether p -/
def Says01 (q : Prop) (r : Option Value) (s u : State) : Prop := ∃ v : Int32, r = some (.int v) ∧ u.heap = s.heap ∧ ((v = 1 ∧ q) ∨ (v = 0 ∧ ¬ q))
theorem Says01.mv {q : Prop} : ∀ r (U U' V V' : State), U'.heap = U.heap → V.vm.Alike V'.vm → V'.heap = V.heap → Says01 q r U V → Says01 q r U' V' :=
  fun r U U' V V' h1 _ h2 ⟨v, a, b, c⟩ => ⟨v, a, by rw [h1, h2]; exact b, c⟩
namespace LEq
def yN : MethodName := ⟨"java/lang/StringLatin1", "equals", "([B[B)Z"⟩
abbrev yB : ByteArray := jdk_43_method_13_code
theorem d0 : decode yB 0 = .ok (.aload_n 0, 1) := by decide +kernel
theorem d1 : decode yB 1 = .ok (.arraylength, 1) := by decide +kernel
theorem d2 : decode yB 2 = .ok (.aload_n 1, 1) := by decide +kernel
theorem d3 : decode yB 3 = .ok (.arraylength, 1) := by decide +kernel
theorem d4 : decode yB 4 = .ok (.if_icmp (.ne) 30, 3) := by decide +kernel
theorem d7 : decode yB 7 = .ok (.iconst 0, 1) := by decide +kernel
theorem d8 : decode yB 8 = .ok (.istore_n 2, 1) := by decide +kernel
theorem d9 : decode yB 9 = .ok (.iload_n 2, 1) := by decide +kernel
theorem d10 : decode yB 10 = .ok (.aload_n 0, 1) := by decide +kernel
theorem d11 : decode yB 11 = .ok (.arraylength, 1) := by decide +kernel
theorem d12 : decode yB 12 = .ok (.if_icmp (.ge) 20, 3) := by decide +kernel
theorem d15 : decode yB 15 = .ok (.aload_n 0, 1) := by decide +kernel
theorem d16 : decode yB 16 = .ok (.iload_n 2, 1) := by decide +kernel
theorem d17 : decode yB 17 = .ok (.baload, 1) := by decide +kernel
theorem d18 : decode yB 18 = .ok (.aload_n 1, 1) := by decide +kernel
theorem d19 : decode yB 19 = .ok (.iload_n 2, 1) := by decide +kernel
theorem d20 : decode yB 20 = .ok (.baload, 1) := by decide +kernel
theorem d21 : decode yB 21 = .ok (.if_icmp (.eq) 5, 3) := by decide +kernel
theorem d24 : decode yB 24 = .ok (.iconst 0, 1) := by decide +kernel
theorem d25 : decode yB 25 = .ok (.ireturn, 1) := by decide +kernel
theorem d26 : decode yB 26 = .ok (.iinc 2 1, 3) := by decide +kernel
theorem d29 : decode yB 29 = .ok (.goto (-20), 3) := by decide +kernel
theorem d32 : decode yB 32 = .ok (.iconst 1, 1) := by decide +kernel
theorem d33 : decode yB 33 = .ok (.ireturn, 1) := by decide +kernel
theorem d34 : decode yB 34 = .ok (.iconst 0, 1) := by decide +kernel
theorem d35 : decode yB 35 = .ok (.ireturn, 1) := by decide +kernel
def site : List Cond := []
def tab : Cond := tabOf yN yB 3 (some .boolean) site
def P (a : Addr) (A : Cell) (b : Addr) (B : Cell) (args : Array Value) (s : State) : Prop := args = #[.ref a, .ref b] ∧ XT.Arr .byte a A s ∧ Typed .byte A ∧ XT.Arr .byte b B s ∧ Typed .byte B
/-- whether two byte[] are equal, place for place -/
theorem law (l : Launch) (a : Addr) (A : Cell) (b : Addr) (B : Cell) : Law l yN 2 2 0 0 yB 3 (some .boolean) site (P a A b B) (Says01 (EqC A B)) [] 0 0 := by
  refine Law.of_walk (plainFor_of_name (by decide +kernel)) (by decide +kernel) (by decide +kernel) (by decide) (fun _ _ h => by rw [h.1]; rfl) (fun _ U U' hal hh h => ⟨h.1, h.2.1.mv hal hh, h.2.2.1, h.2.2.2.1.mv hal hh, h.2.2.2.2⟩) (fun r U U' V V' h1 hal h2 h => Says01.mv r U U' V V' h1 hal h2 h) ?_
  intro p e s m args below meth c s₁ X0 hexec hbytes hml hret hlk hnm hown hh0 W hP
  obtain ⟨rfl, hA, tA, hB, tB⟩ := hP
  have a31 := hA.2.2.2
  have b31 := hB.2.2.2
  have hA0 := hA.mv X0.warmed.alike hh0
  have hB0 := hB.mv X0.warmed.alike hh0
  have c1 : Steps p.tables e below (s₁.setTop (entryFrame m #[.ref a, .ref b] 3)) (s₁.setTop (mkF m 0 #[.val (.ref a), .val (.ref b), .unset] [])) := entry rfl
  have c2 : Steps p.tables e below (s₁.setTop (entryFrame m #[.ref a, .ref b] 3)) (s₁.setTop (mkF m 4 #[.val (.ref a), .val (.ref b), .unset] [.int (Int32.ofNat B.slots.size), .int (Int32.ofNat A.slots.size)])) := c1.trans (by
    refine XS.aloadN X0.here hexec rfl (hb hbytes d0) rfl rfl ?_
    refine X0.alen hexec hA0 rfl rfl (hb hbytes d1) ?_
    refine XS.aloadN X0.here hexec rfl (hb hbytes d2) rfl rfl ?_
    refine X0.alen hexec hB0 rfl rfl (hb hbytes d3) ?_
    exact Steps.refl _)
  by_cases hs : A.slots.size = B.slots.size
  · have c3 : Steps p.tables e below (s₁.setTop (entryFrame m #[.ref a, .ref b] 3)) (s₁.setTop (mkF m 9 #[.val (.ref a), .val (.ref b), .val (.int 0)] [])) := c2.trans (by
      refine XS.icmpNo X0.here hexec rfl (hb hbytes d4) rfl (ii_ne_f (by rw [hs])) ?_
      refine iconstV X0.here hexec rfl 0 (hb hbytes d7) (by decide) ?_
      refine XS.istoreN X0.here hexec rfl (hb hbytes d8) rfl rfl ?_
      exact Steps.refl _)
    have loop : ∀ (r i : Nat), i + r = A.slots.size → (∀ j, j < i → yv A j = yv B j) → Steps p.tables e below (s₁.setTop (entryFrame m #[.ref a, .ref b] 3)) (s₁.setTop (mkF m 9 #[.val (.ref a), .val (.ref b), .val (.int (Int32.ofNat i))] [])) → ∃ (pc : Nat) (Ls : Array Slot) (v : Int32), (pc = 25 ∨ pc = 33) ∧ ((v = 1 ∧ EqC A B) ∨ (v = 0 ∧ ¬ EqC A B)) ∧ Steps p.tables e below (s₁.setTop (entryFrame m #[.ref a, .ref b] 3)) (s₁.setTop (mkF m pc Ls [.int v])) := by
      intro r
      induction r with
      | zero =>
        intro i hi he cl
        exact ⟨33, _, 1, Or.inr rfl, Or.inl ⟨rfl, hs, fun j hj => he j (by omega)⟩, cl.trans (by
          refine XS.iloadN X0.here hexec rfl (hb hbytes d9) rfl ?_
          refine XS.aloadN X0.here hexec rfl (hb hbytes d10) rfl rfl ?_
          refine X0.alen hexec hA0 rfl rfl (hb hbytes d11) ?_
          refine XS.icmpYes X0.here hexec rfl (pc0 := 12) rfl (hb hbytes d12) rfl (ii_ge_t (nlt32 (by omega) (by omega))) (by decide) rfl ?_
          refine iconstV X0.here hexec rfl 1 (hb hbytes d32) (by decide) ?_
          exact Steps.refl _)⟩
      | succ r ih =>
        intro i hi he cl
        have c4 : Steps p.tables e below (s₁.setTop (entryFrame m #[.ref a, .ref b] 3)) (s₁.setTop (mkF m 21 #[.val (.ref a), .val (.ref b), .val (.int (Int32.ofNat i))] [.int (yv B i), .int (yv A i)])) := cl.trans (by
          refine XS.iloadN X0.here hexec rfl (hb hbytes d9) rfl ?_
          refine XS.aloadN X0.here hexec rfl (hb hbytes d10) rfl rfl ?_
          refine X0.alen hexec hA0 rfl rfl (hb hbytes d11) ?_
          refine XS.icmpNo X0.here hexec rfl (hb hbytes d12) rfl (ii_ge_f (lt32 (by omega) (by omega))) ?_
          refine XS.aloadN X0.here hexec rfl (hb hbytes d15) rfl rfl ?_
          refine XS.iloadN X0.here hexec rfl (hb hbytes d16) rfl ?_
          refine X0.aget hexec hA0 rfl (yv_get hA tA (i := i) (by omega)) rfl rfl (hb hbytes d17) ?_
          refine XS.aloadN X0.here hexec rfl (hb hbytes d18) rfl rfl ?_
          refine XS.iloadN X0.here hexec rfl (hb hbytes d19) rfl ?_
          refine X0.aget hexec hB0 rfl (yv_get hB tB (i := i) (by omega)) rfl rfl (hb hbytes d20) ?_
          exact Steps.refl _)
        by_cases hv : yv A i = yv B i
        · have c5 : Steps p.tables e below (s₁.setTop (entryFrame m #[.ref a, .ref b] 3)) (s₁.setTop (mkF m 9 #[.val (.ref a), .val (.ref b), .val (.int (Int32.ofNat i + 1))] [])) := c4.trans (by
            refine XS.icmpYes X0.here hexec rfl (pc0 := 21) rfl (hb hbytes d21) rfl (ii_eq_t hv) (by decide) rfl ?_
            refine iincV X0.here hexec rfl 1 (hb hbytes d26) (by decide) rfl rfl ?_
            refine XS.goto X0.here hexec rfl (pc0 := 29) rfl (hb hbytes d29) (by decide) rfl ?_
            exact Steps.refl _)
          rw [succ32] at c5
          exact ih (i + 1) (by omega) (fun j hj => by
            by_cases e : j = i
            · rw [e]; exact hv
            · exact he j (by omega)) c5
        · exact ⟨25, _, 0, Or.inl rfl, Or.inr ⟨rfl, fun q => hv (q.2 i (by omega))⟩, c4.trans (by
            refine XS.icmpNo X0.here hexec rfl (hb hbytes d21) rfl (ii_eq_f hv) ?_
            refine iconstV X0.here hexec rfl 0 (hb hbytes d24) (by decide) ?_
            exact Steps.refl _)⟩
    obtain ⟨pc, Ls, v, hpc, hv, cz⟩ := loop A.slots.size 0 (by omega) (fun j hj => absurd hj (Nat.not_lt_zero j)) c3
    have nv : narrow .boolean (.int v) = .int v := by rcases hv with ⟨rfl, -⟩ | ⟨rfl, -⟩ <;> rfl
    rcases hpc with rfl | rfl
    · exact ⟨s₁, some (.int v), _, _, _, X0, rfl, rfl, rfl, (fun h => by cases h), ⟨v, rfl, hh0, hv⟩, fun fs hl => cz.trans (X0.ireturnOut hexec hret nv (Or.inr (Or.inl rfl)) (hb hbytes d25) hl)⟩
    · exact ⟨s₁, some (.int v), _, _, _, X0, rfl, rfl, rfl, (fun h => by cases h), ⟨v, rfl, hh0, hv⟩, fun fs hl => cz.trans (X0.ireturnOut hexec hret nv (Or.inr (Or.inl rfl)) (hb hbytes d33) hl)⟩
  · have c3 : Steps p.tables e below (s₁.setTop (entryFrame m #[.ref a, .ref b] 3)) (s₁.setTop (mkF m 35 #[.val (.ref a), .val (.ref b), .unset] [.int 0])) := c2.trans (by
      refine XS.icmpYes X0.here hexec rfl (pc0 := 4) rfl (hb hbytes d4) rfl (ii_ne_t (ne32 a31 b31 hs)) (by decide) rfl ?_
      refine iconstV X0.here hexec rfl 0 (hb hbytes d34) (by decide) ?_
      exact Steps.refl _)
    exact ⟨s₁, some (.int 0), _, _, _, X0, rfl, rfl, rfl, (fun h => by cases h), ⟨0, rfl, hh0, Or.inr ⟨rfl, fun q => hs q.1⟩⟩, fun fs hl => c3.trans (X0.ireturnOut hexec hret rfl (Or.inr (Or.inl rfl)) (hb hbytes d35) hl)⟩
end LEq
theorem Cod.ty {cd : Int32} {n : Nat} {f : Nat → Int32} {V : Cell} (h : Cod cd n f V) : Typed .byte V := fun i v hv => by
  have hi : i < V.slots.size := (Array.getElem?_eq_some_iff.mp hv).1
  rcases h with ⟨-, k1, k2⟩ | ⟨-, k1, k2, -⟩
  · rw [(k2 i (by omega)).1] at hv; cases hv; exact fits_lo8 _
  · rcases Nat.mod_two_eq_zero_or_one i with e | e
    · obtain ⟨j, rfl⟩ : ∃ j, i = 2 * j := ⟨i / 2, by omega⟩
      rw [(k2 j (by omega)).1] at hv; cases hv; exact fits_lo8 _
    · obtain ⟨j, rfl⟩ : ∃ j, i = 2 * j + 1 := ⟨i / 2, by omega⟩
      rw [(k2 j (by omega)).2] at hv; cases hv; exact fits_lo8 _
/-- the same text -/
def SameT (n : Nat) (f : Nat → Int32) (k : Nat) (g : Nat → Int32) : Prop := n = k ∧ ∀ j, j < n → f j = g j
theorem lo8_inj {x y : Int32} (h0 : ¬ x < 0) (h1 : ¬ 255 < x) (k0 : ¬ y < 0) (k1 : ¬ 255 < y) (h : lo8 x = lo8 y) : x = y := by
  rw [← lo8_mask h0 h1, ← lo8_mask k0 k1, h]
/-- arrays coded by one coder are equal just where the texts are -/
theorem Cod.eqv {cd : Int32} {n k : Nat} {f g : Nat → Int32} {V V' : Cell} (h : Cod cd n f V) (h' : Cod cd k g V') (hf : ∀ j, j < n → ¬ f j < 0 ∧ ¬ 65535 < f j) (hg : ∀ j, j < k → ¬ g j < 0 ∧ ¬ 65535 < g j) : EqC V V' ↔ SameT n f k g := by
  have yvv : ∀ {W : Cell} {i : Nat} {x : Int32}, W.slots[i]? = some (.int x) → yv W i = x := fun q => by unfold yv; rw [q]
  rcases h with ⟨rfl, k1, k2⟩ | ⟨rfl, k1, k2, -⟩
  · rcases h' with ⟨-, m1, m2⟩ | ⟨e, -⟩
    · constructor
      · rintro ⟨e1, e2⟩
        refine ⟨by omega, fun j hj => ?_⟩
        have q := e2 j (by omega)
        rw [yvv (k2 j hj).1, yvv (m2 j (by omega)).1] at q
        exact lo8_inj (hf j hj).1 (k2 j hj).2 (hg j (by omega)).1 (m2 j (by omega)).2 q
      · rintro ⟨rfl, e2⟩
        refine ⟨by omega, fun j hj => ?_⟩
        rw [yvv (k2 j (by omega)).1, yvv (m2 j (by omega)).1, e2 j (by omega)]
    · exact absurd e (by decide)
  · rcases h' with ⟨e, -⟩ | ⟨-, m1, m2, -⟩
    · exact absurd e (by decide)
    · constructor
      · rintro ⟨e1, e2⟩
        refine ⟨by omega, fun j hj => ?_⟩
        have q1 := e2 (2 * j) (by omega)
        have q2 := e2 (2 * j + 1) (by omega)
        rw [yvv (k2 j hj).1, yvv (m2 j (by omega)).1] at q1
        rw [yvv (k2 j hj).2, yvv (m2 j (by omega)).2] at q2
        rw [← pair_says (hf j hj).1 (hf j hj).2, ← pair_says (hg j (by omega)).1 (hg j (by omega)).2, q1, q2]
      · rintro ⟨rfl, e2⟩
        refine ⟨by omega, fun i hi => ?_⟩
        rcases Nat.mod_two_eq_zero_or_one i with e | e
        · obtain ⟨j, rfl⟩ : ∃ j, i = 2 * j := ⟨i / 2, by omega⟩
          rw [yvv (k2 j (by omega)).1, yvv (m2 j (by omega)).1, e2 j (by omega)]
        · obtain ⟨j, rfl⟩ : ∃ j, i = 2 * j + 1 := ⟨i / 2, by omega⟩
          rw [yvv (k2 j (by omega)).2, yvv (m2 j (by omega)).2, e2 j (by omega)]
/-- two codings differ: so do the texts -/
theorem Cod.dif {cd cd' : Int32} {n k : Nat} {f g : Nat → Int32} {V V' : Cell} (h : Cod cd n f V) (h' : Cod cd' k g V') (hne : ¬ cd = cd') : ¬ SameT n f k g := by
  rintro ⟨rfl, e⟩
  rcases h with ⟨rfl, -, k2⟩ | ⟨rfl, -, -, j, hj, hw⟩
  · rcases h' with ⟨rfl, -⟩ | ⟨-, -, -, j, hj, hw⟩
    · exact hne rfl
    · exact (k2 j hj).2 (by rw [e j hj]; exact hw)
  · rcases h' with ⟨-, -, m2⟩ | ⟨rfl, -⟩
    · exact (m2 j hj).2 (by rw [← e j hj]; exact hw)
    · exact hne rfl
/-- an object of exactly C is an instance of C -/
theorem cinst {p : Program} {l : Launch} {e : Env} {R : Room} {s : State} {m : MethodId} {args : Array Value} {below : List Frame} {meth : Method} {c : Code} {T : State} {locs : List Loc} {cells slots : Nat} (X : Stand p l e R s m args below meth c T locs cells slots) (hexec : p.tables.exec = Jvm.exec) {own C : String} {index : Nat} (hown : s.vm.findClass own = some m.cls) (hlink : (Cond.classLink own index C).before args s = true) {a : Addr} (hE : Exact C a T)
    {g : JFrame} (hg : g.method = m) {rest : List Value} (hstack : g.stack = .ref a :: rest) (hdg : decode c.code g.pc = .ok (.instanceof index, 3)) :
    ∃ T', Stand p l e R s m args below meth c T' locs cells slots ∧ T'.heap = T.heap ∧ ∀ target, Steps p.tables e below (T'.setTop { g with pc := g.pc + 3, stack := .int 1 :: rest }) target → Steps p.tables e below (T.setTop g) target := by
  obtain ⟨cB, h1, D, h2, h3, h4⟩ := hE
  have h1' : s.vm.findClass C = some cB := by rw [← X.warmed.alike.findClass]; exact h1
  obtain ⟨vm', X', st⟩ := X.instanceofYes hexec hown hlink h2 h4 h1' (by rw [h3]; exact Jvm.Free.SB.assignable_self _ _) hg hstack hdg
  exact ⟨_, X', rfl, st⟩
theorem cself {p : Program} {l : Launch} {e : Env} {R : Room} {s : State} {m : MethodId} {args : Array Value} {below : List Frame} {meth : Method} {c : Code} {T : State} {locs : List Loc} {cells slots : Nat} (X : Stand p l e R s m args below meth c T locs cells slots) (hexec : p.tables.exec = Jvm.exec) {own C : String} {index : Nat} (hown : s.vm.findClass own = some m.cls) (hlink : (Cond.classLink own index C).before args s = true) {a : Addr} (hE : Exact C a T)
    {g : JFrame} (hg : g.method = m) {rest : List Value} (hstack : g.stack = .ref a :: rest) (hdg : decode c.code g.pc = .ok (.checkcast index, 3)) :
    ∃ T', Stand p l e R s m args below meth c T' locs cells slots ∧ T'.heap = T.heap ∧ ∀ target, Steps p.tables e below (T'.setTop { g with pc := g.pc + 3, stack := .ref a :: rest }) target → Steps p.tables e below (T.setTop g) target := by
  obtain ⟨cB, h1, D, h2, h3, h4⟩ := hE
  have h1' : s.vm.findClass C = some cB := by rw [← X.warmed.alike.findClass]; exact h1
  obtain ⟨vm', X', st⟩ := X.checkcastYes hexec hown hlink h2 h4 h1' (by rw [h3]; exact Jvm.Free.SB.assignable_self _ _) hg hstack hdg
  exact ⟨_, X', rfl, fun t h => st t (by rw [← hstack] at h; exact h)⟩
namespace SEq
def yN : MethodName := ⟨"java/lang/String", "equals", "(Ljava/lang/Object;)Z"⟩
abbrev yB : ByteArray := jdk_42_method_66_code
theorem d0 : decode yB 0 = .ok (.aload_n 0, 1) := by decide +kernel
theorem d1 : decode yB 1 = .ok (.aload_n 1, 1) := by decide +kernel
theorem d2 : decode yB 2 = .ok (.if_acmp (.ne) 5, 3) := by decide +kernel
theorem d5 : decode yB 5 = .ok (.iconst 1, 1) := by decide +kernel
theorem d6 : decode yB 6 = .ok (.ireturn, 1) := by decide +kernel
theorem d7 : decode yB 7 = .ok (.aload_n 1, 1) := by decide +kernel
theorem d8 : decode yB 8 = .ok (.instanceof 10, 3) := by decide +kernel
theorem d11 : decode yB 11 = .ok (.ifCond (.eq) 43, 3) := by decide +kernel
theorem d14 : decode yB 14 = .ok (.aload_n 1, 1) := by decide +kernel
theorem d15 : decode yB 15 = .ok (.checkcast 10, 3) := by decide +kernel
theorem d18 : decode yB 18 = .ok (.astore_n 2, 1) := by decide +kernel
theorem d19 : decode yB 19 = .ok (.getstatic 38, 3) := by decide +kernel
theorem d22 : decode yB 22 = .ok (.ifCond (.eq) 14, 3) := by decide +kernel
theorem d25 : decode yB 25 = .ok (.aload_n 0, 1) := by decide +kernel
theorem d26 : decode yB 26 = .ok (.getfield 15, 3) := by decide +kernel
theorem d29 : decode yB 29 = .ok (.aload_n 2, 1) := by decide +kernel
theorem d30 : decode yB 30 = .ok (.getfield 15, 3) := by decide +kernel
theorem d33 : decode yB 33 = .ok (.if_icmp (.ne) 21, 3) := by decide +kernel
theorem d36 : decode yB 36 = .ok (.aload_n 0, 1) := by decide +kernel
theorem d37 : decode yB 37 = .ok (.getfield 9, 3) := by decide +kernel
theorem d40 : decode yB 40 = .ok (.aload_n 2, 1) := by decide +kernel
theorem d41 : decode yB 41 = .ok (.getfield 9, 3) := by decide +kernel
theorem d44 : decode yB 44 = .ok (.invokestatic 541, 3) := by decide +kernel
theorem d47 : decode yB 47 = .ok (.ifCond (.eq) 7, 3) := by decide +kernel
theorem d50 : decode yB 50 = .ok (.iconst 1, 1) := by decide +kernel
theorem d51 : decode yB 51 = .ok (.goto 4, 3) := by decide +kernel
theorem d54 : decode yB 54 = .ok (.iconst 0, 1) := by decide +kernel
theorem d55 : decode yB 55 = .ok (.ireturn, 1) := by decide +kernel
def site : List Cond := [.classLink "java/lang/String" 10 "java/lang/String", .fieldLink "java/lang/String" 38 "java/lang/String" "COMPACT_STRINGS" "Z", .fieldLink "java/lang/String" 15 "java/lang/String" "coder" "B", .fieldLink "java/lang/String" 9 "java/lang/String" "value" "[B", LEq.tab] ++ staticW "java/lang/String" 541 LEq.yN
def tab : Cond := tabOf yN yB 3 (some .boolean) site
def P (x t : Addr) (V : Cell) (cd : Int32) (n : Nat) (f : Nat → Int32) (y t' : Addr) (V' : Cell) (cd' : Int32) (k : Nat) (g : Nat → Int32) (z : Int32) (args : Array Value) (s : State) : Prop := args = #[.ref x, .ref y] ∧ Txt x t V cd n f s ∧ Txt y t' V' cd' k g s ∧ StaticIs s "java/lang/String" "COMPACT_STRINGS" "Z" (.int z) ∧ ¬ z = 0
/-- equals(Object) of two Strings: whether the texts are the same -/
theorem law (l : Launch) (x t : Addr) (V : Cell) (cd : Int32) (n : Nat) (f : Nat → Int32) (y t' : Addr) (V' : Cell) (cd' : Int32) (k : Nat) (g : Nat → Int32) (z : Int32) : Law l yN 2 1 1 14 yB 3 (some .boolean) site (P x t V cd n f y t' V' cd' k g z) (Says01 (SameT n f k g)) [] 0 0 := by
  refine Law.of_walk (plainFor_of_name (by decide +kernel)) (by decide +kernel) (by decide +kernel) (by decide) (fun _ _ h => by rw [h.1]; rfl) (fun _ U U' hal hh h => ⟨h.1, h.2.1.mv hal hh, h.2.2.1.mv hal hh, h.2.2.2.1.there hal hh, h.2.2.2.2⟩) (fun r U U' V V' h1 hal h2 h => Says01.mv r U U' V V' h1 hal h2 h) ?_
  intro p e s m args below meth c s₁ X0 hexec hbytes hml hret hlk hnm hown hh0 W hP
  obtain ⟨rfl, hx, hy, s1, hz⟩ := hP
  have c1 : Steps p.tables e below (s₁.setTop (entryFrame m #[.ref x, .ref y] 3)) (s₁.setTop (mkF m 2 #[.val (.ref x), .val (.ref y), .unset] [.ref y, .ref x])) := Steps.trans (entry rfl) (by
    show Steps p.tables e below (s₁.setTop (mkF m 0 #[.val (.ref x), .val (.ref y), .unset] [])) _
    refine XS.aloadN X0.here hexec rfl (hb hbytes d0) rfl rfl ?_
    refine XS.aloadN X0.here hexec rfl (hb hbytes d1) rfl rfl ?_
    exact Steps.refl _)
  by_cases hxy : x = y
  · have c2 : Steps p.tables e below (s₁.setTop (entryFrame m #[.ref x, .ref y] 3)) (s₁.setTop (mkF m 6 #[.val (.ref x), .val (.ref y), .unset] [.int 1])) := c1.trans (by
      refine acmpNo X0.here hexec rfl (hb hbytes d2) rfl rfl rfl (by simp [acmp, hxy]) ?_
      refine iconstV X0.here hexec rfl 1 (hb hbytes d5) (by decide) ?_
      exact Steps.refl _)
    subst hxy
    have ec : cd = cd' := by
      obtain ⟨D, fd, a1, a2, a3⟩ := hx.2.2.1
      obtain ⟨D', fd', b1, b2, b3⟩ := hy.2.2.1
      cases a1.symm.trans b1
      obtain ⟨q1, q2, q3, q4⟩ := a2.1
      obtain ⟨r1, r2, r3, r4⟩ := b2.1
      cases q4.symm.trans r4
      cases a3.symm.trans b3; rfl
    have et : t = t' := by
      obtain ⟨D, fd, a1, a2, a3⟩ := hx.2.1
      obtain ⟨D', fd', b1, b2, b3⟩ := hy.2.1
      cases a1.symm.trans b1
      obtain ⟨q1, q2, q3, q4⟩ := a2.1
      obtain ⟨r1, r2, r3, r4⟩ := b2.1
      cases q4.symm.trans r4
      cases a3.symm.trans b3; rfl
    subst ec et
    have ev : V = V' := by cases hx.2.2.2.1.1.symm.trans hy.2.2.2.1.1; rfl
    subst ev
    have hs : SameT n f k g := (Cod.eqv hx.2.2.2.2.1 hy.2.2.2.2.1 hx.2.2.2.2.2 hy.2.2.2.2.2).mp ⟨rfl, fun _ _ => rfl⟩
    exact ⟨s₁, some (.int 1), _, _, _, X0, rfl, rfl, rfl, (fun h => by cases h), ⟨1, rfl, hh0, Or.inl ⟨rfl, hs⟩⟩, fun fs hl => c2.trans (X0.ireturnOut hexec hret rfl (Or.inr (Or.inl rfl)) (hb hbytes d6) hl)⟩
  · have c2 : Steps p.tables e below (s₁.setTop (entryFrame m #[.ref x, .ref y] 3)) (s₁.setTop (mkF m 8 #[.val (.ref x), .val (.ref y), .unset] [.ref y])) := c1.trans (by
      refine acmpYes X0.here hexec rfl (pc0 := 2) rfl (hb hbytes d2) rfl rfl rfl (by simp [acmp, hxy]) (by decide) rfl ?_
      refine XS.aloadN X0.here hexec rfl (hb hbytes d7) rfl rfl ?_
      exact Steps.refl _)
    obtain ⟨T3, X3, q3, st3⟩ := cinst X0 hexec hown (wk W (.classLink "java/lang/String" 10 "java/lang/String")) (hy.mv X0.warmed.alike hh0).1 (g := (mkF m 8 #[.val (.ref x), .val (.ref y), .unset] [.ref y])) rfl (rest := []) rfl (hb hbytes d8)
    have hh3 := q3.trans hh0
    have c4 : Steps p.tables e below (s₁.setTop (entryFrame m #[.ref x, .ref y] 3)) (T3.setTop (mkF m 15 #[.val (.ref x), .val (.ref y), .unset] [.ref y])) := (c2.trans (st3 _ (Steps.refl _))).trans (by
      refine XS.ifNo X3.here hexec rfl (hb hbytes d11) rfl (i0_eq_f (by decide)) ?_
      refine XS.aloadN X3.here hexec rfl (hb hbytes d14) rfl rfl ?_
      exact Steps.refl _)
    obtain ⟨T5, X5, q5, st5⟩ := cself X3 hexec hown (wk W (.classLink "java/lang/String" 10 "java/lang/String")) (hy.mv X3.warmed.alike hh3).1 (g := (mkF m 15 #[.val (.ref x), .val (.ref y), .unset] [.ref y])) rfl (rest := []) rfl (hb hbytes d15)
    have hh5 := q5.trans hh3
    have c6 : Steps p.tables e below (s₁.setTop (entryFrame m #[.ref x, .ref y] 3)) (T5.setTop (mkF m 19 #[.val (.ref x), .val (.ref y), .val (.ref y)] [])) := (c4.trans (st5 _ (Steps.refl _))).trans (by
      refine XS.astoreN X5.here hexec rfl (hb hbytes d18) rfl rfl rfl ?_
      exact Steps.refl _)
    obtain ⟨T7, X7, q7, st7⟩ := X5.sget hexec hown (wk W (.fieldLink "java/lang/String" 38 "java/lang/String" "COMPACT_STRINGS" "Z")) s1 (fun _ _ h => by rw [hh5]; exact h) (g := (mkF m 19 #[.val (.ref x), .val (.ref y), .val (.ref y)] [])) rfl (hb hbytes d19)
    have hh7 := q7.trans hh5
    have c8 : Steps p.tables e below (s₁.setTop (entryFrame m #[.ref x, .ref y] 3)) (T7.setTop (mkF m 26 #[.val (.ref x), .val (.ref y), .val (.ref y)] [.ref x])) := (c6.trans (st7 _ (Steps.refl _))).trans (by
      refine XS.ifNo X7.here hexec rfl (hb hbytes d22) rfl (i0_eq_f hz) ?_
      refine XS.aloadN X7.here hexec rfl (hb hbytes d25) rfl rfl ?_
      exact Steps.refl _)
    obtain ⟨T9, X9, q9, st9⟩ := X7.hget hexec hown (wk W (.fieldLink "java/lang/String" 15 "java/lang/String" "coder" "B")) (hx.mv X7.warmed.alike hh7).2.2.1 (g := (mkF m 26 #[.val (.ref x), .val (.ref y), .val (.ref y)] [.ref x])) rfl (rest := []) rfl (hb hbytes d26)
    have hh9 := q9.trans hh7
    have c10 : Steps p.tables e below (s₁.setTop (entryFrame m #[.ref x, .ref y] 3)) (T9.setTop (mkF m 30 #[.val (.ref x), .val (.ref y), .val (.ref y)] [.ref y, .int cd])) := (c8.trans (st9 _ (Steps.refl _))).trans (by
      refine XS.aloadN X9.here hexec rfl (hb hbytes d29) rfl rfl ?_
      exact Steps.refl _)
    obtain ⟨T11, X11, q11, st11⟩ := X9.hget hexec hown (wk W (.fieldLink "java/lang/String" 15 "java/lang/String" "coder" "B")) (hy.mv X9.warmed.alike hh9).2.2.1 (g := (mkF m 30 #[.val (.ref x), .val (.ref y), .val (.ref y)] [.ref y, .int cd])) rfl (rest := [.int cd]) rfl (hb hbytes d30)
    have hh11 := q11.trans hh9
    have c12 : Steps p.tables e below (s₁.setTop (entryFrame m #[.ref x, .ref y] 3)) (T11.setTop (mkF m 33 #[.val (.ref x), .val (.ref y), .val (.ref y)] [.int cd', .int cd])) := c10.trans (st11 _ (Steps.refl _))
    by_cases hcd : cd = cd'
    · subst hcd
      have c13 : Steps p.tables e below (s₁.setTop (entryFrame m #[.ref x, .ref y] 3)) (T11.setTop (mkF m 37 #[.val (.ref x), .val (.ref y), .val (.ref y)] [.ref x])) := c12.trans (by
        refine XS.icmpNo X11.here hexec rfl (hb hbytes d33) rfl (ii_ne_f rfl) ?_
        refine XS.aloadN X11.here hexec rfl (hb hbytes d36) rfl rfl ?_
        exact Steps.refl _)
      obtain ⟨T14, X14, q14, st14⟩ := X11.hget hexec hown (wk W (.fieldLink "java/lang/String" 9 "java/lang/String" "value" "[B")) (hx.mv X11.warmed.alike hh11).2.1 (g := (mkF m 37 #[.val (.ref x), .val (.ref y), .val (.ref y)] [.ref x])) rfl (rest := []) rfl (hb hbytes d37)
      have hh14 := q14.trans hh11
      have c15 : Steps p.tables e below (s₁.setTop (entryFrame m #[.ref x, .ref y] 3)) (T14.setTop (mkF m 41 #[.val (.ref x), .val (.ref y), .val (.ref y)] [.ref y, .ref t])) := (c13.trans (st14 _ (Steps.refl _))).trans (by
        refine XS.aloadN X14.here hexec rfl (hb hbytes d40) rfl rfl ?_
        exact Steps.refl _)
      obtain ⟨T16, X16, q16, st16⟩ := X14.hget hexec hown (wk W (.fieldLink "java/lang/String" 9 "java/lang/String" "value" "[B")) (hy.mv X14.warmed.alike hh14).2.1 (g := (mkF m 41 #[.val (.ref x), .val (.ref y), .val (.ref y)] [.ref y, .ref t])) rfl (rest := [.ref t]) rfl (hb hbytes d41)
      have hh16 := q16.trans hh14
      have c17 : Steps p.tables e below (s₁.setTop (entryFrame m #[.ref x, .ref y] 3)) (T16.setTop (mkF m 44 #[.val (.ref x), .val (.ref y), .val (.ref y)] [.ref t', .ref t])) := c15.trans (st16 _ (Steps.refl _))
      obtain ⟨v18, T18, X18, E18, g18⟩ := X16.callS hexec (LEq.law l t V t' V') hown (wks W (staticW "java/lang/String" 541 LEq.yN)) (wk W LEq.tab) (W := 0) (Nat.le_of_ble_eq_true rfl) (Nat.le_of_ble_eq_true rfl) (Nat.le_refl _) (Nat.le_refl _) (g := (mkF m 44 #[.val (.ref x), .val (.ref y), .val (.ref y)] [.ref t', .ref t])) rfl (by rw [hml]; rfl) c17 (argsL := [.ref t, .ref t']) (rest := []) rfl rfl (by show 2 * 0 + 0 ≤ _; decide) (hb hbytes d44) (⟨rfl, hx.2.2.2.1.mv X16.warmed.alike hh16, hx.2.2.2.2.1.ty, hy.2.2.2.1.mv X16.warmed.alike hh16, hy.2.2.2.2.1.ty⟩)
      obtain ⟨v, rfl, q18, hv⟩ := E18
      have iff := Cod.eqv hx.2.2.2.2.1 hy.2.2.2.2.1 hx.2.2.2.2.2 hy.2.2.2.2.2
      rcases hv with ⟨rfl, he⟩ | ⟨rfl, he⟩
      · have c19 : Steps p.tables e below (s₁.setTop (entryFrame m #[.ref x, .ref y] 3)) (T18.setTop (mkF m 55 #[.val (.ref x), .val (.ref y), .val (.ref y)] [.int 1])) := Steps.trans g18 (by
          refine XS.ifNo X18.here hexec rfl (hb hbytes d47) rfl (i0_eq_f (by decide)) ?_
          refine iconstV X18.here hexec rfl 1 (hb hbytes d50) (by decide) ?_
          refine XS.goto X18.here hexec rfl (pc0 := 51) rfl (hb hbytes d51) (by decide) rfl ?_
          exact Steps.refl _)
        exact ⟨T18, some (.int 1), _, _, _, X18, rfl, rfl, rfl, (fun h => by cases h), ⟨1, rfl, q18.trans hh16, Or.inl ⟨rfl, iff.mp he⟩⟩, fun fs hl => c19.trans (X18.ireturnOut hexec hret rfl (Or.inr (Or.inl rfl)) (hb hbytes d55) hl)⟩
      · have c19 : Steps p.tables e below (s₁.setTop (entryFrame m #[.ref x, .ref y] 3)) (T18.setTop (mkF m 55 #[.val (.ref x), .val (.ref y), .val (.ref y)] [.int 0])) := Steps.trans g18 (by
          refine XS.ifYes X18.here hexec rfl (pc0 := 47) rfl (hb hbytes d47) rfl (i0_eq_t rfl) (by decide) rfl ?_
          refine iconstV X18.here hexec rfl 0 (hb hbytes d54) (by decide) ?_
          exact Steps.refl _)
        exact ⟨T18, some (.int 0), _, _, _, X18, rfl, rfl, rfl, (fun h => by cases h), ⟨0, rfl, q18.trans hh16, Or.inr ⟨rfl, fun q => he (iff.mpr q)⟩⟩, fun fs hl => c19.trans (X18.ireturnOut hexec hret rfl (Or.inr (Or.inl rfl)) (hb hbytes d55) hl)⟩
    · have c13 : Steps p.tables e below (s₁.setTop (entryFrame m #[.ref x, .ref y] 3)) (T11.setTop (mkF m 55 #[.val (.ref x), .val (.ref y), .val (.ref y)] [.int 0])) := c12.trans (by
        refine XS.icmpYes X11.here hexec rfl (pc0 := 33) rfl (hb hbytes d33) rfl (ii_ne_t hcd) (by decide) rfl ?_
        refine iconstV X11.here hexec rfl 0 (hb hbytes d54) (by decide) ?_
        exact Steps.refl _)
      exact ⟨T11, some (.int 0), _, _, _, X11, rfl, rfl, rfl, (fun h => by cases h), ⟨0, rfl, hh11, Or.inr ⟨rfl, Cod.dif hx.2.2.2.2.1 hy.2.2.2.2.1 hcd⟩⟩, fun fs hl => c13.trans (X11.ireturnOut hexec hret rfl (Or.inr (Or.inl rfl)) (hb hbytes d55) hl)⟩
theorem pays {l : Launch} {R : Room} {p : Program} {e : Env} {below : List Frame} {s : State} {sargs : Array Value} {len W : Nat} (x t : Addr) (V : Cell) (cd : Int32) (n : Nat) (f : Nat → Int32) (y t' : Addr) (V' : Cell) (cd' : Int32) (k : Nat) (g : Nat → Int32) (z : Int32) (htab : tab.before sargs s = true) (hfr : 2 ≤ R.frames) (hlo : W + 28 ≤ R.locals) :
    Back l R p e below s sargs yN len W (fun A₁ a₁ => A₁.cells + 0 ≤ R.cells ∧ A₁.slots + 0 ≤ R.slots ∧ P x t V cd n f y t' V' cd' k g z a₁ A₁.U) (fun A₁ _ v₁ B₁ => Says01 (SameT n f k g) v₁ A₁.U B₁.U ∧ B₁.locs = A₁.locs ++ [] ∧ B₁.cells = A₁.cells + 0 ∧ B₁.slots = A₁.slots + 0) :=
  (law l x t V cd n f y t' V' cd' k g z).pays htab hfr (by omega)
end SEq
end StrChars
namespace StrChars.Road
open Jvm Sem ClassFile Op Lib Jvm.Stand Jvm.Free Jvm.Free.XT
open Jvm.Lib.Cold (StaticIs)
/-- the words of String.equals(Object) -/
abbrev wordsEq : List Jvm.Cond := [.code SEq.yN SEq.yB 3 (some .boolean), .initialized ST, .classLink ST 10 ST, .fieldLink ST 38 ST "COMPACT_STRINGS" "Z", .fieldLink ST 15 ST "coder" "B", .fieldLink ST 9 ST "value" "[B", .methodLink ST 541 LEq.yN, .static LEq.yN, .code LEq.yN LEq.yB 3 (some .boolean), .initialized "java/lang/StringLatin1"]
theorem tabEq_of {a : Array Value} {s : State} (h : ∀ w ∈ wordsEq, w.before a s = true) : SEq.tab.before a s = true := by
  have hl : LEq.tab.before a s = true := unparts (wk h (.code LEq.yN LEq.yB 3 (some .boolean))) (wks h (.initialized LEq.yN.cls :: LEq.site))
  have q := consq hl h
  exact unparts (wk q (.code SEq.yN SEq.yB 3 (some .boolean))) (wks q (.initialized SEq.yN.cls :: SEq.site))
theorem movedEq {Z s : State} {a0 args : Array Value} (hZ : Z.Warmed39 s.vm) (hw : ∀ d ∈ wordsEq, d.before a0 Z = true) : ∀ d ∈ wordsEq, d.before args s = true := fun d hd => by
  have t : ∀ d ∈ wordsEq, (d.onTables && d.keepsFace) = true := by decide +kernel
  exact RoadKit.mv hZ (hw d hd) (t d hd)
/-- the road's facts of a String, as the laws ask it -/
theorem txt_of {Z U : State} {a0 : Array Value} {kI : Nat} (wi : (Jvm.Cond.instantiable ST kI).before a0 Z = true) (al : Z.vm.Alike U.vm) {x t : Addr} {kb : ClassId} {cs : List Int32} {cd N2 : Int32} {vs : List Value} (E : RoadKit.Exa Z U.heap x ST) (V : RoadKit.Fld Z U.heap x ST "value" "[B" (.ref t)) (C : RoadKit.Fld Z U.heap x ST "coder" "B" (.int cd)) (K : RoadKit.Arv Z U.heap t kb .byte N2 vs (.int 0)) (hc : CodA cs cd N2 vs) (hb : ∀ c ∈ cs, ¬ c < 0 ∧ ¬ (65535 : Int32) < c) (l2 : cs.length ≤ 4000) :
    ∃ A, Txt x t A cd cs.length (fun j => cs.getD j 0) U := by
  obtain ⟨A, K1, K2, K3, K4, K5, K6⟩ := K
  have hcod := hc.cod (by omega) K3 K5
  obtain ⟨D, fV, fC, hB, F1, F2, g1, g2, -, -⟩ := strObj wi al E V C
  exact ⟨A, ⟨_, hB.2.2.1, D, hB.1, rfl, by cases q : D.vm <;> first | rfl | exact absurd q (hB.2.1.2 _)⟩, Has.of hB F1 g1, Has.of hB F2 g2, ⟨K1.1, State.isArrayOf_alike al K1.2.1, K1.2.2, by rcases hcod with ⟨-, q, -⟩ | ⟨-, q, -⟩ <;> omega⟩, hcod, fun j hj => by
    have e : cs.getD j 0 = cs[j] := by simp [List.getD_eq_getElem?_getD, hj]
    show ¬ cs.getD j 0 < 0 ∧ ¬ 65535 < cs.getD j 0
    rw [e]; exact hb _ (List.getElem_mem _)⟩
theorem same_list (cs ds : List Int32) : SameT cs.length (fun j => cs.getD j 0) ds.length (fun j => ds.getD j 0) ↔ cs = ds := by
  constructor
  · rintro ⟨e, q⟩
    refine List.ext_getElem e fun j h1 h2 => ?_
    have := q j h1
    simpa [List.getD_eq_getElem?_getD, h1, h2] using this
  · rintro rfl
    exact ⟨rfl, fun _ _ => rfl⟩
/-- **equals(Object) OF TWO SUCH STRINGS**: 1 just where the chars are the same -/
theorem eqW {p : Program} {l : Launch} {e : Env} {R : Room} {s : State} {args : Array Value} {below : List Frame} {len W : Nat} {Z : State} {a0 : Array Value} {h : Heap} (hZ : Z.Warmed39 s.vm) (hw : ∀ d ∈ wordsEq, d.before a0 Z = true) {kI : Nat} (wi : (Jvm.Cond.instantiable ST kI).before a0 Z = true)
    {x t : Addr} {kb : ClassId} {cs : List Int32} {cd N2 : Int32} {vs : List Value} (E : RoadKit.Exa Z h x ST) (V : RoadKit.Fld Z h x ST "value" "[B" (.ref t)) (C : RoadKit.Fld Z h x ST "coder" "B" (.int cd)) (K : RoadKit.Arv Z h t kb .byte N2 vs (.int 0)) (hc : CodA cs cd N2 vs) (hb : ∀ c ∈ cs, ¬ c < 0 ∧ ¬ (65535 : Int32) < c) (l2 : cs.length ≤ 4000)
    {y t' : Addr} {kb' : ClassId} {ds : List Int32} {cd' N2' : Int32} {vs' : List Value} (E' : RoadKit.Exa Z h y ST) (V' : RoadKit.Fld Z h y ST "value" "[B" (.ref t')) (C' : RoadKit.Fld Z h y ST "coder" "B" (.int cd')) (K' : RoadKit.Arv Z h t' kb' .byte N2' vs' (.int 0)) (hc' : CodA ds cd' N2' vs') (hb' : ∀ c ∈ ds, ¬ c < 0 ∧ ¬ (65535 : Int32) < c) (l2' : ds.length ≤ 4000)
    {z : Int32} (S : RoadKit.Sta Z h ST "COMPACT_STRINGS" "Z" (.int z)) (hz : ¬ z = 0) (hfr : 2 ≤ R.frames) (hlo : W + 28 ≤ R.locals) :
    Back l R p e below s args (⟨"java/lang/String", "equals", "(Ljava/lang/Object;)Z"⟩ : MethodName) len W (fun P a => a = #[.ref x, .ref y] ∧ P.U.heap = h ∧ P.cells + 0 ≤ R.cells ∧ P.slots + 0 ≤ R.slots)
      (fun P _ v B => ∃ L, (((v = some (.int 1) ∧ cs = ds) ∨ (v = some (.int 0) ∧ ¬ cs = ds)) ∧ L = [] ∧ B.U.heap = h) ∧ B.locs = P.locs ++ L ∧ B.cells = P.cells + 0 ∧ B.slots = P.slots + 0) := by
  intro m meth c P g ig mk a X hg hsize hdg hW hn hp'
  obtain ⟨rfl, rfl, r1, r2⟩ := hp'
  have al : Z.vm.Alike P.U.vm := hZ.alike.trans X.warmed.alike
  obtain ⟨A, hx⟩ := txt_of wi al E V C K hc hb l2
  obtain ⟨A', hy⟩ := txt_of wi al E' V' C' K' hc' hb' l2'
  obtain ⟨v, B, X', ⟨⟨w, hv, hh, hq⟩, hl, hk, hs⟩, st⟩ := SEq.pays x t A cd cs.length (fun j => cs.getD j 0) y t' A' cd' ds.length (fun j => ds.getD j 0) z (tabEq_of (movedEq hZ hw)) hfr hlo m meth c P g ig mk _ X hg hsize hdg hW hn ⟨r1, r2, rfl, hx, hy, sta_is al S, hz⟩
  refine ⟨v, B, X', ⟨[], ⟨?_, rfl, hh⟩, hl, hk, hs⟩, st⟩
  rcases hq with ⟨rfl, q⟩ | ⟨rfl, q⟩
  · exact Or.inl ⟨hv, (same_list cs ds).mp q⟩
  · exact Or.inr ⟨hv, fun e => q ((same_list cs ds).mpr e)⟩
end StrChars.Road
namespace StrChars.Road
open Jvm Sem ClassFile Op Lib Jvm.Stand Jvm.Free Jvm.Free.XT
open Jvm.Lib.Cold (StaticIs)
/-- what backV says of its String, as the contracts of this text ask it: cs's low bytes, coder 0 -/
theorem codOf {cs : List Int32} {n : Nat} (hn : cs.length = n) (hb : ∀ c ∈ cs, ¬ 255 < c) : CodA cs 0 (Int32.ofNat n) ((cs.map lo8).map Value.int) := Or.inl ⟨rfl, by rw [hn], by simp [List.map_map, Function.comp_def], hb⟩
end StrChars.Road
end Jvm.Pilot.@@N@@
namespace Jvm.Pilot.@@N@@
open Jvm Jvm.ClassFile Sem Op Lib Jvm.Free Jvm.Stand Jvm.LawKit Jvm.RoadKit Bundle Jvm.Pilot.@@N@@.Jvm.D
def own_Txt (Z : State) (h : Heap) (x : Addr) (cs : List Int32) : Prop := ∃ (t : Addr) (kb : ClassId), Exa Z h x "java/lang/String" ∧ Fld Z h x "java/lang/String" "value" "[B" (.ref t) ∧ Fld Z h x "java/lang/String" "coder" "B" (.int 0) ∧ Arv Z h t kb .byte (Int32.ofNat cs.length) ((cs.map StrChars.lo8).map Value.int) (.int 0) ∧ (∀ c ∈ cs, ¬ c < 0 ∧ ¬ (255 : Int32) < c) ∧ cs.length ≤ 4000
theorem own_Txt.ext {Z : State} {h h' : Heap} {x : Addr} {cs : List Int32} (F : own_Txt Z h x cs) (E : Ext h h') : own_Txt Z h' x cs := by
  obtain ⟨t, kb, f1, f2, f3, f4, f5, f6⟩ := F
  exact ⟨t, kb, f1.ext E, f2.ext E, f3.ext E, f4.ext E, f5, f6⟩
theorem own_Txt.exa {Z : State} {h : Heap} {x : Addr} {cs : List Int32} (F : own_Txt Z h x cs) : Exa Z h x "java/lang/String" := by obtain ⟨t, kb, f1, -⟩ := F; exact f1
theorem own_Txt.lt {Z : State} {h : Heap} {x : Addr} {cs : List Int32} (F : own_Txt Z h x cs) : x < h.size := F.exa.lt
theorem own_up (cs : List Int32) (h : ∀ c ∈ cs, ¬ c < 0 ∧ ¬ (255 : Int32) < c) : ∀ c ∈ cs, ¬ c < 0 ∧ ¬ (65535 : Int32) < c := fun c hc => ⟨(h c hc).1, fun q => (h c hc).2 (by rw [Int32.lt_iff_toInt_lt] at q ⊢; exact Int.lt_trans (by decide) q)⟩
theorem own_w_backV {a0 : Array Value} {Z : State} (hw : ∀ d ∈ tables_1, d.before a0 Z = true) : ∀ d ∈ StrChars.Road.words, d.before a0 Z = true := fun d hd => hw d ((by decide +kernel : ∀ d ∈ StrChars.Road.words, d ∈ tables_1) d hd)
theorem own_w_eqW {a0 : Array Value} {Z : State} (hw : ∀ d ∈ tables_1, d.before a0 Z = true) : ∀ d ∈ StrChars.Road.wordsEq, d.before a0 Z = true := fun d hd => hw d ((by decide +kernel : ∀ d ∈ StrChars.Road.wordsEq, d ∈ tables_1) d hd)
theorem own_eqW {p : Program} {l : Launch} {e : Env} {R : Room} {s : State} {m : MethodId} {args : Array Value} {below : List Frame} {meth : Method} {c : Code} {T : State} {locs : List Loc} {cells slots : Nat} {pc : Nat} {Ls : Array Slot} {Z : State} {a0 : Array Value} {h : Heap} (X : Stand p l e R s m args below meth c T locs cells slots) (hx : p.tables.exec = Jvm.exec) (hZ : Z.Warmed39 s.vm) (eT : T.heap = h) (hw : ∀ d ∈ tables_1, d.before a0 Z = true) (wi : (Jvm.Cond.instantiable "java/lang/String" 4).before a0 Z = true) {own : String} {index : Nat} (hown : s.vm.findClass own = some m.cls) {x x' : Addr} {cs ds : List Int32} (F : own_Txt Z h x cs) (G : own_Txt Z h x' ds) {z : Int32} (SC : Sta Z h "java/lang/String" "COMPACT_STRINGS" "Z" (.int z)) (hz : ¬ z = 0)
    (w1 : (Jvm.Cond.methodLink own index (⟨"java/lang/String", "equals", "(Ljava/lang/Object;)Z"⟩ : MethodName)).before a0 Z = true) (w2 : (Jvm.Cond.declares (⟨"java/lang/String", "equals", "(Ljava/lang/Object;)Z"⟩ : MethodName)).before a0 Z = true) (w3 : (Jvm.Cond.selects "java/lang/String" (⟨"java/lang/String", "equals", "(Ljava/lang/Object;)Z"⟩ : MethodName) (⟨"java/lang/String", "equals", "(Ljava/lang/Object;)Z"⟩ : MethodName)).before a0 Z = true) (w4 : (Jvm.Cond.instanceMethod (⟨"java/lang/String", "equals", "(Ljava/lang/Object;)Z"⟩ : MethodName)).before a0 Z = true)
    (rest : List Value) (W : Nat) (hfr : 2 ≤ R.frames) (hlo : W + 28 ≤ R.locals) (hcR : cells ≤ R.cells) (hsR : slots ≤ R.slots) (hsz : Ls.size = c.maxLocals) (hlen : ∀ sig, parseMethodDescriptor "(Ljava/lang/Object;)Z" = some sig → ([.ref x'] : List Value).length = sig.parameters.length) (hW : (rest.map fun v => v.category).sum ≤ W) (hd : decode c.code pc = .ok (.invokevirtual index, 3)) :
    ∃ T' : State, Stand p l e R s m args below meth c T' locs cells slots ∧ T'.heap = h ∧ ∀ t, Steps p.tables e below (T'.setTop (mkF m (pc + 3) Ls (.int (if cs = ds then 1 else 0) :: rest))) t → Steps p.tables e below (T.setTop (mkF m pc Ls (.ref x' :: .ref x :: rest))) t := by
  obtain ⟨t, kb, f1, f2, f3, f4, f5, f6⟩ := F
  obtain ⟨t', kb', g1, g2, g3, g4, g5, g6⟩ := G
  obtain ⟨T', v, X', e', ⟨hv, -, -⟩, st⟩ := Own.callVB (y := (⟨"java/lang/String", "equals", "(Ljava/lang/Object;)Z"⟩ : MethodName)) (Q := fun v h' L => (v = some (.int 1) ∧ cs = ds ∨ v = some (.int 0) ∧ ¬ cs = ds) ∧ L = [] ∧ h' = h) X hx hZ eT x [.ref x'] rest W (StrChars.Road.eqW (W := W) hZ (own_w_eqW hw) (kI := 4) wi f1 f2 f3 f4 (StrChars.Road.codOf rfl fun c hc => (f5 c hc).2) (own_up cs f5) f6 g1 g2 g3 g4 (StrChars.Road.codOf rfl fun c hc => (g5 c hc).2) (own_up ds g5) g6 SC hz hfr hlo) (fun v h' L q => ⟨q.2.1, q.2.2⟩) hown f1 w1 w2 w3 w4 (by decide) hcR hsR hsz hlen rfl hW hd
  have ev : v = some (.int (if cs = ds then 1 else 0)) := by
    rcases hv with ⟨q, r⟩ | ⟨q, r⟩
    · rw [if_pos r]; exact q
    · rw [if_neg r]; exact q
  subst ev
  exact ⟨T', X', e', st⟩
theorem own_newS {p : Program} {l : Launch} {e : Env} {R : Room} {s : State} {m : MethodId} {args : Array Value} {below : List Frame} {meth : Method} {c : Code} {T : State} {locs : List Loc} {cells slots : Nat} {pc : Nat} {Ls : Array Slot} {Z : State} {a0 : Array Value} {h : Heap} (X : Stand p l e R s m args below meth c T locs cells slots) (hx : p.tables.exec = Jvm.exec) (hZ : Z.Warmed39 s.vm) (eT : T.heap = h) (hw : ∀ d ∈ tables_1, d.before a0 Z = true) (wi : (Jvm.Cond.instantiable "java/lang/String" 4).before a0 Z = true) {own : String} {index : Nat} (hown : s.vm.findClass own = some m.cls) {x b : Addr} {cs : List Int32} {v0 c0 : Value} {n0 n : Nat} (hn : cs.length = n) (hx0 : n0 ≤ x) (hh0 : n0 ≤ h.size) (E : Exa Z h x "java/lang/String") (V : Fld Z h x "java/lang/String" "value" "[B" v0) (Cd : Fld Z h x "java/lang/String" "coder" "B" c0) (K : Own.CA Z h b .char cs) {z : Int32} (SC : Sta Z h "java/lang/String" "COMPACT_STRINGS" "Z" (.int z)) (hz : ¬ z = 0)
    (l0 : 0 < n) (l2 : n ≤ 4000) (hp : ∀ c ∈ cs, ¬ c < 0 ∧ ¬ (255 : Int32) < c) {bytes : ByteArray} {maxL : Nat} (w1 : (Jvm.Cond.methodLink own index (⟨"java/lang/String", "<init>", "([C)V"⟩ : MethodName)).before a0 Z = true) (w2 : (Jvm.Cond.instanceMethod (⟨"java/lang/String", "<init>", "([C)V"⟩ : MethodName)).before a0 Z = true) (w4 : (Jvm.Cond.code (⟨"java/lang/String", "<init>", "([C)V"⟩ : MethodName) bytes maxL none).before a0 Z = true)
    (rest : List Value) (W : Nat) (hfr : 4 ≤ R.frames) (hlo : W + 65 ≤ R.locals) (hcR : cells + 1 ≤ R.cells) (hsR : slots + n ≤ R.slots) (hsz : Ls.size = c.maxLocals) (hlen : ∀ sig, parseMethodDescriptor "([C)V" = some sig → ([.ref b] : List Value).length = sig.parameters.length) (hW : (rest.map fun v => v.category).sum ≤ W) (hd : decode c.code pc = .ok (.invokespecial index, 3)) :
    ∃ (T' : State) (h' : Heap) (L M : List Loc), Stand p l e R s m args below meth c T' M (cells + 1) (slots + n) ∧ T'.heap = h' ∧ (∀ n0, Fr n0 locs → Fr n0 L → Fr n0 M) ∧ Fr n0 L ∧ Keep h h' [x] ∧ own_Txt Z h' x cs ∧ ∀ t, Steps p.tables e below (T'.setTop (mkF m (pc + 3) Ls rest)) t → Steps p.tables e below (T.setTop (mkF m pc Ls (.ref b :: .ref x :: rest))) t := by
  obtain ⟨kC, K, hK⟩ := K
  obtain ⟨T', h', v, L, M, X', e', hM, ⟨rfl, q1, q2, q3, q4, t, kb, -, -, -, q5, q6⟩, st⟩ := Own.callIB (y := (⟨"java/lang/String", "<init>", "([C)V"⟩ : MethodName)) X hx hZ eT rfl x [.ref b] rest W (StrChars.Road.backV (W := W) hZ (own_w_backV hw) (kI := 4) wi (cs := cs) (bs := cs.map (fun c => c.toInt8.toInt32)) (n := n) (N := Int32.ofNat cs.length) hx0 hh0 E V Cd K SC hz hn (by rw [hn]) l0 l2 hp rfl hfr hlo) hown w1 w2 w4 (by decide) hcR hsR hsz hlen rfl hW hd
  exact ⟨T', h', L, M, X', e', hM, q1, q2, ⟨t, kb, q3, q5, q4, q6, hp, by omega⟩, st⟩
def own_EL : List (String × Nat) := [("java/lang/String", 7)]
theorem own_hEL {a0 : Array Value} {Z : State} (hw : ∀ d ∈ tables_1, d.before a0 Z = true) : EW Z a0 own_EL := (EW.cons (text := "") (hw _ (List.mem_of_getElem? (i := 34) rfl)) (by decide) EW.nil)
theorem own_wS {a0 : Array Value} {Z : State} (hw : ∀ d ∈ tables_1, d.before a0 Z = true) : ∀ a ∈ Bundle.stringAtoms, a.before a0 Z = true := fun d hd => hw d ((by decide +kernel : ∀ d ∈ Bundle.stringAtoms, d ∈ tables_1) d hd)

theorem d3_0 : decode jdk_42_method_149_code 0 = .ok (.aload_n 0, 1) := by decide +kernel
theorem d3_1 : decode jdk_42_method_149_code 1 = .ok (.invokespecial 1, 3) := by decide +kernel
theorem d3_4 : decode jdk_42_method_149_code 4 = .ok (.iload_n 3, 1) := by decide +kernel
theorem d3_5 : decode jdk_42_method_149_code 5 = .ok (.ifCond .ne 22, 3) := by decide +kernel
theorem d3_8 : decode jdk_42_method_149_code 8 = .ok (.aload_n 0, 1) := by decide +kernel
theorem d3_9 : decode jdk_42_method_149_code 9 = .ok (.ldc 7, 2) := by decide +kernel
theorem d3_11 : decode jdk_42_method_149_code 11 = .ok (.getfield 9, 3) := by decide +kernel
theorem d3_14 : decode jdk_42_method_149_code 14 = .ok (.putfield 9, 3) := by decide +kernel
theorem d3_17 : decode jdk_42_method_149_code 17 = .ok (.aload_n 0, 1) := by decide +kernel
theorem d3_18 : decode jdk_42_method_149_code 18 = .ok (.ldc 7, 2) := by decide +kernel
theorem d3_20 : decode jdk_42_method_149_code 20 = .ok (.getfield 15, 3) := by decide +kernel
theorem d3_23 : decode jdk_42_method_149_code 23 = .ok (.putfield 15, 3) := by decide +kernel
theorem d3_26 : decode jdk_42_method_149_code 26 = .ok (.return_, 1) := by decide +kernel
theorem d3_27 : decode jdk_42_method_149_code 27 = .ok (.getstatic 38, 3) := by decide +kernel
theorem d3_30 : decode jdk_42_method_149_code 30 = .ok (.ifCond .eq 28, 3) := by decide +kernel
theorem d3_33 : decode jdk_42_method_149_code 33 = .ok (.aload_n 1, 1) := by decide +kernel
theorem d3_34 : decode jdk_42_method_149_code 34 = .ok (.iload_n 2, 1) := by decide +kernel
theorem d3_35 : decode jdk_42_method_149_code 35 = .ok (.iload_n 3, 1) := by decide +kernel
theorem d3_36 : decode jdk_42_method_149_code 36 = .ok (.invokestatic 177, 3) := by decide +kernel
theorem d3_39 : decode jdk_42_method_149_code 39 = .ok (.astore 5, 2) := by decide +kernel
theorem d3_41 : decode jdk_42_method_149_code 41 = .ok (.aload_n 0, 1) := by decide +kernel
theorem d3_42 : decode jdk_42_method_149_code 42 = .ok (.aload 5, 2) := by decide +kernel
theorem d3_44 : decode jdk_42_method_149_code 44 = .ok (.iload_n 3, 1) := by decide +kernel
theorem d3_45 : decode jdk_42_method_149_code 45 = .ok (.invokestatic 47, 3) := by decide +kernel
theorem d3_48 : decode jdk_42_method_149_code 48 = .ok (.putfield 15, 3) := by decide +kernel
theorem d3_51 : decode jdk_42_method_149_code 51 = .ok (.aload_n 0, 1) := by decide +kernel
theorem d3_52 : decode jdk_42_method_149_code 52 = .ok (.aload 5, 2) := by decide +kernel
theorem d3_54 : decode jdk_42_method_149_code 54 = .ok (.putfield 9, 3) := by decide +kernel
theorem d3_57 : decode jdk_42_method_149_code 57 = .ok (.return_, 1) := by decide +kernel
theorem d3_58 : decode jdk_42_method_149_code 58 = .ok (.aload_n 0, 1) := by decide +kernel
theorem d3_59 : decode jdk_42_method_149_code 59 = .ok (.iconst 1, 1) := by decide +kernel
theorem d3_60 : decode jdk_42_method_149_code 60 = .ok (.putfield 15, 3) := by decide +kernel
theorem d3_63 : decode jdk_42_method_149_code 63 = .ok (.aload_n 0, 1) := by decide +kernel
theorem d3_64 : decode jdk_42_method_149_code 64 = .ok (.aload_n 1, 1) := by decide +kernel
theorem d3_65 : decode jdk_42_method_149_code 65 = .ok (.iload_n 2, 1) := by decide +kernel
theorem d3_66 : decode jdk_42_method_149_code 66 = .ok (.iload_n 3, 1) := by decide +kernel
theorem d3_67 : decode jdk_42_method_149_code 67 = .ok (.invokestatic 180, 3) := by decide +kernel
theorem d3_70 : decode jdk_42_method_149_code 70 = .ok (.putfield 9, 3) := by decide +kernel
theorem d3_73 : decode jdk_42_method_149_code 73 = .ok (.return_, 1) := by decide +kernel
theorem pn_0 : plainName "java/lang/String" = true := by first | (simp [plainName, overriddenIn]; done) | decide +kernel
theorem ef_3n4 (m : MethodId) (o0 : Addr) (o1 : Addr) (p2 : Int32) (p3 : Int32) : entryFrame m #[(.ref o0), (.ref o1), (.int p2), (.int p3), .null] 6 = mkF m 0 #[.val (.ref o0), .val (.ref o1), .val (.int p2), .val (.int p3), .val .null, .unset] [] := by first | (simp [entryFrame, mkF, argsToLocals, Value.category]; done) | rfl
set_option maxRecDepth 65536 in
set_option maxHeartbeats 40000000 in
theorem cE4 (l : Launch) (Z : State) (a0 : Array Value) (hw : ∀ d ∈ tables_1, d.before a0 Z = true) (o0 : Addr) (o1 : Addr) (n0 : Nat) (old : Value) (h0 : Heap) (Z0 : n0 ≤ h0.size) (E0 : Exa Z h0 o0 "java/lang/String") (F0 : Fld Z h0 o0 "java/lang/String" "value" "[B" .null) (F1 : Fld Z h0 o0 "java/lang/String" "coder" "B" old) (g0 : n0 ≤ o0) : Own.ConH l Z own_EL (⟨"java/lang/String", "<init>", "([CIILjava/lang/Void;)V"⟩ : MethodName) jdk_42_method_149_code 6 none ({ frames := 1, cells := 4, slots := 8, locals := 12 } : Room) #[(.ref o0), (.ref o1), (.int (0 : Int32)), (.int (0 : Int32)), .null] h0 (fun v h L => v = none ∧ Fr n0 L ∧ Keep h0 h [o0] ∧ own_Txt Z h o0 []) := by
  intro ws
  refine MetFree.of_bodySF (plainFor_of_name pn_0) hisR ?_
  intro p e s m args below meth c s₁ Bd hml0 hP hK
  obtain ⟨rfl, hZ, hh, hH⟩ := hP
  have hx := Bd.exec
  have hby := Bd.bytes
  have hml : c.maxLocals = 6 := hml0
  have hown : s.vm.findClass "java/lang/String" = some m.cls := findClass_of_methodNamed Bd.named
  have hnm := (name_of_methodNamed Bd.named Bd.method).1
  have X0 : Stand p l e ({ frames := 1, cells := 4, slots := 8, locals := 12 } : Room) (s.setVm s.vm) m #[(.ref o0), (.ref o1), (.int (0 : Int32)), (.int (0 : Int32)), .null] below meth c s₁ [] 0 0 := Stand.of_body Bd
  have e0 : s₁.heap = h0 := by rw [← hh, Bd.state]; rfl
  have D0 : Own.Wd s Z own_EL "java/lang/String" m.cls s.vm h0 := by rw [← hh]; exact Own.Wd.start hZ hown (by rw [hh]; exact hH)
  have K0 : ∀ t, Steps p.tables e below (s₁.setTop (mkF m 0 #[.val (.ref o0), .val (.ref o1), .val (.int (0 : Int32)), .val (.int (0 : Int32)), .val .null, .unset] [])) t → Steps p.tables e below (s₁.setTop (entryFrame m #[(.ref o0), (.ref o1), (.int (0 : Int32)), (.int (0 : Int32)), .null] 6)) t := fun t k => castTop (ef_3n4 m o0 o1 (0 : Int32) (0 : Int32)) k
  generalize s₁.setTop (entryFrame m #[(.ref o0), (.ref o1), (.int (0 : Int32)), (.int (0 : Int32)), .null] 6) = B0 at K0 ⊢
  show Own.FinH p e below B0 s Z own_EL (({ frames := 1, cells := 4, slots := 8, locals := 12 } : Room)).cells (({ frames := 1, cells := 4, slots := 8, locals := 12 } : Room)).slots (fun v h L => v = none ∧ Fr n0 L ∧ Keep h0 h [o0] ∧ own_Txt Z h o0 [])
  have S0 := Own.safe_null (EL := own_EL) D0.hZ.alike E0 F0
  have K1 : ∀ t, Steps p.tables e below (s₁.setTop (mkF m 1 #[.val (.ref o0), .val (.ref o1), .val (.int (0 : Int32)), .val (.int (0 : Int32)), .val .null, .unset] [(.ref o0)])) t → Steps p.tables e below B0 t := fun t k => K0 t (by
    refine Own.aloadN X0 hx (hb hby d3_0) rfl rfl ?_
    exact k)
  obtain ⟨T2, X2, e2, st2⟩ := Own.initO (Ls := #[.val (.ref o0), .val (.ref o1), .val (.int (0 : Int32)), .val (.int (0 : Int32)), .val .null, .unset]) (S := []) (a := o0) X0 hx D0.hZ e0 D0.hown (hw _ (List.mem_of_getElem? (i := 15) rfl)) (hw _ (List.mem_of_getElem? (i := 16) rfl)) (hw _ (List.mem_of_getElem? (i := 17) rfl)) (by rw [hml]; rfl) (hb hby d3_1) (by decide) 0 (Nat.le_of_eq rfl) (by decide)
  have K3 : ∀ t, Steps p.tables e below (T2.setTop (mkF m 4 #[.val (.ref o0), .val (.ref o1), .val (.int (0 : Int32)), .val (.int (0 : Int32)), .val .null, .unset] [])) t → Steps p.tables e below B0 t := fun t k => K1 t (st2 t k)
  have K4 : ∀ t, Steps p.tables e below (T2.setTop (mkF m 5 #[.val (.ref o0), .val (.ref o1), .val (.int (0 : Int32)), .val (.int (0 : Int32)), .val .null, .unset] [(.int (0 : Int32))])) t → Steps p.tables e below B0 t := fun t k => K3 t (by
    refine Own.iloadN X2 hx (hb hby d3_4) rfl ?_
    exact k)
  have K5 : ∀ t, Steps p.tables e below (T2.setTop (mkF m 9 #[.val (.ref o0), .val (.ref o1), .val (.int (0 : Int32)), .val (.int (0 : Int32)), .val .null, .unset] [(.ref o0)])) t → Steps p.tables e below B0 t := fun t k => K4 t (by
    refine Own.ifNo X2 hx (hb hby d3_5) ((if0 _ _).trans (teq (by decide : (0 : Int32) = (0 : Int32))).2) ?_
    refine Own.aloadN X2 hx (hb hby d3_8) rfl rfl ?_
    exact k)
  obtain ⟨vm6, T6, h6, a6, b6, k6, X6, e6, E6, D6, sf6, ex6, fv6, fc6, av6, ne6, st6⟩ := Own.ldcT (Ls := #[.val (.ref o0), .val (.ref o1), .val (.int (0 : Int32)), .val (.int (0 : Int32)), .val .null, .unset]) (S := [(.ref o0)]) X2 hx (own_hEL hw) D0 e2 "" (hw _ (List.mem_of_getElem? (i := 34) rfl)) (own_wS hw) (by decide) [] (by decide) (by rfl) 0 (by decide) (by decide) (by decide) (by decide) (by decide) (hb hby d3_9)
  have S7 := sf6 o0 E0.lt S0
  have X6 : Stand p l e ({ frames := 1, cells := 4, slots := 8, locals := 12 } : Room) (s.setVm vm6) m #[(.ref o0), (.ref o1), (.int (0 : Int32)), (.int (0 : Int32)), .null] below meth c T6 [] 2 4 := X6
  have m8 : h0.size ≤ h6.size := E6.1
  have ca6 : Own.CA Z h6 b6 .byte (([] : List Int32).map fun c => c.toInt8.toInt32) := ⟨k6, by simpa using av6, by simp⟩
  have K9 : ∀ t, Steps p.tables e below (T6.setTop (mkF m 11 #[.val (.ref o0), .val (.ref o1), .val (.int (0 : Int32)), .val (.int (0 : Int32)), .val .null, .unset] [(.ref a6), (.ref o0)])) t → Steps p.tables e below B0 t := fun t k => K5 t (st6 t k)
  obtain ⟨T10, X10, e10, st10⟩ := Own.getF (Ls := #[.val (.ref o0), .val (.ref o1), .val (.int (0 : Int32)), .val (.int (0 : Int32)), .val .null, .unset]) X6 hx D6.hZ e6 D6.hown (host := "") (Or.inl (hw _ (List.mem_of_getElem? (i := 32) rfl))) Via.refl fv6 (S := [(.ref o0)]) (hb hby d3_11)
  have K11 : ∀ t, Steps p.tables e below (T10.setTop (mkF m 14 #[.val (.ref o0), .val (.ref o1), .val (.int (0 : Int32)), .val (.int (0 : Int32)), .val .null, .unset] [(.ref b6), (.ref o0)])) t → Steps p.tables e below B0 t := fun t k => K9 t (st10 t k)
  have f12 := (F0.ext E6)
  have f13 := (E0.ext E6)
  obtain ⟨T14, h14, L14, X14, e14, n14, W14, F14, st14⟩ := Own.putF (Ls := #[.val (.ref o0), .val (.ref o1), .val (.int (0 : Int32)), .val (.int (0 : Int32)), .val .null, .unset]) (S := []) (v := (.ref b6)) X10 hx D6.hZ e10 D6.hown (host := "") (Or.inl (hw _ (List.mem_of_getElem? (i := 32) rfl))) Via.refl f12 f13 (Or.inr ⟨(hw _ (List.mem_of_getElem? (i := 33) rfl)), rfl, hnm⟩) (hw _ (List.mem_of_getElem? (i := 5) rfl)) (ty := (.array .byte)) (by decide) rfl rfl (hb hby d3_14)
  have N14 : Fr n0 L14 := n14 n0 (Fr.nil _) g0
  have m15 : h6.size ≤ h14.size := Nat.le_of_eq W14.size.symm
  have S16 := Safe.wr W14 S7 D6.H S7
  have D15 := D6.wr W14 S7
  have K17 : ∀ t, Steps p.tables e below (T14.setTop (mkF m 17 #[.val (.ref o0), .val (.ref o1), .val (.int (0 : Int32)), .val (.int (0 : Int32)), .val .null, .unset] [])) t → Steps p.tables e below B0 t := fun t k => K11 t (st14 t k)
  have K18 : ∀ t, Steps p.tables e below (T14.setTop (mkF m 18 #[.val (.ref o0), .val (.ref o1), .val (.int (0 : Int32)), .val (.int (0 : Int32)), .val .null, .unset] [(.ref o0)])) t → Steps p.tables e below B0 t := fun t k => K17 t (by
    refine Own.aloadN X14 hx (hb hby d3_17) rfl rfl ?_
    exact k)
  obtain ⟨vm19, T19, h19, a19, b19, k19, X19, e19, E19, D19, sf19, ex19, fv19, fc19, av19, ne19, st19⟩ := Own.ldcT (Ls := #[.val (.ref o0), .val (.ref o1), .val (.int (0 : Int32)), .val (.int (0 : Int32)), .val .null, .unset]) (S := [(.ref o0)]) X14 hx (own_hEL hw) D15 e14 "" (hw _ (List.mem_of_getElem? (i := 34) rfl)) (own_wS hw) (by decide) [] (by decide) (by rfl) 0 (by decide) (by decide) (by decide) (by decide) (by decide) (hb hby d3_18)
  have S20 := sf19 o0 (f13.wr W14).lt S16
  have X19 : Stand p l e ({ frames := 1, cells := 4, slots := 8, locals := 12 } : Room) (s.setVm vm19) m #[(.ref o0), (.ref o1), (.int (0 : Int32)), (.int (0 : Int32)), .null] below meth c T19 L14 4 8 := X19
  have m21 : h14.size ≤ h19.size := E19.1
  have ca19 : Own.CA Z h19 b19 .byte (([] : List Int32).map fun c => c.toInt8.toInt32) := ⟨k19, by simpa using av19, by simp⟩
  have K22 : ∀ t, Steps p.tables e below (T19.setTop (mkF m 20 #[.val (.ref o0), .val (.ref o1), .val (.int (0 : Int32)), .val (.int (0 : Int32)), .val .null, .unset] [(.ref a19), (.ref o0)])) t → Steps p.tables e below B0 t := fun t k => K18 t (st19 t k)
  obtain ⟨T23, X23, e23, st23⟩ := Own.getF (Ls := #[.val (.ref o0), .val (.ref o1), .val (.int (0 : Int32)), .val (.int (0 : Int32)), .val .null, .unset]) X19 hx D19.hZ e19 D19.hown (host := "") (Or.inl (hw _ (List.mem_of_getElem? (i := 30) rfl))) Via.refl fc19 (S := [(.ref o0)]) (hb hby d3_20)
  have K24 : ∀ t, Steps p.tables e below (T23.setTop (mkF m 23 #[.val (.ref o0), .val (.ref o1), .val (.int (0 : Int32)), .val (.int (0 : Int32)), .val .null, .unset] [(.int (0 : Int32)), (.ref o0)])) t → Steps p.tables e below B0 t := fun t k => K22 t (st23 t k)
  have f25 := (((F1.ext E6).other W14 (Or.inr (slot_ne (Or.inr (hw _ (List.mem_of_getElem? (i := 31) rfl))) (Or.inr (hw _ (List.mem_of_getElem? (i := 33) rfl))) (by decide) (t := .byte) (t' := (.array .byte)) (by decide) (by decide)))).ext E19)
  have f26 := ((f13.wr W14).ext E19)
  obtain ⟨T27, h27, L27, X27, e27, n27, W27, F27, st27⟩ := Own.putF (Ls := #[.val (.ref o0), .val (.ref o1), .val (.int (0 : Int32)), .val (.int (0 : Int32)), .val .null, .unset]) (S := []) (v := (.int (0 : Int32))) X23 hx D19.hZ e23 D19.hown (host := "") (Or.inl (hw _ (List.mem_of_getElem? (i := 30) rfl))) Via.refl f25 f26 (Or.inr ⟨(hw _ (List.mem_of_getElem? (i := 31) rfl)), rfl, hnm⟩) (hw _ (List.mem_of_getElem? (i := 5) rfl)) (ty := .byte) (by decide) rfl rfl (hb hby d3_23)
  have N27 : Fr n0 L27 := n27 n0 N14 g0
  have m28 : h19.size ≤ h27.size := Nat.le_of_eq W27.size.symm
  have S29 := Safe.wr W27 S20 D19.H S20
  have D28 := D19.wr W27 S20
  have K30 : ∀ t, Steps p.tables e below (T27.setTop (mkF m 26 #[.val (.ref o0), .val (.ref o1), .val (.int (0 : Int32)), .val (.int (0 : Int32)), .val .null, .unset] [])) t → Steps p.tables e below B0 t := fun t k => K24 t (st27 t k)
  have f31 := (f26.wr W27)
  have f32 := ((F14.ext E19).other W27 (Or.inr (slot_ne (Or.inr (hw _ (List.mem_of_getElem? (i := 33) rfl))) (Or.inr (hw _ (List.mem_of_getElem? (i := 31) rfl))) (by decide) (t := (.array .byte)) (t' := .byte) (by decide) (by decide))))
  have f33 := (((ca6.other W14 (Ne.symm (ne6 o0 S7).2)).ext E19).other W27 (Ne.symm (ne6 o0 S7).2))
  have kp := (((((Keep.refl h0 [o0]).ext E6).wr W14 (Or.inl (List.mem_of_getElem? (i := 0) rfl))).ext E19).wr W27 (Or.inl (List.mem_of_getElem? (i := 0) rfl)))
  obtain ⟨kA, vA, -⟩ := f33
  exact Own.finHV X27 hx (own_hEL hw) e27 D28 (BodyLoose.notSynchronized Bd) Bd.returns (hb hby d3_26) K30 (by decide) (by decide) (by rw [e27]; exact ⟨rfl, N27, kp, ⟨_, kA, f31, f32, F27, vA, (fun c hc => absurd hc List.not_mem_nil), by decide⟩⟩)

theorem d2_0 : decode jdk_42_method_3_code 0 = .ok (.aload_n 0, 1) := by decide +kernel
theorem d2_1 : decode jdk_42_method_3_code 1 = .ok (.aload_n 1, 1) := by decide +kernel
theorem d2_2 : decode jdk_42_method_3_code 2 = .ok (.iconst 0, 1) := by decide +kernel
theorem d2_3 : decode jdk_42_method_3_code 3 = .ok (.aload_n 1, 1) := by decide +kernel
theorem d2_4 : decode jdk_42_method_3_code 4 = .ok (.arraylength, 1) := by decide +kernel
theorem d2_5 : decode jdk_42_method_3_code 5 = .ok (.aconst_null, 1) := by decide +kernel
theorem d2_6 : decode jdk_42_method_3_code 6 = .ok (.invokespecial 27, 3) := by decide +kernel
theorem d2_9 : decode jdk_42_method_3_code 9 = .ok (.return_, 1) := by decide +kernel
theorem pd_0 : parseMethodDescriptor "([CIILjava/lang/Void;)V" = some ⟨[(.array .char), .int, .int, (.object "java/lang/Void")], none⟩ := by decide +kernel
theorem ef_2 (m : MethodId) (o0 : Addr) (o1 : Addr) : entryFrame m #[(.ref o0), (.ref o1)] 2 = mkF m 0 #[.val (.ref o0), .val (.ref o1)] [] := by first | (simp [entryFrame, mkF, argsToLocals, Value.category]; done) | rfl
set_option maxRecDepth 65536 in
set_option maxHeartbeats 40000000 in
theorem cE1 (l : Launch) (Z : State) (a0 : Array Value) (hw : ∀ d ∈ tables_1, d.before a0 Z = true) (o0 : Addr) (o1 : Addr) (n0 : Nat) (old : Value) (h0 : Heap) (Z0 : n0 ≤ h0.size) (E0 : Exa Z h0 o0 "java/lang/String") (F0 : Fld Z h0 o0 "java/lang/String" "value" "[B" .null) (F1 : Fld Z h0 o0 "java/lang/String" "coder" "B" old) (g0 : n0 ≤ o0) (VA : Own.CA Z h0 o1 .char []) : Own.ConH l Z own_EL (⟨"java/lang/String", "<init>", "([C)V"⟩ : MethodName) jdk_42_method_3_code 2 none ({ frames := 2, cells := 4, slots := 8, locals := 29 } : Room) #[(.ref o0), (.ref o1)] h0 (fun v h L => v = none ∧ Fr n0 L ∧ Keep h0 h [o0] ∧ own_Txt Z h o0 []) := by
  intro ws
  refine MetFree.of_bodySF (plainFor_of_name pn_0) hisR ?_
  intro p e s m args below meth c s₁ Bd hml0 hP hK
  obtain ⟨rfl, hZ, hh, hH⟩ := hP
  have hx := Bd.exec
  have hby := Bd.bytes
  have hml : c.maxLocals = 2 := hml0
  have hown : s.vm.findClass "java/lang/String" = some m.cls := findClass_of_methodNamed Bd.named
  have hnm := (name_of_methodNamed Bd.named Bd.method).1
  have X0 : Stand p l e ({ frames := 2, cells := 4, slots := 8, locals := 29 } : Room) (s.setVm s.vm) m #[(.ref o0), (.ref o1)] below meth c s₁ [] 0 0 := Stand.of_body Bd
  have e0 : s₁.heap = h0 := by rw [← hh, Bd.state]; rfl
  have D0 : Own.Wd s Z own_EL "java/lang/String" m.cls s.vm h0 := by rw [← hh]; exact Own.Wd.start hZ hown (by rw [hh]; exact hH)
  have K0 : ∀ t, Steps p.tables e below (s₁.setTop (mkF m 0 #[.val (.ref o0), .val (.ref o1)] [])) t → Steps p.tables e below (s₁.setTop (entryFrame m #[(.ref o0), (.ref o1)] 2)) t := fun t k => castTop (ef_2 m o0 o1) k
  generalize s₁.setTop (entryFrame m #[(.ref o0), (.ref o1)] 2) = B0 at K0 ⊢
  show Own.FinH p e below B0 s Z own_EL (({ frames := 2, cells := 4, slots := 8, locals := 29 } : Room)).cells (({ frames := 2, cells := 4, slots := 8, locals := 29 } : Room)).slots (fun v h L => v = none ∧ Fr n0 L ∧ Keep h0 h [o0] ∧ own_Txt Z h o0 [])
  have K1 : ∀ t, Steps p.tables e below (s₁.setTop (mkF m 4 #[.val (.ref o0), .val (.ref o1)] [(.ref o1), (.int (0 : Int32)), (.ref o1), (.ref o0)])) t → Steps p.tables e below B0 t := fun t k => K0 t (by
    refine Own.aloadN X0 hx (hb hby d2_0) rfl rfl ?_
    refine Own.aloadN X0 hx (hb hby d2_1) rfl rfl ?_
    refine Own.iconst X0 hx (0 : Int32) (hb hby d2_2) rfl ?_
    refine Own.aloadN X0 hx (hb hby d2_3) rfl rfl ?_
    exact k)
  obtain ⟨cq2, Aq2, lq2⟩ := Own.CA.len VA
  have K3 : ∀ t, Steps p.tables e below (s₁.setTop (mkF m 6 #[.val (.ref o0), .val (.ref o1)] [.null, (.int (0 : Int32)), (.int (0 : Int32)), (.ref o1), (.ref o0)])) t → Steps p.tables e below B0 t := fun t k => K1 t (by
    refine Own.arraylength X0 hx (0 : Int32) D0.hZ e0 Aq2 lq2 (hb hby d2_4) ?_
    refine Own.aconstNull X0 hx (hb hby d2_5) ?_
    exact k)
  obtain ⟨vm4, T4, h4, v4, J4, L4, X4, e4, D4, mm4, n4, hQ4, st4⟩ := Own.callIW (Ls := #[.val (.ref o0), .val (.ref o1)]) X0 hx (own_hEL hw) D0 e0 rfl o0 [(.ref o1), (.int (0 : Int32)), (.int (0 : Int32)), .null] [] (cE4 l Z a0 hw o0 o1 n0 old h0 (Nat.le_trans Z0 (Nat.le_refl _)) E0 F0 F1 g0) (hw _ (List.mem_of_getElem? (i := 11) rfl)) (hw _ (List.mem_of_getElem? (i := 12) rfl)) (hw _ (List.mem_of_getElem? (i := 6) rfl)) (hw _ (List.mem_of_getElem? (i := 14) rfl)) (by decide) 0 (by decide) (by decide) (by decide) (by decide) (by rw [hml]; rfl) (lenOf pd_0 rfl) rfl (Nat.le_of_eq rfl) (hb hby d2_6)
  have X4 : Stand p l e ({ frames := 2, cells := 4, slots := 8, locals := 29 } : Room) (s.setVm vm4) m #[(.ref o0), (.ref o1)] below meth c T4 L4 4 8 := X4
  obtain ⟨rfl, NN4, K4, t4⟩ := hQ4
  have N4 : Fr n0 L4 := n4 n0 (Fr.nil _) NN4
  have m5 : h0.size ≤ h4.size := K4.1
  have K6 : ∀ t, Steps p.tables e below (T4.setTop (mkF m 9 #[.val (.ref o0), .val (.ref o1)] [])) t → Steps p.tables e below B0 t := fun t k => K3 t (st4 t k)
  have kp := ((Keep.refl h0 [o0]).trans K4 (allS (Or.inl (List.mem_of_getElem? (i := 0) rfl)) all0))
  exact Own.finHV X4 hx (own_hEL hw) e4 D4 (BodyLoose.notSynchronized Bd) Bd.returns (hb hby d2_9) K6 (by decide) (by decide) (by rw [e4]; exact ⟨rfl, N4, kp, t4⟩)

theorem own_mask (x : Int32) (n : Nat) (y : Int32) (hy : y.toBitVec = BitVec.ofNat 32 (2 ^ n - 1)) (hn : n ≤ 30) : (x &&& y).toInt = x.toInt % 2 ^ n := by
  have hp : 2 ^ n ≤ 2 ^ 30 := Nat.pow_le_pow_right (by omega) hn
  have hp0 : 0 < 2 ^ n := Nat.two_pow_pos n
  have h2 : (x.toBitVec &&& y.toBitVec).toNat = x.toBitVec.toNat % 2 ^ n := by
    rw [BitVec.toNat_and, hy, BitVec.toNat_ofNat, Nat.mod_eq_of_lt (by omega)]
    exact Nat.and_two_pow_sub_one_eq_mod _ n
  have h1 : (x &&& y).toInt = ((x.toBitVec &&& y.toBitVec).toNat : Int) := by
    show (x &&& y).toBitVec.toInt = _
    rw [Int32.toBitVec_and]
    have : (x.toBitVec &&& y.toBitVec).toNat < 2 ^ n := by rw [h2]; exact Nat.mod_lt _ hp0
    rw [BitVec.toInt_eq_toNat_cond, if_pos (by omega)]
  have h3 : x.toInt = x.toBitVec.toInt := rfl
  have h4 : ((2 : Int) ^ n) = ((2 ^ n : Nat) : Int) := by simp
  have h5 : (2 ^ 32 : Nat) % 2 ^ n = 0 := Nat.mod_eq_zero_of_dvd (Nat.pow_dvd_pow 2 (by omega))
  rw [h1, h2, h3, BitVec.toInt_eq_toNat_cond, h4]
  split
  · exact Int.natCast_emod _ _
  · rw [Int.natCast_emod, Int.sub_emod]
    have : ((2 ^ 32 : Nat) : Int) % ((2 ^ n : Nat) : Int) = 0 := by rw [← Int.natCast_emod, h5]; rfl
    rw [this, Int.sub_zero, Int.emod_emod_of_dvd _ (Int.dvd_refl _)]
theorem own_nat {x : Int32} {n : Nat} (h0 : 0 ≤ x.toInt) (h1 : x.toInt < n) (hn : n < 2 ^ 31) : ∃ i : Nat, i < n ∧ x = Int32.ofNat i := by
  refine ⟨x.toInt.toNat, by omega, ?_⟩
  rw [← Int32.toInt_inj, Int32.toInt_ofNat_small (by omega)]; omega
theorem own_rem (k u : Int32) (hu : 0 < u.toInt) : 0 ≤ ((k &&& 2147483647) % u).toInt ∧ ((k &&& 2147483647) % u).toInt < u.toInt := by
  have h0 : 0 ≤ (k &&& 2147483647).toInt := by
    have : ¬ (k &&& 2147483647) < 0 := by
      rw [Jvm.Free.XT.and_neg32]; exact fun q => absurd q.2 (by decide)
    rw [Int32.lt_iff_toInt_lt] at this
    exact Int.not_lt.mp this
  rw [Int32.toInt_mod]
  exact ⟨Int.tmod_nonneg _ h0, Int.tmod_lt_of_pos _ hu⟩

theorem own_nar {x : Int32} (h0 : 0 ≤ x.toInt) (h1 : x.toInt < 65536) : nar .char x = x := by
  show x.toUInt32.toUInt16.toUInt32.toInt32 = x
  rw [← Int32.toBitVec_inj]
  show (x.toBitVec.setWidth 16).setWidth 32 = x.toBitVec
  have h3 : x.toInt = x.toBitVec.toInt := rfl
  rw [h3, BitVec.toInt_eq_toNat_cond] at h0 h1
  have h4 := x.toBitVec.isLt
  apply BitVec.eq_of_toNat_eq
  rw [BitVec.toNat_setWidth, BitVec.toNat_setWidth]
  split at h0
  · rw [if_pos (by assumption)] at h1; omega
  · omega
theorem own_lt0 {x : Int32} (h0 : 0 ≤ x.toInt) (h1 : x.toInt ≤ 255) : ¬ x < 0 ∧ ¬ (255 : Int32) < x := by
  rw [Int32.lt_iff_toInt_lt, Int32.lt_iff_toInt_lt, show (0 : Int32).toInt = 0 by decide, show (255 : Int32).toInt = 255 by decide]; omega

def own_mk (n a b c : Int32) : List Int32 := if n = 0 then [] else (if n = 1 then [a] else (if n = 2 then [a, b] else [a, b, c]))
def own_ok (c : Int32) : Prop := ¬ c < 0 ∧ ¬ (255 : Int32) < c
theorem own_narb {c : Int32} (h : own_ok c) : nar .char c = c := by
  obtain ⟨h1, h2⟩ := h
  rw [Int32.lt_iff_toInt_lt, show (0 : Int32).toInt = 0 by decide] at h1
  rw [Int32.lt_iff_toInt_lt, show (255 : Int32).toInt = 255 by decide] at h2
  exact own_nar (by omega) (by omega)

theorem d1_0 : decode method_2_code 0 = .ok (.iload_n 0, 1) := by decide +kernel
theorem d1_1 : decode method_2_code 1 = .ok (.ifCond .ne 14, 3) := by decide +kernel
theorem d1_4 : decode method_2_code 4 = .ok (.new 7, 3) := by decide +kernel
theorem d1_7 : decode method_2_code 7 = .ok (.dup, 1) := by decide +kernel
theorem d1_8 : decode method_2_code 8 = .ok (.iconst 0, 1) := by decide +kernel
theorem d1_9 : decode method_2_code 9 = .ok (.newarray .char, 2) := by decide +kernel
theorem d1_11 : decode method_2_code 11 = .ok (.invokespecial 9, 3) := by decide +kernel
theorem d1_14 : decode method_2_code 14 = .ok (.areturn, 1) := by decide +kernel
theorem d1_15 : decode method_2_code 15 = .ok (.iload_n 0, 1) := by decide +kernel
theorem d1_16 : decode method_2_code 16 = .ok (.iconst 1, 1) := by decide +kernel
theorem d1_17 : decode method_2_code 17 = .ok (.if_icmp .ne 18, 3) := by decide +kernel
theorem d1_20 : decode method_2_code 20 = .ok (.new 7, 3) := by decide +kernel
theorem d1_23 : decode method_2_code 23 = .ok (.dup, 1) := by decide +kernel
theorem d1_24 : decode method_2_code 24 = .ok (.iconst 1, 1) := by decide +kernel
theorem d1_25 : decode method_2_code 25 = .ok (.newarray .char, 2) := by decide +kernel
theorem d1_27 : decode method_2_code 27 = .ok (.dup, 1) := by decide +kernel
theorem d1_28 : decode method_2_code 28 = .ok (.iconst 0, 1) := by decide +kernel
theorem d1_29 : decode method_2_code 29 = .ok (.iload_n 1, 1) := by decide +kernel
theorem d1_30 : decode method_2_code 30 = .ok (.castore, 1) := by decide +kernel
theorem d1_31 : decode method_2_code 31 = .ok (.invokespecial 9, 3) := by decide +kernel
theorem d1_34 : decode method_2_code 34 = .ok (.areturn, 1) := by decide +kernel
theorem d1_35 : decode method_2_code 35 = .ok (.iload_n 0, 1) := by decide +kernel
theorem d1_36 : decode method_2_code 36 = .ok (.iconst 2, 1) := by decide +kernel
theorem d1_37 : decode method_2_code 37 = .ok (.if_icmp .ne 22, 3) := by decide +kernel
theorem d1_40 : decode method_2_code 40 = .ok (.new 7, 3) := by decide +kernel
theorem d1_43 : decode method_2_code 43 = .ok (.dup, 1) := by decide +kernel
theorem d1_44 : decode method_2_code 44 = .ok (.iconst 2, 1) := by decide +kernel
theorem d1_45 : decode method_2_code 45 = .ok (.newarray .char, 2) := by decide +kernel
theorem d1_47 : decode method_2_code 47 = .ok (.dup, 1) := by decide +kernel
theorem d1_48 : decode method_2_code 48 = .ok (.iconst 0, 1) := by decide +kernel
theorem d1_49 : decode method_2_code 49 = .ok (.iload_n 1, 1) := by decide +kernel
theorem d1_50 : decode method_2_code 50 = .ok (.castore, 1) := by decide +kernel
theorem d1_51 : decode method_2_code 51 = .ok (.dup, 1) := by decide +kernel
theorem d1_52 : decode method_2_code 52 = .ok (.iconst 1, 1) := by decide +kernel
theorem d1_53 : decode method_2_code 53 = .ok (.iload_n 2, 1) := by decide +kernel
theorem d1_54 : decode method_2_code 54 = .ok (.castore, 1) := by decide +kernel
theorem d1_55 : decode method_2_code 55 = .ok (.invokespecial 9, 3) := by decide +kernel
theorem d1_58 : decode method_2_code 58 = .ok (.areturn, 1) := by decide +kernel
theorem d1_59 : decode method_2_code 59 = .ok (.new 7, 3) := by decide +kernel
theorem d1_62 : decode method_2_code 62 = .ok (.dup, 1) := by decide +kernel
theorem d1_63 : decode method_2_code 63 = .ok (.iconst 3, 1) := by decide +kernel
theorem d1_64 : decode method_2_code 64 = .ok (.newarray .char, 2) := by decide +kernel
theorem d1_66 : decode method_2_code 66 = .ok (.dup, 1) := by decide +kernel
theorem d1_67 : decode method_2_code 67 = .ok (.iconst 0, 1) := by decide +kernel
theorem d1_68 : decode method_2_code 68 = .ok (.iload_n 1, 1) := by decide +kernel
theorem d1_69 : decode method_2_code 69 = .ok (.castore, 1) := by decide +kernel
theorem d1_70 : decode method_2_code 70 = .ok (.dup, 1) := by decide +kernel
theorem d1_71 : decode method_2_code 71 = .ok (.iconst 1, 1) := by decide +kernel
theorem d1_72 : decode method_2_code 72 = .ok (.iload_n 2, 1) := by decide +kernel
theorem d1_73 : decode method_2_code 73 = .ok (.castore, 1) := by decide +kernel
theorem d1_74 : decode method_2_code 74 = .ok (.dup, 1) := by decide +kernel
theorem d1_75 : decode method_2_code 75 = .ok (.iconst 2, 1) := by decide +kernel
theorem d1_76 : decode method_2_code 76 = .ok (.iload_n 3, 1) := by decide +kernel
theorem d1_77 : decode method_2_code 77 = .ok (.castore, 1) := by decide +kernel
theorem d1_78 : decode method_2_code 78 = .ok (.invokespecial 9, 3) := by decide +kernel
theorem d1_81 : decode method_2_code 81 = .ok (.areturn, 1) := by decide +kernel
theorem pn_1 : plainName "com/example/cyclewarden/cyclewarden/site/TransactionIdEqualsPinLaw" = true := by first | (simp [plainName, overriddenIn]; done) | decide +kernel
theorem pd_1 : parseMethodDescriptor "([C)V" = some ⟨[(.array .char)], none⟩ := by decide +kernel
theorem ef_1 (m : MethodId) (p0 : Int32) (p1 : Int32) (p2 : Int32) (p3 : Int32) : entryFrame m #[(.int p0), (.int p1), (.int p2), (.int p3)] 4 = mkF m 0 #[.val (.int p0), .val (.int p1), .val (.int p2), .val (.int p3)] [] := by first | (simp [entryFrame, mkF, argsToLocals, Value.category]; done) | rfl
set_option maxRecDepth 65536 in
set_option maxHeartbeats 40000000 in
theorem c1 (l : Launch) (Z : State) (a0 : Array Value) (hw : ∀ d ∈ tables_1, d.before a0 Z = true) (p0 : Int32) (p1 : Int32) (p2 : Int32) (p3 : Int32) (n0 : Nat) (G1 : Int32) (h0 : Heap) (Z0 : n0 ≤ h0.size) (hbp1 : own_ok p1) (hbp2 : own_ok p2) (hbp3 : own_ok p3) (SC : Sta Z h0 "java/lang/String" "COMPACT_STRINGS" "Z" (.int G1)) (hG1 : ¬ G1 = 0) : Own.ConH l Z own_EL (⟨"com/example/cyclewarden/cyclewarden/site/TransactionIdEqualsPinLaw", "make", "(ICCC)Ljava/lang/String;"⟩ : MethodName) method_2_code 4 (some (.object "java/lang/String")) ({ frames := 4, cells := 8, slots := 20, locals := 66 } : Room) #[(.int p0), (.int p1), (.int p2), (.int p3)] h0 (fun v h L => ∃ b, v = some (.ref b) ∧ Fr n0 L ∧ Keep h0 h [] ∧ own_Txt Z h b (own_mk p0 p1 p2 p3)) := by
  intro ws
  refine MetFree.of_bodySF (plainFor_of_name pn_1) hisR ?_
  intro p e s m args below meth c s₁ Bd hml0 hP hK
  obtain ⟨rfl, hZ, hh, hH⟩ := hP
  have hx := Bd.exec
  have hby := Bd.bytes
  have hml : c.maxLocals = 4 := hml0
  have hown : s.vm.findClass "com/example/cyclewarden/cyclewarden/site/TransactionIdEqualsPinLaw" = some m.cls := findClass_of_methodNamed Bd.named
  have hnm := (name_of_methodNamed Bd.named Bd.method).1
  have X0 : Stand p l e ({ frames := 4, cells := 8, slots := 20, locals := 66 } : Room) (s.setVm s.vm) m #[(.int p0), (.int p1), (.int p2), (.int p3)] below meth c s₁ [] 0 0 := Stand.of_body Bd
  have e0 : s₁.heap = h0 := by rw [← hh, Bd.state]; rfl
  have D0 : Own.Wd s Z own_EL "com/example/cyclewarden/cyclewarden/site/TransactionIdEqualsPinLaw" m.cls s.vm h0 := by rw [← hh]; exact Own.Wd.start hZ hown (by rw [hh]; exact hH)
  have K0 : ∀ t, Steps p.tables e below (s₁.setTop (mkF m 0 #[.val (.int p0), .val (.int p1), .val (.int p2), .val (.int p3)] [])) t → Steps p.tables e below (s₁.setTop (entryFrame m #[(.int p0), (.int p1), (.int p2), (.int p3)] 4)) t := fun t k => castTop (ef_1 m p0 p1 p2 p3) k
  generalize s₁.setTop (entryFrame m #[(.int p0), (.int p1), (.int p2), (.int p3)] 4) = B0 at K0 ⊢
  show Own.FinH p e below B0 s Z own_EL (({ frames := 4, cells := 8, slots := 20, locals := 66 } : Room)).cells (({ frames := 4, cells := 8, slots := 20, locals := 66 } : Room)).slots (fun v h L => ∃ b, v = some (.ref b) ∧ Fr n0 L ∧ Keep h0 h [] ∧ own_Txt Z h b (own_mk p0 p1 p2 p3))
  have K1 : ∀ t, Steps p.tables e below (s₁.setTop (mkF m 1 #[.val (.int p0), .val (.int p1), .val (.int p2), .val (.int p3)] [(.int p0)])) t → Steps p.tables e below B0 t := fun t k => K0 t (by
    refine Own.iloadN X0 hx (hb hby d1_0) rfl ?_
    exact k)
  by_cases hc2 : p0 = (0 : Int32)
  · have K3 : ∀ t, Steps p.tables e below (s₁.setTop (mkF m 4 #[.val (.int p0), .val (.int p1), .val (.int p2), .val (.int p3)] [])) t → Steps p.tables e below B0 t := fun t k => K1 t (by
      refine Own.ifNo X0 hx (hb hby d1_1) ((if0 _ _).trans (teq hc2).2) ?_
      exact k)
    obtain ⟨T4, h4, b4, X4, e4, E4, g4, A4, D4, st4⟩ := Own.newO (Ls := #[.val (.int p0), .val (.int p1), .val (.int p2), .val (.int p3)]) (S := []) X0 hx D0.hZ e0 D0.hown (hw _ (List.mem_of_getElem? (i := 4) rfl)) (hw _ (List.mem_of_getElem? (i := 5) rfl)) (hw _ (List.mem_of_getElem? (i := 6) rfl)) (hb hby d1_4) (by decide) (by decide)
    have le_b4 : h0.size ≤ b4 := Nat.le_of_eq g4.symm
    have X4 : Stand p l e ({ frames := 4, cells := 8, slots := 20, locals := 66 } : Room) (s.setVm s.vm) m #[(.int p0), (.int p1), (.int p2), (.int p3)] below meth c T4 [] 1 4 := X4
    have m5 : h0.size ≤ h4.size := E4.1
    have D5 := D0.ext E4
    have F4_coder : Fld Z h4 b4 "java/lang/String" "coder" "B" (.int (0 : Int32)) := D4 (Or.inr (hw _ (List.mem_of_getElem? (i := 31) rfl))) (ty := .byte) (by decide)
    have F4_value : Fld Z h4 b4 "java/lang/String" "value" "[B" .null := D4 (Or.inr (hw _ (List.mem_of_getElem? (i := 33) rfl))) (ty := (.array .byte)) (by decide)
    have K6 : ∀ t, Steps p.tables e below (T4.setTop (mkF m 7 #[.val (.int p0), .val (.int p1), .val (.int p2), .val (.int p3)] [(.ref b4)])) t → Steps p.tables e below B0 t := fun t k => K3 t (st4 t k)
    have K7 : ∀ t, Steps p.tables e below (T4.setTop (mkF m 9 #[.val (.int p0), .val (.int p1), .val (.int p2), .val (.int p3)] [(.int (0 : Int32)), (.ref b4), (.ref b4)])) t → Steps p.tables e below B0 t := fun t k => K6 t (by
      refine Own.dup X4 hx (hb hby d1_7) rfl ?_
      refine Own.iconst X4 hx (0 : Int32) (hb hby d1_8) rfl ?_
      exact k)
    obtain ⟨T8, h8, b8, X8, e8, E8, g8, V8, st8⟩ := Own.newA (Ls := #[.val (.int p0), .val (.int p1), .val (.int p2), .val (.int p3)]) (S := [(.ref b4), (.ref b4)]) (z := (0 : Int32)) X4 hx D5.hZ e4 .char rfl rfl (hw _ (List.mem_of_getElem? (i := 7) rfl)) 0 rfl (by decide) (hb hby d1_9) (by decide) (by decide)
    have le_b8 : h4.size ≤ b8 := Nat.le_of_eq g8.symm
    have X8 : Stand p l e ({ frames := 4, cells := 8, slots := 20, locals := 66 } : Room) (s.setVm s.vm) m #[(.int p0), (.int p1), (.int p2), (.int p3)] below meth c T8 [] 2 4 := X8
    have V8 : Own.CA Z h8 b8 .char [] := V8
    have m9 : h4.size ≤ h8.size := E8.1
    have D9 := D5.ext E8
    have K10 : ∀ t, Steps p.tables e below (T8.setTop (mkF m 11 #[.val (.int p0), .val (.int p1), .val (.int p2), .val (.int p3)] [(.ref b8), (.ref b4), (.ref b4)])) t → Steps p.tables e below B0 t := fun t k => K7 t (st8 t k)
    have f11 := (A4.ext E8)
    have f12 := (F4_value.ext E8)
    have f13 := (F4_coder.ext E8)
    obtain ⟨vm14, T14, h14, v14, J14, L14, X14, e14, D14, mm14, n14, hQ14, st14⟩ := Own.callIW (Ls := #[.val (.int p0), .val (.int p1), .val (.int p2), .val (.int p3)]) X8 hx (own_hEL hw) D9 e8 rfl b4 [(.ref b8)] [(.ref b4)] (cE1 l Z a0 hw b4 b8 n0 (.int (0 : Int32)) h8 (Nat.le_trans Z0 (Nat.le_trans m5 m9)) f11 f12 f13 (Nat.le_trans Z0 (Nat.le_trans (Nat.le_refl _) le_b4)) V8) (hw _ (List.mem_of_getElem? (i := 8) rfl)) (hw _ (List.mem_of_getElem? (i := 9) rfl)) (hw _ (List.mem_of_getElem? (i := 6) rfl)) (hw _ (List.mem_of_getElem? (i := 10) rfl)) (by decide) 1 (by decide) (by decide) (by decide) (by decide) (by rw [hml]; rfl) (lenOf pd_1 rfl) rfl (Nat.le_of_eq rfl) (hb hby d1_11)
    have X14 : Stand p l e ({ frames := 4, cells := 8, slots := 20, locals := 66 } : Room) (s.setVm vm14) m #[(.int p0), (.int p1), (.int p2), (.int p3)] below meth c T14 L14 6 12 := X14
    obtain ⟨rfl, NN14, K14, t14⟩ := hQ14
    have N14 : Fr n0 L14 := n14 n0 (Fr.nil _) NN14
    have m15 : h8.size ≤ h14.size := K14.1
    have K16 : ∀ t, Steps p.tables e below (T14.setTop (mkF m 14 #[.val (.int p0), .val (.int p1), .val (.int p2), .val (.int p3)] [(.ref b4)])) t → Steps p.tables e below B0 t := fun t k => K10 t (st14 t k)
    have kp := ((((Keep.refl h0 []).ext E4).ext E8).trans K14 (allS (Or.inr le_b4) all0))
    have tt : own_Txt Z h14 b4 (own_mk p0 p1 p2 p3) := by unfold own_mk; rw [if_pos hc2]; exact t14
    exact Own.finHA X14 hx (own_hEL hw) e14 D14 (BodyLoose.notSynchronized Bd) Bd.returns rfl rfl (hb hby d1_14) K16 (by decide) (by decide) (by rw [e14]; exact ⟨_, rfl, N14, kp, tt⟩)
  · have K17 : ∀ t, Steps p.tables e below (s₁.setTop (mkF m 17 #[.val (.int p0), .val (.int p1), .val (.int p2), .val (.int p3)] [(.int (1 : Int32)), (.int p0)])) t → Steps p.tables e below B0 t := fun t k => K1 t (by
      refine Own.ifYes X0 hx 15 (hb hby d1_1) ((if0 _ _).trans (feq hc2).2) (by decide) (by decide) ?_
      refine Own.iloadN X0 hx (hb hby d1_15) rfl ?_
      refine Own.iconst X0 hx (1 : Int32) (hb hby d1_16) rfl ?_
      exact k)
    by_cases hc18 : p0 = (1 : Int32)
    · have K19 : ∀ t, Steps p.tables e below (s₁.setTop (mkF m 20 #[.val (.int p0), .val (.int p1), .val (.int p2), .val (.int p3)] [])) t → Steps p.tables e below B0 t := fun t k => K17 t (by
        refine Own.icmpNo X0 hx (hb hby d1_17) (teq hc18).2 ?_
        exact k)
      obtain ⟨T20, h20, b20, X20, e20, E20, g20, A20, D20, st20⟩ := Own.newO (Ls := #[.val (.int p0), .val (.int p1), .val (.int p2), .val (.int p3)]) (S := []) X0 hx D0.hZ e0 D0.hown (hw _ (List.mem_of_getElem? (i := 4) rfl)) (hw _ (List.mem_of_getElem? (i := 5) rfl)) (hw _ (List.mem_of_getElem? (i := 6) rfl)) (hb hby d1_20) (by decide) (by decide)
      have le_b20 : h0.size ≤ b20 := Nat.le_of_eq g20.symm
      have X20 : Stand p l e ({ frames := 4, cells := 8, slots := 20, locals := 66 } : Room) (s.setVm s.vm) m #[(.int p0), (.int p1), (.int p2), (.int p3)] below meth c T20 [] 1 4 := X20
      have m21 : h0.size ≤ h20.size := E20.1
      have D21 := D0.ext E20
      have F20_coder : Fld Z h20 b20 "java/lang/String" "coder" "B" (.int (0 : Int32)) := D20 (Or.inr (hw _ (List.mem_of_getElem? (i := 31) rfl))) (ty := .byte) (by decide)
      have F20_value : Fld Z h20 b20 "java/lang/String" "value" "[B" .null := D20 (Or.inr (hw _ (List.mem_of_getElem? (i := 33) rfl))) (ty := (.array .byte)) (by decide)
      have K22 : ∀ t, Steps p.tables e below (T20.setTop (mkF m 23 #[.val (.int p0), .val (.int p1), .val (.int p2), .val (.int p3)] [(.ref b20)])) t → Steps p.tables e below B0 t := fun t k => K19 t (st20 t k)
      have K23 : ∀ t, Steps p.tables e below (T20.setTop (mkF m 25 #[.val (.int p0), .val (.int p1), .val (.int p2), .val (.int p3)] [(.int (1 : Int32)), (.ref b20), (.ref b20)])) t → Steps p.tables e below B0 t := fun t k => K22 t (by
        refine Own.dup X20 hx (hb hby d1_23) rfl ?_
        refine Own.iconst X20 hx (1 : Int32) (hb hby d1_24) rfl ?_
        exact k)
      obtain ⟨T24, h24, b24, X24, e24, E24, g24, V24, st24⟩ := Own.newA (Ls := #[.val (.int p0), .val (.int p1), .val (.int p2), .val (.int p3)]) (S := [(.ref b20), (.ref b20)]) (z := (1 : Int32)) X20 hx D21.hZ e20 .char rfl rfl (hw _ (List.mem_of_getElem? (i := 7) rfl)) 1 rfl (by decide) (hb hby d1_25) (by decide) (by decide)
      have le_b24 : h20.size ≤ b24 := Nat.le_of_eq g24.symm
      have X24 : Stand p l e ({ frames := 4, cells := 8, slots := 20, locals := 66 } : Room) (s.setVm s.vm) m #[(.int p0), (.int p1), (.int p2), (.int p3)] below meth c T24 [] 2 5 := X24
      have V24 : Own.CA Z h24 b24 .char [(0 : Int32)] := V24
      have m25 : h20.size ≤ h24.size := E24.1
      have D25 := D21.ext E24
      have K26 : ∀ t, Steps p.tables e below (T24.setTop (mkF m 27 #[.val (.int p0), .val (.int p1), .val (.int p2), .val (.int p3)] [(.ref b24), (.ref b20), (.ref b20)])) t → Steps p.tables e below B0 t := fun t k => K23 t (st24 t k)
      have K27 : ∀ t, Steps p.tables e below (T24.setTop (mkF m 30 #[.val (.int p0), .val (.int p1), .val (.int p2), .val (.int p3)] [(.int p1), (.int (0 : Int32)), (.ref b24), (.ref b24), (.ref b20), (.ref b20)])) t → Steps p.tables e below B0 t := fun t k => K26 t (by
        refine Own.dup X24 hx (hb hby d1_27) rfl ?_
        refine Own.iconst X24 hx (0 : Int32) (hb hby d1_28) rfl ?_
        refine Own.iloadN X24 hx (hb hby d1_29) rfl ?_
        exact k)
      obtain ⟨T28, h28, L28, X28, e28, n28, W28, V28, st28⟩ := Own.stc (Ls := #[.val (.int p0), .val (.int p1), .val (.int p2), .val (.int p3)]) (S := [(.ref b24), (.ref b20), (.ref b20)]) (x := p1) (j := (0 : Int32)) X24 hx D25.hZ e24 V24 0 rfl (by decide) (show 0 < 1 by decide) (hb hby d1_30)
      have V28 : Own.CA Z h28 b24 .char [p1] := (by rw [show p1 = nar .char p1 from (own_narb hbp1).symm]; exact V28)
      have N28 : Fr n0 L28 := n28 n0 (Fr.nil _) (Nat.le_trans Z0 (Nat.le_trans m21 le_b24))
      have m29 : h24.size ≤ h28.size := Nat.le_of_eq W28.size.symm
      have D29 := D25.wr W28 (Own.CA.safe D25.hZ.alike V24 (by decide))
      have K30 : ∀ t, Steps p.tables e below (T28.setTop (mkF m 31 #[.val (.int p0), .val (.int p1), .val (.int p2), .val (.int p3)] [(.ref b24), (.ref b20), (.ref b20)])) t → Steps p.tables e below B0 t := fun t k => K27 t (st28 t k)
      have f32 := ((A20.ext E24).wr W28)
      have f33 := ((F20_value.ext E24).other W28 (Or.inl (Nat.ne_of_lt (Nat.lt_of_lt_of_le A20.lt le_b24))))
      have f34 := ((F20_coder.ext E24).other W28 (Or.inl (Nat.ne_of_lt (Nat.lt_of_lt_of_le A20.lt le_b24))))
      have f35 := (((SC.ext E20).ext E24).wr W28)
      have hp : ∀ c ∈ ([p1] : List Int32), ¬ c < 0 ∧ ¬ (255 : Int32) < c := by
        intro c hc; simp only [List.mem_cons, List.not_mem_nil, or_false] at hc
        rcases hc with rfl
        · exact hbp1
      obtain ⟨T31, h31, J31, L31, X31, e31, n31, NN31, K31, t31, st31⟩ := own_newS (Ls := #[.val (.int p0), .val (.int p1), .val (.int p2), .val (.int p3)]) (cs := [p1]) (n := 1) (n0 := n0) X28 hx D29.hZ e28 hw (hw _ (List.mem_of_getElem? (i := 5) rfl)) D29.hown rfl (Nat.le_trans Z0 (Nat.le_trans (Nat.le_refl _) le_b20)) (Nat.le_trans Z0 (Nat.le_trans (Nat.le_trans m21 m25) m29)) f32 f33 f34 V28 f35 hG1 (by decide) (by decide) hp (hw _ (List.mem_of_getElem? (i := 8) rfl)) (hw _ (List.mem_of_getElem? (i := 9) rfl)) (hw _ (List.mem_of_getElem? (i := 10) rfl)) [(.ref b20)] 1 (by decide) (by decide) (by decide) (by decide) (by rw [hml]; rfl) (lenOf pd_1 rfl) (Nat.le_of_eq rfl) (hb hby d1_31)
      have X31 : Stand p l e ({ frames := 4, cells := 8, slots := 20, locals := 66 } : Room) (s.setVm s.vm) m #[(.int p0), (.int p1), (.int p2), (.int p3)] below meth c T31 L31 3 6 := X31
      have N31 : Fr n0 L31 := n31 n0 N28 NN31
      have m36 : h28.size ≤ h31.size := K31.1
      have D36 := D29.keep K31 (sfS (Own.safe_null D29.hZ.alike f32 f33) sf0)
      have K37 : ∀ t, Steps p.tables e below (T31.setTop (mkF m 34 #[.val (.int p0), .val (.int p1), .val (.int p2), .val (.int p3)] [(.ref b20)])) t → Steps p.tables e below B0 t := fun t k => K30 t (st31 t k)
      have kp := (((((Keep.refl h0 []).ext E20).ext E24).wr W28 (Or.inr (Nat.le_trans m21 le_b24))).trans K31 (allS (Or.inr le_b20) all0))
      have tt : own_Txt Z h31 b20 (own_mk p0 p1 p2 p3) := by unfold own_mk; rw [if_neg hc2, if_pos hc18]; exact t31
      exact Own.finHA X31 hx (own_hEL hw) e31 D36 (BodyLoose.notSynchronized Bd) Bd.returns rfl rfl (hb hby d1_34) K37 (by decide) (by decide) (by rw [e31]; exact ⟨_, rfl, N31, kp, tt⟩)
    · have K38 : ∀ t, Steps p.tables e below (s₁.setTop (mkF m 37 #[.val (.int p0), .val (.int p1), .val (.int p2), .val (.int p3)] [(.int (2 : Int32)), (.int p0)])) t → Steps p.tables e below B0 t := fun t k => K17 t (by
        refine Own.icmpYes X0 hx 35 (hb hby d1_17) (feq hc18).2 (by decide) (by decide) ?_
        refine Own.iloadN X0 hx (hb hby d1_35) rfl ?_
        refine Own.iconst X0 hx (2 : Int32) (hb hby d1_36) rfl ?_
        exact k)
      by_cases hc39 : p0 = (2 : Int32)
      · have K40 : ∀ t, Steps p.tables e below (s₁.setTop (mkF m 40 #[.val (.int p0), .val (.int p1), .val (.int p2), .val (.int p3)] [])) t → Steps p.tables e below B0 t := fun t k => K38 t (by
          refine Own.icmpNo X0 hx (hb hby d1_37) (teq hc39).2 ?_
          exact k)
        obtain ⟨T41, h41, b41, X41, e41, E41, g41, A41, D41, st41⟩ := Own.newO (Ls := #[.val (.int p0), .val (.int p1), .val (.int p2), .val (.int p3)]) (S := []) X0 hx D0.hZ e0 D0.hown (hw _ (List.mem_of_getElem? (i := 4) rfl)) (hw _ (List.mem_of_getElem? (i := 5) rfl)) (hw _ (List.mem_of_getElem? (i := 6) rfl)) (hb hby d1_40) (by decide) (by decide)
        have le_b41 : h0.size ≤ b41 := Nat.le_of_eq g41.symm
        have X41 : Stand p l e ({ frames := 4, cells := 8, slots := 20, locals := 66 } : Room) (s.setVm s.vm) m #[(.int p0), (.int p1), (.int p2), (.int p3)] below meth c T41 [] 1 4 := X41
        have m42 : h0.size ≤ h41.size := E41.1
        have D42 := D0.ext E41
        have F41_coder : Fld Z h41 b41 "java/lang/String" "coder" "B" (.int (0 : Int32)) := D41 (Or.inr (hw _ (List.mem_of_getElem? (i := 31) rfl))) (ty := .byte) (by decide)
        have F41_value : Fld Z h41 b41 "java/lang/String" "value" "[B" .null := D41 (Or.inr (hw _ (List.mem_of_getElem? (i := 33) rfl))) (ty := (.array .byte)) (by decide)
        have K43 : ∀ t, Steps p.tables e below (T41.setTop (mkF m 43 #[.val (.int p0), .val (.int p1), .val (.int p2), .val (.int p3)] [(.ref b41)])) t → Steps p.tables e below B0 t := fun t k => K40 t (st41 t k)
        have K44 : ∀ t, Steps p.tables e below (T41.setTop (mkF m 45 #[.val (.int p0), .val (.int p1), .val (.int p2), .val (.int p3)] [(.int (2 : Int32)), (.ref b41), (.ref b41)])) t → Steps p.tables e below B0 t := fun t k => K43 t (by
          refine Own.dup X41 hx (hb hby d1_43) rfl ?_
          refine Own.iconst X41 hx (2 : Int32) (hb hby d1_44) rfl ?_
          exact k)
        obtain ⟨T45, h45, b45, X45, e45, E45, g45, V45, st45⟩ := Own.newA (Ls := #[.val (.int p0), .val (.int p1), .val (.int p2), .val (.int p3)]) (S := [(.ref b41), (.ref b41)]) (z := (2 : Int32)) X41 hx D42.hZ e41 .char rfl rfl (hw _ (List.mem_of_getElem? (i := 7) rfl)) 2 rfl (by decide) (hb hby d1_45) (by decide) (by decide)
        have le_b45 : h41.size ≤ b45 := Nat.le_of_eq g45.symm
        have X45 : Stand p l e ({ frames := 4, cells := 8, slots := 20, locals := 66 } : Room) (s.setVm s.vm) m #[(.int p0), (.int p1), (.int p2), (.int p3)] below meth c T45 [] 2 6 := X45
        have V45 : Own.CA Z h45 b45 .char [(0 : Int32), (0 : Int32)] := V45
        have m46 : h41.size ≤ h45.size := E45.1
        have D46 := D42.ext E45
        have K47 : ∀ t, Steps p.tables e below (T45.setTop (mkF m 47 #[.val (.int p0), .val (.int p1), .val (.int p2), .val (.int p3)] [(.ref b45), (.ref b41), (.ref b41)])) t → Steps p.tables e below B0 t := fun t k => K44 t (st45 t k)
        have K48 : ∀ t, Steps p.tables e below (T45.setTop (mkF m 50 #[.val (.int p0), .val (.int p1), .val (.int p2), .val (.int p3)] [(.int p1), (.int (0 : Int32)), (.ref b45), (.ref b45), (.ref b41), (.ref b41)])) t → Steps p.tables e below B0 t := fun t k => K47 t (by
          refine Own.dup X45 hx (hb hby d1_47) rfl ?_
          refine Own.iconst X45 hx (0 : Int32) (hb hby d1_48) rfl ?_
          refine Own.iloadN X45 hx (hb hby d1_49) rfl ?_
          exact k)
        obtain ⟨T49, h49, L49, X49, e49, n49, W49, V49, st49⟩ := Own.stc (Ls := #[.val (.int p0), .val (.int p1), .val (.int p2), .val (.int p3)]) (S := [(.ref b45), (.ref b41), (.ref b41)]) (x := p1) (j := (0 : Int32)) X45 hx D46.hZ e45 V45 0 rfl (by decide) (show 0 < 2 by decide) (hb hby d1_50)
        have V49 : Own.CA Z h49 b45 .char [p1, (0 : Int32)] := (by rw [show p1 = nar .char p1 from (own_narb hbp1).symm]; exact V49)
        have N49 : Fr n0 L49 := n49 n0 (Fr.nil _) (Nat.le_trans Z0 (Nat.le_trans m42 le_b45))
        have m50 : h45.size ≤ h49.size := Nat.le_of_eq W49.size.symm
        have D50 := D46.wr W49 (Own.CA.safe D46.hZ.alike V45 (by decide))
        have K51 : ∀ t, Steps p.tables e below (T49.setTop (mkF m 51 #[.val (.int p0), .val (.int p1), .val (.int p2), .val (.int p3)] [(.ref b45), (.ref b41), (.ref b41)])) t → Steps p.tables e below B0 t := fun t k => K48 t (st49 t k)
        have K52 : ∀ t, Steps p.tables e below (T49.setTop (mkF m 54 #[.val (.int p0), .val (.int p1), .val (.int p2), .val (.int p3)] [(.int p2), (.int (1 : Int32)), (.ref b45), (.ref b45), (.ref b41), (.ref b41)])) t → Steps p.tables e below B0 t := fun t k => K51 t (by
          refine Own.dup X49 hx (hb hby d1_51) rfl ?_
          refine Own.iconst X49 hx (1 : Int32) (hb hby d1_52) rfl ?_
          refine Own.iloadN X49 hx (hb hby d1_53) rfl ?_
          exact k)
        obtain ⟨T53, h53, L53, X53, e53, n53, W53, V53, st53⟩ := Own.stc (Ls := #[.val (.int p0), .val (.int p1), .val (.int p2), .val (.int p3)]) (S := [(.ref b45), (.ref b41), (.ref b41)]) (x := p2) (j := (1 : Int32)) X49 hx D50.hZ e49 V49 1 rfl (by decide) (show 1 < 2 by decide) (hb hby d1_54)
        have V53 : Own.CA Z h53 b45 .char [p1, p2] := (by rw [show p2 = nar .char p2 from (own_narb hbp2).symm]; exact V53)
        have N53 : Fr n0 L53 := n53 n0 N49 (Nat.le_trans Z0 (Nat.le_trans m42 le_b45))
        have m54 : h49.size ≤ h53.size := Nat.le_of_eq W53.size.symm
        have D54 := D50.wr W53 (Own.CA.safe D50.hZ.alike V49 (by decide))
        have K55 : ∀ t, Steps p.tables e below (T53.setTop (mkF m 55 #[.val (.int p0), .val (.int p1), .val (.int p2), .val (.int p3)] [(.ref b45), (.ref b41), (.ref b41)])) t → Steps p.tables e below B0 t := fun t k => K52 t (st53 t k)
        have f57 := (((A41.ext E45).wr W49).wr W53)
        have f58 := (((F41_value.ext E45).other W49 (Or.inl (Nat.ne_of_lt (Nat.lt_of_lt_of_le A41.lt le_b45)))).other W53 (Or.inl (Nat.ne_of_lt (Nat.lt_of_lt_of_le A41.lt le_b45))))
        have f59 := (((F41_coder.ext E45).other W49 (Or.inl (Nat.ne_of_lt (Nat.lt_of_lt_of_le A41.lt le_b45)))).other W53 (Or.inl (Nat.ne_of_lt (Nat.lt_of_lt_of_le A41.lt le_b45))))
        have f60 := ((((SC.ext E41).ext E45).wr W49).wr W53)
        have hp : ∀ c ∈ ([p1, p2] : List Int32), ¬ c < 0 ∧ ¬ (255 : Int32) < c := by
          intro c hc; simp only [List.mem_cons, List.not_mem_nil, or_false] at hc
          rcases hc with rfl | rfl
          · exact hbp1
          · exact hbp2
        obtain ⟨T56, h56, J56, L56, X56, e56, n56, NN56, K56, t56, st56⟩ := own_newS (Ls := #[.val (.int p0), .val (.int p1), .val (.int p2), .val (.int p3)]) (cs := [p1, p2]) (n := 2) (n0 := n0) X53 hx D54.hZ e53 hw (hw _ (List.mem_of_getElem? (i := 5) rfl)) D54.hown rfl (Nat.le_trans Z0 (Nat.le_trans (Nat.le_refl _) le_b41)) (Nat.le_trans Z0 (Nat.le_trans (Nat.le_trans (Nat.le_trans m42 m46) m50) m54)) f57 f58 f59 V53 f60 hG1 (by decide) (by decide) hp (hw _ (List.mem_of_getElem? (i := 8) rfl)) (hw _ (List.mem_of_getElem? (i := 9) rfl)) (hw _ (List.mem_of_getElem? (i := 10) rfl)) [(.ref b41)] 1 (by decide) (by decide) (by decide) (by decide) (by rw [hml]; rfl) (lenOf pd_1 rfl) (Nat.le_of_eq rfl) (hb hby d1_55)
        have X56 : Stand p l e ({ frames := 4, cells := 8, slots := 20, locals := 66 } : Room) (s.setVm s.vm) m #[(.int p0), (.int p1), (.int p2), (.int p3)] below meth c T56 L56 3 8 := X56
        have N56 : Fr n0 L56 := n56 n0 N53 NN56
        have m61 : h53.size ≤ h56.size := K56.1
        have D61 := D54.keep K56 (sfS (Own.safe_null D54.hZ.alike f57 f58) sf0)
        have K62 : ∀ t, Steps p.tables e below (T56.setTop (mkF m 58 #[.val (.int p0), .val (.int p1), .val (.int p2), .val (.int p3)] [(.ref b41)])) t → Steps p.tables e below B0 t := fun t k => K55 t (st56 t k)
        have kp := ((((((Keep.refl h0 []).ext E41).ext E45).wr W49 (Or.inr (Nat.le_trans m42 le_b45))).wr W53 (Or.inr (Nat.le_trans m42 le_b45))).trans K56 (allS (Or.inr le_b41) all0))
        have tt : own_Txt Z h56 b41 (own_mk p0 p1 p2 p3) := by unfold own_mk; rw [if_neg hc2, if_neg hc18, if_pos hc39]; exact t56
        exact Own.finHA X56 hx (own_hEL hw) e56 D61 (BodyLoose.notSynchronized Bd) Bd.returns rfl rfl (hb hby d1_58) K62 (by decide) (by decide) (by rw [e56]; exact ⟨_, rfl, N56, kp, tt⟩)
      · have K63 : ∀ t, Steps p.tables e below (s₁.setTop (mkF m 59 #[.val (.int p0), .val (.int p1), .val (.int p2), .val (.int p3)] [])) t → Steps p.tables e below B0 t := fun t k => K38 t (by
          refine Own.icmpYes X0 hx 59 (hb hby d1_37) (feq hc39).2 (by decide) (by decide) ?_
          exact k)
        obtain ⟨T64, h64, b64, X64, e64, E64, g64, A64, D64, st64⟩ := Own.newO (Ls := #[.val (.int p0), .val (.int p1), .val (.int p2), .val (.int p3)]) (S := []) X0 hx D0.hZ e0 D0.hown (hw _ (List.mem_of_getElem? (i := 4) rfl)) (hw _ (List.mem_of_getElem? (i := 5) rfl)) (hw _ (List.mem_of_getElem? (i := 6) rfl)) (hb hby d1_59) (by decide) (by decide)
        have le_b64 : h0.size ≤ b64 := Nat.le_of_eq g64.symm
        have X64 : Stand p l e ({ frames := 4, cells := 8, slots := 20, locals := 66 } : Room) (s.setVm s.vm) m #[(.int p0), (.int p1), (.int p2), (.int p3)] below meth c T64 [] 1 4 := X64
        have m65 : h0.size ≤ h64.size := E64.1
        have D65 := D0.ext E64
        have F64_coder : Fld Z h64 b64 "java/lang/String" "coder" "B" (.int (0 : Int32)) := D64 (Or.inr (hw _ (List.mem_of_getElem? (i := 31) rfl))) (ty := .byte) (by decide)
        have F64_value : Fld Z h64 b64 "java/lang/String" "value" "[B" .null := D64 (Or.inr (hw _ (List.mem_of_getElem? (i := 33) rfl))) (ty := (.array .byte)) (by decide)
        have K66 : ∀ t, Steps p.tables e below (T64.setTop (mkF m 62 #[.val (.int p0), .val (.int p1), .val (.int p2), .val (.int p3)] [(.ref b64)])) t → Steps p.tables e below B0 t := fun t k => K63 t (st64 t k)
        have K67 : ∀ t, Steps p.tables e below (T64.setTop (mkF m 64 #[.val (.int p0), .val (.int p1), .val (.int p2), .val (.int p3)] [(.int (3 : Int32)), (.ref b64), (.ref b64)])) t → Steps p.tables e below B0 t := fun t k => K66 t (by
          refine Own.dup X64 hx (hb hby d1_62) rfl ?_
          refine Own.iconst X64 hx (3 : Int32) (hb hby d1_63) rfl ?_
          exact k)
        obtain ⟨T68, h68, b68, X68, e68, E68, g68, V68, st68⟩ := Own.newA (Ls := #[.val (.int p0), .val (.int p1), .val (.int p2), .val (.int p3)]) (S := [(.ref b64), (.ref b64)]) (z := (3 : Int32)) X64 hx D65.hZ e64 .char rfl rfl (hw _ (List.mem_of_getElem? (i := 7) rfl)) 3 rfl (by decide) (hb hby d1_64) (by decide) (by decide)
        have le_b68 : h64.size ≤ b68 := Nat.le_of_eq g68.symm
        have X68 : Stand p l e ({ frames := 4, cells := 8, slots := 20, locals := 66 } : Room) (s.setVm s.vm) m #[(.int p0), (.int p1), (.int p2), (.int p3)] below meth c T68 [] 2 7 := X68
        have V68 : Own.CA Z h68 b68 .char [(0 : Int32), (0 : Int32), (0 : Int32)] := V68
        have m69 : h64.size ≤ h68.size := E68.1
        have D69 := D65.ext E68
        have K70 : ∀ t, Steps p.tables e below (T68.setTop (mkF m 66 #[.val (.int p0), .val (.int p1), .val (.int p2), .val (.int p3)] [(.ref b68), (.ref b64), (.ref b64)])) t → Steps p.tables e below B0 t := fun t k => K67 t (st68 t k)
        have K71 : ∀ t, Steps p.tables e below (T68.setTop (mkF m 69 #[.val (.int p0), .val (.int p1), .val (.int p2), .val (.int p3)] [(.int p1), (.int (0 : Int32)), (.ref b68), (.ref b68), (.ref b64), (.ref b64)])) t → Steps p.tables e below B0 t := fun t k => K70 t (by
          refine Own.dup X68 hx (hb hby d1_66) rfl ?_
          refine Own.iconst X68 hx (0 : Int32) (hb hby d1_67) rfl ?_
          refine Own.iloadN X68 hx (hb hby d1_68) rfl ?_
          exact k)
        obtain ⟨T72, h72, L72, X72, e72, n72, W72, V72, st72⟩ := Own.stc (Ls := #[.val (.int p0), .val (.int p1), .val (.int p2), .val (.int p3)]) (S := [(.ref b68), (.ref b64), (.ref b64)]) (x := p1) (j := (0 : Int32)) X68 hx D69.hZ e68 V68 0 rfl (by decide) (show 0 < 3 by decide) (hb hby d1_69)
        have V72 : Own.CA Z h72 b68 .char [p1, (0 : Int32), (0 : Int32)] := (by rw [show p1 = nar .char p1 from (own_narb hbp1).symm]; exact V72)
        have N72 : Fr n0 L72 := n72 n0 (Fr.nil _) (Nat.le_trans Z0 (Nat.le_trans m65 le_b68))
        have m73 : h68.size ≤ h72.size := Nat.le_of_eq W72.size.symm
        have D73 := D69.wr W72 (Own.CA.safe D69.hZ.alike V68 (by decide))
        have K74 : ∀ t, Steps p.tables e below (T72.setTop (mkF m 70 #[.val (.int p0), .val (.int p1), .val (.int p2), .val (.int p3)] [(.ref b68), (.ref b64), (.ref b64)])) t → Steps p.tables e below B0 t := fun t k => K71 t (st72 t k)
        have K75 : ∀ t, Steps p.tables e below (T72.setTop (mkF m 73 #[.val (.int p0), .val (.int p1), .val (.int p2), .val (.int p3)] [(.int p2), (.int (1 : Int32)), (.ref b68), (.ref b68), (.ref b64), (.ref b64)])) t → Steps p.tables e below B0 t := fun t k => K74 t (by
          refine Own.dup X72 hx (hb hby d1_70) rfl ?_
          refine Own.iconst X72 hx (1 : Int32) (hb hby d1_71) rfl ?_
          refine Own.iloadN X72 hx (hb hby d1_72) rfl ?_
          exact k)
        obtain ⟨T76, h76, L76, X76, e76, n76, W76, V76, st76⟩ := Own.stc (Ls := #[.val (.int p0), .val (.int p1), .val (.int p2), .val (.int p3)]) (S := [(.ref b68), (.ref b64), (.ref b64)]) (x := p2) (j := (1 : Int32)) X72 hx D73.hZ e72 V72 1 rfl (by decide) (show 1 < 3 by decide) (hb hby d1_73)
        have V76 : Own.CA Z h76 b68 .char [p1, p2, (0 : Int32)] := (by rw [show p2 = nar .char p2 from (own_narb hbp2).symm]; exact V76)
        have N76 : Fr n0 L76 := n76 n0 N72 (Nat.le_trans Z0 (Nat.le_trans m65 le_b68))
        have m77 : h72.size ≤ h76.size := Nat.le_of_eq W76.size.symm
        have D77 := D73.wr W76 (Own.CA.safe D73.hZ.alike V72 (by decide))
        have K78 : ∀ t, Steps p.tables e below (T76.setTop (mkF m 74 #[.val (.int p0), .val (.int p1), .val (.int p2), .val (.int p3)] [(.ref b68), (.ref b64), (.ref b64)])) t → Steps p.tables e below B0 t := fun t k => K75 t (st76 t k)
        have K79 : ∀ t, Steps p.tables e below (T76.setTop (mkF m 77 #[.val (.int p0), .val (.int p1), .val (.int p2), .val (.int p3)] [(.int p3), (.int (2 : Int32)), (.ref b68), (.ref b68), (.ref b64), (.ref b64)])) t → Steps p.tables e below B0 t := fun t k => K78 t (by
          refine Own.dup X76 hx (hb hby d1_74) rfl ?_
          refine Own.iconst X76 hx (2 : Int32) (hb hby d1_75) rfl ?_
          refine Own.iloadN X76 hx (hb hby d1_76) rfl ?_
          exact k)
        obtain ⟨T80, h80, L80, X80, e80, n80, W80, V80, st80⟩ := Own.stc (Ls := #[.val (.int p0), .val (.int p1), .val (.int p2), .val (.int p3)]) (S := [(.ref b68), (.ref b64), (.ref b64)]) (x := p3) (j := (2 : Int32)) X76 hx D77.hZ e76 V76 2 rfl (by decide) (show 2 < 3 by decide) (hb hby d1_77)
        have V80 : Own.CA Z h80 b68 .char [p1, p2, p3] := (by rw [show p3 = nar .char p3 from (own_narb hbp3).symm]; exact V80)
        have N80 : Fr n0 L80 := n80 n0 N76 (Nat.le_trans Z0 (Nat.le_trans m65 le_b68))
        have m81 : h76.size ≤ h80.size := Nat.le_of_eq W80.size.symm
        have D81 := D77.wr W80 (Own.CA.safe D77.hZ.alike V76 (by decide))
        have K82 : ∀ t, Steps p.tables e below (T80.setTop (mkF m 78 #[.val (.int p0), .val (.int p1), .val (.int p2), .val (.int p3)] [(.ref b68), (.ref b64), (.ref b64)])) t → Steps p.tables e below B0 t := fun t k => K79 t (st80 t k)
        have f84 := ((((A64.ext E68).wr W72).wr W76).wr W80)
        have f85 := ((((F64_value.ext E68).other W72 (Or.inl (Nat.ne_of_lt (Nat.lt_of_lt_of_le A64.lt le_b68)))).other W76 (Or.inl (Nat.ne_of_lt (Nat.lt_of_lt_of_le A64.lt le_b68)))).other W80 (Or.inl (Nat.ne_of_lt (Nat.lt_of_lt_of_le A64.lt le_b68))))
        have f86 := ((((F64_coder.ext E68).other W72 (Or.inl (Nat.ne_of_lt (Nat.lt_of_lt_of_le A64.lt le_b68)))).other W76 (Or.inl (Nat.ne_of_lt (Nat.lt_of_lt_of_le A64.lt le_b68)))).other W80 (Or.inl (Nat.ne_of_lt (Nat.lt_of_lt_of_le A64.lt le_b68))))
        have f87 := (((((SC.ext E64).ext E68).wr W72).wr W76).wr W80)
        have hp : ∀ c ∈ ([p1, p2, p3] : List Int32), ¬ c < 0 ∧ ¬ (255 : Int32) < c := by
          intro c hc; simp only [List.mem_cons, List.not_mem_nil, or_false] at hc
          rcases hc with rfl | rfl | rfl
          · exact hbp1
          · exact hbp2
          · exact hbp3
        obtain ⟨T83, h83, J83, L83, X83, e83, n83, NN83, K83, t83, st83⟩ := own_newS (Ls := #[.val (.int p0), .val (.int p1), .val (.int p2), .val (.int p3)]) (cs := [p1, p2, p3]) (n := 3) (n0 := n0) X80 hx D81.hZ e80 hw (hw _ (List.mem_of_getElem? (i := 5) rfl)) D81.hown rfl (Nat.le_trans Z0 (Nat.le_trans (Nat.le_refl _) le_b64)) (Nat.le_trans Z0 (Nat.le_trans (Nat.le_trans (Nat.le_trans (Nat.le_trans m65 m69) m73) m77) m81)) f84 f85 f86 V80 f87 hG1 (by decide) (by decide) hp (hw _ (List.mem_of_getElem? (i := 8) rfl)) (hw _ (List.mem_of_getElem? (i := 9) rfl)) (hw _ (List.mem_of_getElem? (i := 10) rfl)) [(.ref b64)] 1 (by decide) (by decide) (by decide) (by decide) (by rw [hml]; rfl) (lenOf pd_1 rfl) (Nat.le_of_eq rfl) (hb hby d1_78)
        have X83 : Stand p l e ({ frames := 4, cells := 8, slots := 20, locals := 66 } : Room) (s.setVm s.vm) m #[(.int p0), (.int p1), (.int p2), (.int p3)] below meth c T83 L83 3 10 := X83
        have N83 : Fr n0 L83 := n83 n0 N80 NN83
        have m88 : h80.size ≤ h83.size := K83.1
        have D88 := D81.keep K83 (sfS (Own.safe_null D81.hZ.alike f84 f85) sf0)
        have K89 : ∀ t, Steps p.tables e below (T83.setTop (mkF m 81 #[.val (.int p0), .val (.int p1), .val (.int p2), .val (.int p3)] [(.ref b64)])) t → Steps p.tables e below B0 t := fun t k => K82 t (st83 t k)
        have kp := (((((((Keep.refl h0 []).ext E64).ext E68).wr W72 (Or.inr (Nat.le_trans m65 le_b68))).wr W76 (Or.inr (Nat.le_trans m65 le_b68))).wr W80 (Or.inr (Nat.le_trans m65 le_b68))).trans K83 (allS (Or.inr le_b64) all0))
        have tt : own_Txt Z h83 b64 (own_mk p0 p1 p2 p3) := by unfold own_mk; rw [if_neg hc2, if_neg hc18, if_neg hc39]; exact t83
        exact Own.finHA X83 hx (own_hEL hw) e83 D88 (BodyLoose.notSynchronized Bd) Bd.returns rfl rfl (hb hby d1_81) K89 (by decide) (by decide) (by rw [e83]; exact ⟨_, rfl, N83, kp, tt⟩)

theorem d9_0 : decode jdk_30_method_1_code 0 = .ok (.aload_n 0, 1) := by decide +kernel
theorem d9_1 : decode jdk_30_method_1_code 1 = .ok (.invokespecial 1, 3) := by decide +kernel
theorem d9_4 : decode jdk_30_method_1_code 4 = .ok (.return_, 1) := by decide +kernel
theorem pn_2 : plainName "java/lang/Record" = true := by first | (simp [plainName, overriddenIn]; done) | decide +kernel
theorem ef_9 (m : MethodId) (o0 : Addr) : entryFrame m #[(.ref o0)] 1 = mkF m 0 #[.val (.ref o0)] [] := by first | (simp [entryFrame, mkF, argsToLocals, Value.category]; done) | rfl
set_option maxRecDepth 65536 in
set_option maxHeartbeats 40000000 in
theorem c9 (l : Launch) (Z : State) (a0 : Array Value) (hw : ∀ d ∈ tables_1, d.before a0 Z = true) (o0 : Addr) (h0 : Heap) : Own.Con l Z (⟨"java/lang/Record", "<init>", "()V"⟩ : MethodName) jdk_30_method_1_code 1 none ({ frames := 1, cells := 0, slots := 0, locals := 12 } : Room) #[(.ref o0)] h0 (fun v h L => v = none ∧ L = [] ∧ h = h0) := by
  intro ws
  refine MetFree.of_bodySF (plainFor_of_name pn_2) hisR ?_
  intro p e s m args below meth c s₁ Bd hml0 hP hK
  obtain ⟨rfl, hZ, hh⟩ := hP
  have hx := Bd.exec
  have hby := Bd.bytes
  have hml : c.maxLocals = 1 := hml0
  have hown : s.vm.findClass "java/lang/Record" = some m.cls := findClass_of_methodNamed Bd.named
  have hnm := (name_of_methodNamed Bd.named Bd.method).1
  have X0 : Stand p l e ({ frames := 1, cells := 0, slots := 0, locals := 12 } : Room) s m #[(.ref o0)] below meth c s₁ [] 0 0 := Stand.of_body Bd
  have e0 : s₁.heap = h0 := by rw [← hh, Bd.state]; rfl
  have K0 : ∀ t, Steps p.tables e below (s₁.setTop (mkF m 0 #[.val (.ref o0)] [])) t → Steps p.tables e below (s₁.setTop (entryFrame m #[(.ref o0)] 1)) t := fun t k => castTop (ef_9 m o0) k
  generalize s₁.setTop (entryFrame m #[(.ref o0)] 1) = B0 at K0 ⊢
  show Own.Fin p e below B0 s (({ frames := 1, cells := 0, slots := 0, locals := 12 } : Room)).cells (({ frames := 1, cells := 0, slots := 0, locals := 12 } : Room)).slots (fun v h L => v = none ∧ L = [] ∧ h = h0)
  have K1 : ∀ t, Steps p.tables e below (s₁.setTop (mkF m 1 #[.val (.ref o0)] [(.ref o0)])) t → Steps p.tables e below B0 t := fun t k => K0 t (by
    refine Own.aloadN X0 hx (hb hby d9_0) rfl rfl ?_
    exact k)
  obtain ⟨T2, X2, e2, st2⟩ := Own.initO (Ls := #[.val (.ref o0)]) (S := []) (a := o0) X0 hx hZ e0 hown (hw _ (List.mem_of_getElem? (i := 48) rfl)) (hw _ (List.mem_of_getElem? (i := 16) rfl)) (hw _ (List.mem_of_getElem? (i := 17) rfl)) (by rw [hml]; rfl) (hb hby d9_1) (by decide) 0 (Nat.le_of_eq rfl) (by decide)
  have K3 : ∀ t, Steps p.tables e below (T2.setTop (mkF m 4 #[.val (.ref o0)] [])) t → Steps p.tables e below B0 t := fun t k => K1 t (st2 t k)
  exact Own.finV X2 hx (BodyLoose.notSynchronized Bd) Bd.returns (hb hby d9_4) K3 (by decide) (by decide) ⟨rfl, rfl, e2⟩

theorem d8_0 : decode prog_110_method_1_code 0 = .ok (.aload_n 0, 1) := by decide +kernel
theorem d8_1 : decode prog_110_method_1_code 1 = .ok (.invokespecial 1, 3) := by decide +kernel
theorem d8_4 : decode prog_110_method_1_code 4 = .ok (.aload_n 0, 1) := by decide +kernel
theorem d8_5 : decode prog_110_method_1_code 5 = .ok (.aload_n 1, 1) := by decide +kernel
theorem d8_6 : decode prog_110_method_1_code 6 = .ok (.putfield 7, 3) := by decide +kernel
theorem d8_9 : decode prog_110_method_1_code 9 = .ok (.aload_n 0, 1) := by decide +kernel
theorem d8_10 : decode prog_110_method_1_code 10 = .ok (.lload_n 2, 1) := by decide +kernel
theorem d8_11 : decode prog_110_method_1_code 11 = .ok (.putfield 13, 3) := by decide +kernel
theorem d8_14 : decode prog_110_method_1_code 14 = .ok (.return_, 1) := by decide +kernel
theorem pn_3 : plainName "com/example/cyclewarden/cyclewarden/site/TransactionId" = true := by first | (simp [plainName, overriddenIn]; done) | decide +kernel
theorem pd_2 : parseMethodDescriptor "()V" = some ⟨[], none⟩ := by decide +kernel
theorem ef_8 (m : MethodId) (o0 : Addr) (o1 : Addr) (q2 : Int64) : entryFrame m #[(.ref o0), (.ref o1), (.long q2)] 4 = mkF m 0 #[.val (.ref o0), .val (.ref o1), .val (.long q2), .second] [] := by first | (simp [entryFrame, mkF, argsToLocals, Value.category]; done) | rfl
set_option maxRecDepth 65536 in
set_option maxHeartbeats 40000000 in
theorem c8 (l : Launch) (Z : State) (a0 : Array Value) (hw : ∀ d ∈ tables_1, d.before a0 Z = true) (o0 : Addr) (o1 : Addr) (q2 : Int64) (n0 : Nat) (u0 : Value) (u1 : Value) (h0 : Heap) (Z0 : n0 ≤ h0.size) (E0 : Exa Z h0 o0 "com/example/cyclewarden/cyclewarden/site/TransactionId") (F0 : Fld Z h0 o0 "com/example/cyclewarden/cyclewarden/site/TransactionId" "home" "Ljava/lang/String;" u0) (F1 : Fld Z h0 o0 "com/example/cyclewarden/cyclewarden/site/TransactionId" "start" "J" u1) (g0 : n0 ≤ o0) : Own.Con l Z (⟨"com/example/cyclewarden/cyclewarden/site/TransactionId", "<init>", "(Ljava/lang/String;J)V"⟩ : MethodName) prog_110_method_1_code 4 none ({ frames := 2, cells := 0, slots := 0, locals := 24 } : Room) #[(.ref o0), (.ref o1), (.long q2)] h0 (fun v h L => v = none ∧ Fr n0 L ∧ Keep h0 h [o0] ∧ Exa Z h o0 "com/example/cyclewarden/cyclewarden/site/TransactionId" ∧ Fld Z h o0 "com/example/cyclewarden/cyclewarden/site/TransactionId" "home" "Ljava/lang/String;" (.ref o1) ∧ Fld Z h o0 "com/example/cyclewarden/cyclewarden/site/TransactionId" "start" "J" (.long q2)) := by
  intro ws
  refine MetFree.of_bodySF (plainFor_of_name pn_3) hisR ?_
  intro p e s m args below meth c s₁ Bd hml0 hP hK
  obtain ⟨rfl, hZ, hh⟩ := hP
  have hx := Bd.exec
  have hby := Bd.bytes
  have hml : c.maxLocals = 4 := hml0
  have hown : s.vm.findClass "com/example/cyclewarden/cyclewarden/site/TransactionId" = some m.cls := findClass_of_methodNamed Bd.named
  have hnm := (name_of_methodNamed Bd.named Bd.method).1
  have X0 : Stand p l e ({ frames := 2, cells := 0, slots := 0, locals := 24 } : Room) s m #[(.ref o0), (.ref o1), (.long q2)] below meth c s₁ [] 0 0 := Stand.of_body Bd
  have e0 : s₁.heap = h0 := by rw [← hh, Bd.state]; rfl
  have K0 : ∀ t, Steps p.tables e below (s₁.setTop (mkF m 0 #[.val (.ref o0), .val (.ref o1), .val (.long q2), .second] [])) t → Steps p.tables e below (s₁.setTop (entryFrame m #[(.ref o0), (.ref o1), (.long q2)] 4)) t := fun t k => castTop (ef_8 m o0 o1 q2) k
  generalize s₁.setTop (entryFrame m #[(.ref o0), (.ref o1), (.long q2)] 4) = B0 at K0 ⊢
  show Own.Fin p e below B0 s (({ frames := 2, cells := 0, slots := 0, locals := 24 } : Room)).cells (({ frames := 2, cells := 0, slots := 0, locals := 24 } : Room)).slots (fun v h L => v = none ∧ Fr n0 L ∧ Keep h0 h [o0] ∧ Exa Z h o0 "com/example/cyclewarden/cyclewarden/site/TransactionId" ∧ Fld Z h o0 "com/example/cyclewarden/cyclewarden/site/TransactionId" "home" "Ljava/lang/String;" (.ref o1) ∧ Fld Z h o0 "com/example/cyclewarden/cyclewarden/site/TransactionId" "start" "J" (.long q2))
  have K1 : ∀ t, Steps p.tables e below (s₁.setTop (mkF m 1 #[.val (.ref o0), .val (.ref o1), .val (.long q2), .second] [(.ref o0)])) t → Steps p.tables e below B0 t := fun t k => K0 t (by
    refine Own.aloadN X0 hx (hb hby d8_0) rfl rfl ?_
    exact k)
  obtain ⟨T2, X2, e2, st2⟩ := Own.callIP (Ls := #[.val (.ref o0), .val (.ref o1), .val (.long q2), .second]) X0 hx hZ e0 rfl o0 [] [] (c9 l Z a0 hw o0 h0) hown (hw _ (List.mem_of_getElem? (i := 43) rfl)) (hw _ (List.mem_of_getElem? (i := 44) rfl)) (hw _ (List.mem_of_getElem? (i := 46) rfl)) (hw _ (List.mem_of_getElem? (i := 47) rfl)) (by decide) 0 rfl rfl (by decide) (by decide) (by decide) (by decide) (by rw [hml]; rfl) (lenOf pd_2 rfl) rfl (Nat.le_of_eq rfl) (hb hby d8_1)
  have K3 : ∀ t, Steps p.tables e below (T2.setTop (mkF m 4 #[.val (.ref o0), .val (.ref o1), .val (.long q2), .second] [])) t → Steps p.tables e below B0 t := fun t k => K1 t (st2 t k)
  have K4 : ∀ t, Steps p.tables e below (T2.setTop (mkF m 6 #[.val (.ref o0), .val (.ref o1), .val (.long q2), .second] [(.ref o1), (.ref o0)])) t → Steps p.tables e below B0 t := fun t k => K3 t (by
    refine Own.aloadN X2 hx (hb hby d8_4) rfl rfl ?_
    refine Own.aloadN X2 hx (hb hby d8_5) rfl rfl ?_
    exact k)
  obtain ⟨T5, h5, L5, X5, e5, n5, W5, F5, st5⟩ := Own.putF (Ls := #[.val (.ref o0), .val (.ref o1), .val (.long q2), .second]) (S := []) (v := (.ref o1)) X2 hx hZ e2 hown (host := "") (Or.inl (hw _ (List.mem_of_getElem? (i := 49) rfl))) Via.refl F0 E0 (Or.inr ⟨(hw _ (List.mem_of_getElem? (i := 50) rfl)), rfl, hnm⟩) (hw _ (List.mem_of_getElem? (i := 38) rfl)) (ty := (.object "java/lang/String")) (by decide) rfl rfl (hb hby d8_6)
  have N5 : Fr n0 L5 := n5 n0 (Fr.nil _) g0
  have m6 : h0.size ≤ h5.size := Nat.le_of_eq W5.size.symm
  have K7 : ∀ t, Steps p.tables e below (T5.setTop (mkF m 9 #[.val (.ref o0), .val (.ref o1), .val (.long q2), .second] [])) t → Steps p.tables e below B0 t := fun t k => K4 t (st5 t k)
  have K8 : ∀ t, Steps p.tables e below (T5.setTop (mkF m 11 #[.val (.ref o0), .val (.ref o1), .val (.long q2), .second] [(.long q2), (.ref o0)])) t → Steps p.tables e below B0 t := fun t k => K7 t (by
    refine Own.aloadN X5 hx (hb hby d8_9) rfl rfl ?_
    refine Own.lloadN X5 hx (hb hby d8_10) rfl ?_
    exact k)
  have f9 := (F1.other W5 (Or.inr (slot_ne (Or.inr (hw _ (List.mem_of_getElem? (i := 52) rfl))) (Or.inr (hw _ (List.mem_of_getElem? (i := 50) rfl))) (by decide) (t := .long) (t' := (.object "java/lang/String")) (by decide) (by decide))))
  have f10 := (E0.wr W5)
  obtain ⟨T11, h11, L11, X11, e11, n11, W11, F11, st11⟩ := Own.putF (Ls := #[.val (.ref o0), .val (.ref o1), .val (.long q2), .second]) (S := []) (v := (.long q2)) X5 hx hZ e5 hown (host := "") (Or.inl (hw _ (List.mem_of_getElem? (i := 51) rfl))) Via.refl f9 f10 (Or.inr ⟨(hw _ (List.mem_of_getElem? (i := 52) rfl)), rfl, hnm⟩) (hw _ (List.mem_of_getElem? (i := 38) rfl)) (ty := .long) (by decide) rfl rfl (hb hby d8_11)
  have N11 : Fr n0 L11 := n11 n0 N5 g0
  have m12 : h5.size ≤ h11.size := Nat.le_of_eq W11.size.symm
  have K13 : ∀ t, Steps p.tables e below (T11.setTop (mkF m 14 #[.val (.ref o0), .val (.ref o1), .val (.long q2), .second] [])) t → Steps p.tables e below B0 t := fun t k => K8 t (st11 t k)
  have f14 := (f10.wr W11)
  have f15 := (F5.other W11 (Or.inr (slot_ne (Or.inr (hw _ (List.mem_of_getElem? (i := 50) rfl))) (Or.inr (hw _ (List.mem_of_getElem? (i := 52) rfl))) (by decide) (t := (.object "java/lang/String")) (t' := .long) (by decide) (by decide))))
  have kp := (((Keep.refl h0 [o0]).wr W5 (Or.inl (List.mem_of_getElem? (i := 0) rfl))).wr W11 (Or.inl (List.mem_of_getElem? (i := 0) rfl)))
  exact Own.finV X11 hx (BodyLoose.notSynchronized Bd) Bd.returns (hb hby d8_14) K13 (by decide) (by decide) (by rw [e11]; exact ⟨rfl, N11, kp, f14, f15, F11⟩)

theorem d10_0 : decode prog_110_method_4_code 0 = .ok (.aload_n 1, 1) := by decide +kernel
theorem d10_1 : decode prog_110_method_4_code 1 = .ok (.instanceof 8, 3) := by decide +kernel
theorem d10_4 : decode prog_110_method_4_code 4 = .ok (.ifCond .eq 38, 3) := by decide +kernel
theorem d10_7 : decode prog_110_method_4_code 7 = .ok (.aload_n 1, 1) := by decide +kernel
theorem d10_8 : decode prog_110_method_4_code 8 = .ok (.checkcast 8, 3) := by decide +kernel
theorem d10_11 : decode prog_110_method_4_code 11 = .ok (.astore_n 2, 1) := by decide +kernel
theorem d10_12 : decode prog_110_method_4_code 12 = .ok (.aload_n 0, 1) := by decide +kernel
theorem d10_13 : decode prog_110_method_4_code 13 = .ok (.getfield 13, 3) := by decide +kernel
theorem d10_16 : decode prog_110_method_4_code 16 = .ok (.aload_n 2, 1) := by decide +kernel
theorem d10_17 : decode prog_110_method_4_code 17 = .ok (.getfield 13, 3) := by decide +kernel
theorem d10_20 : decode prog_110_method_4_code 20 = .ok (.lcmp, 1) := by decide +kernel
theorem d10_21 : decode prog_110_method_4_code 21 = .ok (.ifCond .ne 21, 3) := by decide +kernel
theorem d10_24 : decode prog_110_method_4_code 24 = .ok (.aload_n 0, 1) := by decide +kernel
theorem d10_25 : decode prog_110_method_4_code 25 = .ok (.getfield 7, 3) := by decide +kernel
theorem d10_28 : decode prog_110_method_4_code 28 = .ok (.aload_n 2, 1) := by decide +kernel
theorem d10_29 : decode prog_110_method_4_code 29 = .ok (.getfield 7, 3) := by decide +kernel
theorem d10_32 : decode prog_110_method_4_code 32 = .ok (.invokevirtual 39, 3) := by decide +kernel
theorem d10_35 : decode prog_110_method_4_code 35 = .ok (.ifCond .eq 7, 3) := by decide +kernel
theorem d10_38 : decode prog_110_method_4_code 38 = .ok (.iconst 1, 1) := by decide +kernel
theorem d10_39 : decode prog_110_method_4_code 39 = .ok (.goto 4, 3) := by decide +kernel
theorem d10_42 : decode prog_110_method_4_code 42 = .ok (.iconst 0, 1) := by decide +kernel
theorem d10_43 : decode prog_110_method_4_code 43 = .ok (.ireturn, 1) := by decide +kernel
theorem pd_3 : parseMethodDescriptor "(Ljava/lang/Object;)Z" = some ⟨[(.object "java/lang/Object")], some .boolean⟩ := by decide +kernel
theorem ef_10 (m : MethodId) (o0 : Addr) (o1 : Addr) : entryFrame m #[(.ref o0), (.ref o1)] 3 = mkF m 0 #[.val (.ref o0), .val (.ref o1), .unset] [] := by first | (simp [entryFrame, mkF, argsToLocals, Value.category]; done) | rfl
def F10 (s0 : Int64) (s1 : Int64) (t0 : List Int32) (t1 : List Int32) : Int32 := (nar .boolean (if s0 = s1 then (if (if t0 = t1 then (1 : Int32) else 0) = (0 : Int32) then (0 : Int32) else (1 : Int32)) else (0 : Int32)))
set_option maxRecDepth 65536 in
set_option maxHeartbeats 40000000 in
theorem c10 (l : Launch) (Z : State) (a0 : Array Value) (hw : ∀ d ∈ tables_1, d.before a0 Z = true) (o0 : Addr) (o1 : Addr) (r0 : Addr) (r1 : Addr) (s0 : Int64) (s1 : Int64) (t0 : List Int32) (t1 : List Int32) (G1 : Int32) (h0 : Heap) (SC : Sta Z h0 "java/lang/String" "COMPACT_STRINGS" "Z" (.int G1)) (hG1 : ¬ G1 = 0) (E0 : Exa Z h0 o0 "com/example/cyclewarden/cyclewarden/site/TransactionId") (H0 : Fld Z h0 o0 "com/example/cyclewarden/cyclewarden/site/TransactionId" "home" "Ljava/lang/String;" (.ref r0)) (SB0 : Fld Z h0 o0 "com/example/cyclewarden/cyclewarden/site/TransactionId" "start" "J" (.long s0)) (TX0 : own_Txt Z h0 r0 t0) (E1 : Exa Z h0 o1 "com/example/cyclewarden/cyclewarden/site/TransactionId") (H1 : Fld Z h0 o1 "com/example/cyclewarden/cyclewarden/site/TransactionId" "home" "Ljava/lang/String;" (.ref r1)) (SB1 : Fld Z h0 o1 "com/example/cyclewarden/cyclewarden/site/TransactionId" "start" "J" (.long s1)) (TX1 : own_Txt Z h0 r1 t1) : Own.Con l Z (⟨"com/example/cyclewarden/cyclewarden/site/TransactionId", "equals", "(Ljava/lang/Object;)Z"⟩ : MethodName) prog_110_method_4_code 3 (some .boolean) ({ frames := 2, cells := 0, slots := 0, locals := 28 } : Room) #[(.ref o0), (.ref o1)] h0 (Own.Pure (.int (F10 s0 s1 t0 t1)) h0) := by
  intro ws
  refine MetFree.of_bodySF (plainFor_of_name pn_3) hisR ?_
  intro p e s m args below meth c s₁ Bd hml0 hP hK
  obtain ⟨rfl, hZ, hh⟩ := hP
  have hx := Bd.exec
  have hby := Bd.bytes
  have hml : c.maxLocals = 3 := hml0
  have hown : s.vm.findClass "com/example/cyclewarden/cyclewarden/site/TransactionId" = some m.cls := findClass_of_methodNamed Bd.named
  have hnm := (name_of_methodNamed Bd.named Bd.method).1
  have X0 : Stand p l e ({ frames := 2, cells := 0, slots := 0, locals := 28 } : Room) s m #[(.ref o0), (.ref o1)] below meth c s₁ [] 0 0 := Stand.of_body Bd
  have e0 : s₁.heap = h0 := by rw [← hh, Bd.state]; rfl
  have K0 : ∀ t, Steps p.tables e below (s₁.setTop (mkF m 0 #[.val (.ref o0), .val (.ref o1), .unset] [])) t → Steps p.tables e below (s₁.setTop (entryFrame m #[(.ref o0), (.ref o1)] 3)) t := fun t k => castTop (ef_10 m o0 o1) k
  generalize s₁.setTop (entryFrame m #[(.ref o0), (.ref o1)] 3) = B0 at K0 ⊢
  show Own.Fin p e below B0 s (({ frames := 2, cells := 0, slots := 0, locals := 28 } : Room)).cells (({ frames := 2, cells := 0, slots := 0, locals := 28 } : Room)).slots (Own.Pure (.int (F10 s0 s1 t0 t1)) h0)
  have K1 : ∀ t, Steps p.tables e below (s₁.setTop (mkF m 1 #[.val (.ref o0), .val (.ref o1), .unset] [(.ref o1)])) t → Steps p.tables e below B0 t := fun t k => K0 t (by
    refine Own.aloadN X0 hx (hb hby d10_0) rfl rfl ?_
    exact k)
  obtain ⟨T2, X2, e2, st2⟩ := Own.instY (Ls := #[.val (.ref o0), .val (.ref o1), .unset]) (S := []) X0 hx hZ e0 hown (hw _ (List.mem_of_getElem? (i := 58) rfl)) (Ins.self E1) (hb hby d10_1)
  have K3 : ∀ t, Steps p.tables e below (T2.setTop (mkF m 4 #[.val (.ref o0), .val (.ref o1), .unset] [(.int (1 : Int32))])) t → Steps p.tables e below B0 t := fun t k => K1 t (st2 t k)
  have K4 : ∀ t, Steps p.tables e below (T2.setTop (mkF m 8 #[.val (.ref o0), .val (.ref o1), .unset] [(.ref o1)])) t → Steps p.tables e below B0 t := fun t k => K3 t (by
    refine Own.ifNo X2 hx (hb hby d10_4) ((if0 _ _).trans (feq (by decide : ¬ ((1 : Int32) = (0 : Int32)))).1) ?_
    refine Own.aloadN X2 hx (hb hby d10_7) rfl rfl ?_
    exact k)
  obtain ⟨T5, X5, e5, st5⟩ := Own.castY (Ls := #[.val (.ref o0), .val (.ref o1), .unset]) (S := []) X2 hx hZ e2 hown (hw _ (List.mem_of_getElem? (i := 58) rfl)) (Ins.self E1) (hb hby d10_8)
  have K6 : ∀ t, Steps p.tables e below (T5.setTop (mkF m 11 #[.val (.ref o0), .val (.ref o1), .unset] [(.ref o1)])) t → Steps p.tables e below B0 t := fun t k => K4 t (st5 t k)
  have K7 : ∀ t, Steps p.tables e below (T5.setTop (mkF m 13 #[.val (.ref o0), .val (.ref o1), .val (.ref o1)] [(.ref o0)])) t → Steps p.tables e below B0 t := fun t k => K6 t (by
    refine Own.astoreN X5 hx #[.val (.ref o0), .val (.ref o1), .val (.ref o1)] (hb hby d10_11) rfl rfl ?_
    refine Own.aloadN X5 hx (hb hby d10_12) rfl rfl ?_
    exact k)
  obtain ⟨T8, X8, e8, st8⟩ := Own.getF (Ls := #[.val (.ref o0), .val (.ref o1), .val (.ref o1)]) X5 hx hZ e5 hown (host := "") (Or.inl (hw _ (List.mem_of_getElem? (i := 51) rfl))) Via.refl SB0 (S := []) (hb hby d10_13)
  have K9 : ∀ t, Steps p.tables e below (T8.setTop (mkF m 16 #[.val (.ref o0), .val (.ref o1), .val (.ref o1)] [(.long s0)])) t → Steps p.tables e below B0 t := fun t k => K7 t (st8 t k)
  have K10 : ∀ t, Steps p.tables e below (T8.setTop (mkF m 17 #[.val (.ref o0), .val (.ref o1), .val (.ref o1)] [(.ref o1), (.long s0)])) t → Steps p.tables e below B0 t := fun t k => K9 t (by
    refine Own.aloadN X8 hx (hb hby d10_16) rfl rfl ?_
    exact k)
  obtain ⟨T11, X11, e11, st11⟩ := Own.getF (Ls := #[.val (.ref o0), .val (.ref o1), .val (.ref o1)]) X8 hx hZ e8 hown (host := "") (Or.inl (hw _ (List.mem_of_getElem? (i := 51) rfl))) Via.refl SB1 (S := [(.long s0)]) (hb hby d10_17)
  have K12 : ∀ t, Steps p.tables e below (T11.setTop (mkF m 20 #[.val (.ref o0), .val (.ref o1), .val (.ref o1)] [(.long s1), (.long s0)])) t → Steps p.tables e below B0 t := fun t k => K10 t (st11 t k)
  have K13 : ∀ t, Steps p.tables e below (T11.setTop (mkF m 21 #[.val (.ref o0), .val (.ref o1), .val (.ref o1)] [(.int (lcmpW s0 s1))])) t → Steps p.tables e below B0 t := fun t k => K12 t (by
    refine Own.lcmp X11 hx (hb hby d10_20) ?_
    exact k)
  obtain ⟨x29, hx29⟩ : ∃ z : Int32, z = (if s0 = s1 then (if (if t0 = t1 then (1 : Int32) else 0) = (0 : Int32) then (0 : Int32) else (1 : Int32)) else (0 : Int32)) := ⟨_, rfl⟩
  obtain ⟨T30, X30, e30, K30⟩ : ∃ T' : State, Stand p l e ({ frames := 2, cells := 0, slots := 0, locals := 28 } : Room) s m #[(.ref o0), (.ref o1)] below meth c T' [] 0 0 ∧ T'.heap = h0 ∧ ∀ t, Steps p.tables e below (T'.setTop (mkF m 43 #[.val (.ref o0), .val (.ref o1), .val (.ref o1)] [(.int x29)])) t → Steps p.tables e below B0 t := by
    by_cases hc14 : s0 = s1
    · have K15 : ∀ t, Steps p.tables e below (T11.setTop (mkF m 25 #[.val (.ref o0), .val (.ref o1), .val (.ref o1)] [(.ref o0)])) t → Steps p.tables e below B0 t := fun t k => K13 t (by
        refine Own.ifNo X11 hx (hb hby d10_21) (Jvm.Free.XT.ll_ne_f hc14) ?_
        refine Own.aloadN X11 hx (hb hby d10_24) rfl rfl ?_
        exact k)
      obtain ⟨T16, X16, e16, st16⟩ := Own.getF (Ls := #[.val (.ref o0), .val (.ref o1), .val (.ref o1)]) X11 hx hZ e11 hown (host := "") (Or.inl (hw _ (List.mem_of_getElem? (i := 49) rfl))) Via.refl H0 (S := []) (hb hby d10_25)
      have K17 : ∀ t, Steps p.tables e below (T16.setTop (mkF m 28 #[.val (.ref o0), .val (.ref o1), .val (.ref o1)] [(.ref r0)])) t → Steps p.tables e below B0 t := fun t k => K15 t (st16 t k)
      have K18 : ∀ t, Steps p.tables e below (T16.setTop (mkF m 29 #[.val (.ref o0), .val (.ref o1), .val (.ref o1)] [(.ref o1), (.ref r0)])) t → Steps p.tables e below B0 t := fun t k => K17 t (by
        refine Own.aloadN X16 hx (hb hby d10_28) rfl rfl ?_
        exact k)
      obtain ⟨T19, X19, e19, st19⟩ := Own.getF (Ls := #[.val (.ref o0), .val (.ref o1), .val (.ref o1)]) X16 hx hZ e16 hown (host := "") (Or.inl (hw _ (List.mem_of_getElem? (i := 49) rfl))) Via.refl H1 (S := [(.ref r0)]) (hb hby d10_29)
      have K20 : ∀ t, Steps p.tables e below (T19.setTop (mkF m 32 #[.val (.ref o0), .val (.ref o1), .val (.ref o1)] [(.ref r1), (.ref r0)])) t → Steps p.tables e below B0 t := fun t k => K18 t (st19 t k)
      obtain ⟨T21, X21, e21, st21⟩ := own_eqW (Ls := #[.val (.ref o0), .val (.ref o1), .val (.ref o1)]) X19 hx hZ e19 hw (hw _ (List.mem_of_getElem? (i := 5) rfl)) hown TX0 TX1 SC hG1  (hw _ (List.mem_of_getElem? (i := 60) rfl)) (hw _ (List.mem_of_getElem? (i := 61) rfl)) (hw _ (List.mem_of_getElem? (i := 63) rfl)) (hw _ (List.mem_of_getElem? (i := 62) rfl)) [] 0 (by decide) (by decide) (by decide) (by decide) (by rw [hml]; rfl) (lenOf pd_3 rfl) (Nat.le_of_eq rfl) (hb hby d10_32)
      have K22 : ∀ t, Steps p.tables e below (T21.setTop (mkF m 35 #[.val (.ref o0), .val (.ref o1), .val (.ref o1)] [(.int (if t0 = t1 then (1 : Int32) else 0))])) t → Steps p.tables e below B0 t := fun t k => K20 t (st21 t k)
      obtain ⟨x26, hx26⟩ : ∃ z : Int32, z = (if (if t0 = t1 then (1 : Int32) else 0) = (0 : Int32) then (0 : Int32) else (1 : Int32)) := ⟨_, rfl⟩
      obtain ⟨T27, X27, e27, K27⟩ : ∃ T' : State, Stand p l e ({ frames := 2, cells := 0, slots := 0, locals := 28 } : Room) s m #[(.ref o0), (.ref o1)] below meth c T' [] 0 0 ∧ T'.heap = h0 ∧ ∀ t, Steps p.tables e below (T'.setTop (mkF m 43 #[.val (.ref o0), .val (.ref o1), .val (.ref o1)] [(.int x26)])) t → Steps p.tables e below B0 t := by
        by_cases hc23 : (if t0 = t1 then (1 : Int32) else 0) = (0 : Int32)
        · have K24 : ∀ t, Steps p.tables e below (T21.setTop (mkF m 43 #[.val (.ref o0), .val (.ref o1), .val (.ref o1)] [(.int (0 : Int32))])) t → Steps p.tables e below B0 t := fun t k => K22 t (by
            refine Own.ifYes X21 hx 42 (hb hby d10_35) ((if0 _ _).trans (teq hc23).1) (by decide) (by decide) ?_
            refine Own.iconst X21 hx (0 : Int32) (hb hby d10_42) rfl ?_
            exact k)
          exact ⟨T21, X21, e21, fun t k => K24 t (by rw [hx26, if_pos hc23] at k; exact k)⟩
        · have K25 : ∀ t, Steps p.tables e below (T21.setTop (mkF m 43 #[.val (.ref o0), .val (.ref o1), .val (.ref o1)] [(.int (1 : Int32))])) t → Steps p.tables e below B0 t := fun t k => K22 t (by
            refine Own.ifNo X21 hx (hb hby d10_35) ((if0 _ _).trans (feq hc23).1) ?_
            refine Own.iconst X21 hx (1 : Int32) (hb hby d10_38) rfl ?_
            refine Own.goto X21 hx 43 (hb hby d10_39) (by decide) (by decide) ?_
            exact k)
          exact ⟨T21, X21, e21, fun t k => K25 t (by rw [hx26, if_neg hc23] at k; exact k)⟩
      exact ⟨T27, X27, e27, fun t k => K27 t (by subst hx26; rw [hx29, if_pos hc14] at k; exact k)⟩
    · have K28 : ∀ t, Steps p.tables e below (T11.setTop (mkF m 43 #[.val (.ref o0), .val (.ref o1), .val (.ref o1)] [(.int (0 : Int32))])) t → Steps p.tables e below B0 t := fun t k => K13 t (by
        refine Own.ifYes X11 hx 42 (hb hby d10_21) (Jvm.Free.XT.ll_ne_t hc14) (by decide) (by decide) ?_
        refine Own.iconst X11 hx (0 : Int32) (hb hby d10_42) rfl ?_
        exact k)
      exact ⟨T11, X11, e11, fun t k => K28 t (by rw [hx29, if_neg hc14] at k; exact k)⟩
  exact Own.finN X30 hx (BodyLoose.notSynchronized Bd) Bd.returns (by simp) (hb hby d10_43) K30 (by decide) (by decide) ⟨by subst hx29; unfold F10; rfl, rfl, e30⟩

theorem ef_10n1 (m : MethodId) (o0 : Addr) : entryFrame m #[(.ref o0), .null] 3 = mkF m 0 #[.val (.ref o0), .val .null, .unset] [] := by first | (simp [entryFrame, mkF, argsToLocals, Value.category]; done) | rfl
set_option maxRecDepth 65536 in
set_option maxHeartbeats 40000000 in
theorem cEqN (l : Launch) (Z : State) (a0 : Array Value) (hw : ∀ d ∈ tables_1, d.before a0 Z = true) (o0 : Addr) (h0 : Heap) : Own.Con l Z (⟨"com/example/cyclewarden/cyclewarden/site/TransactionId", "equals", "(Ljava/lang/Object;)Z"⟩ : MethodName) prog_110_method_4_code 3 (some .boolean) ({ frames := 0, cells := 0, slots := 0, locals := 0 } : Room) #[(.ref o0), .null] h0 (Own.Pure (.int 0) h0) := by
  intro ws
  refine MetFree.of_bodySF (plainFor_of_name pn_3) hisR ?_
  intro p e s m args below meth c s₁ Bd hml0 hP hK
  obtain ⟨rfl, hZ, hh⟩ := hP
  have hx := Bd.exec
  have hby := Bd.bytes
  have hml : c.maxLocals = 3 := hml0
  have hown : s.vm.findClass "com/example/cyclewarden/cyclewarden/site/TransactionId" = some m.cls := findClass_of_methodNamed Bd.named
  have hnm := (name_of_methodNamed Bd.named Bd.method).1
  have X0 : Stand p l e ({ frames := 0, cells := 0, slots := 0, locals := 0 } : Room) s m #[(.ref o0), .null] below meth c s₁ [] 0 0 := Stand.of_body Bd
  have e0 : s₁.heap = h0 := by rw [← hh, Bd.state]; rfl
  have K0 : ∀ t, Steps p.tables e below (s₁.setTop (mkF m 0 #[.val (.ref o0), .val .null, .unset] [])) t → Steps p.tables e below (s₁.setTop (entryFrame m #[(.ref o0), .null] 3)) t := fun t k => castTop (ef_10n1 m o0) k
  generalize s₁.setTop (entryFrame m #[(.ref o0), .null] 3) = B0 at K0 ⊢
  show Own.Fin p e below B0 s (({ frames := 0, cells := 0, slots := 0, locals := 0 } : Room)).cells (({ frames := 0, cells := 0, slots := 0, locals := 0 } : Room)).slots (Own.Pure (.int 0) h0)
  have K1 : ∀ t, Steps p.tables e below (s₁.setTop (mkF m 1 #[.val (.ref o0), .val .null, .unset] [.null])) t → Steps p.tables e below B0 t := fun t k => K0 t (by
    refine Own.aloadN X0 hx (hb hby d10_0) rfl rfl ?_
    exact k)
  have K2 : ∀ t, Steps p.tables e below (s₁.setTop (mkF m 4 #[.val (.ref o0), .val .null, .unset] [(.int (0 : Int32))])) t → Steps p.tables e below B0 t := fun t k => K1 t (by
    refine Own.instNull X0 hx (hb hby d10_1) ?_
    exact k)
  have K3 : ∀ t, Steps p.tables e below (s₁.setTop (mkF m 43 #[.val (.ref o0), .val .null, .unset] [(.int (0 : Int32))])) t → Steps p.tables e below B0 t := fun t k => K2 t (by
    refine Own.ifYes X0 hx 42 (hb hby d10_4) ((if0 _ _).trans (teq (by decide : (0 : Int32) = (0 : Int32))).1) (by decide) (by decide) ?_
    refine Own.iconst X0 hx (0 : Int32) (hb hby d10_42) rfl ?_
    exact k)
  exact Own.finN X0 hx (BodyLoose.notSynchronized Bd) Bd.returns (by simp) (hb hby d10_43) K3 (by decide) (by decide) ⟨rfl, rfl, e0⟩

set_option maxRecDepth 65536 in
set_option maxHeartbeats 40000000 in
theorem cEqS (l : Launch) (Z : State) (a0 : Array Value) (hw : ∀ d ∈ tables_1, d.before a0 Z = true) (o0 : Addr) (o1 : Addr) (t1 : List Int32) (h0 : Heap) (TX1 : own_Txt Z h0 o1 t1) : Own.Con l Z (⟨"com/example/cyclewarden/cyclewarden/site/TransactionId", "equals", "(Ljava/lang/Object;)Z"⟩ : MethodName) prog_110_method_4_code 3 (some .boolean) ({ frames := 0, cells := 0, slots := 0, locals := 0 } : Room) #[(.ref o0), (.ref o1)] h0 (Own.Pure (.int 0) h0) := by
  intro ws
  refine MetFree.of_bodySF (plainFor_of_name pn_3) hisR ?_
  intro p e s m args below meth c s₁ Bd hml0 hP hK
  obtain ⟨rfl, hZ, hh⟩ := hP
  have hx := Bd.exec
  have hby := Bd.bytes
  have hml : c.maxLocals = 3 := hml0
  have hown : s.vm.findClass "com/example/cyclewarden/cyclewarden/site/TransactionId" = some m.cls := findClass_of_methodNamed Bd.named
  have hnm := (name_of_methodNamed Bd.named Bd.method).1
  have X0 : Stand p l e ({ frames := 0, cells := 0, slots := 0, locals := 0 } : Room) s m #[(.ref o0), (.ref o1)] below meth c s₁ [] 0 0 := Stand.of_body Bd
  have e0 : s₁.heap = h0 := by rw [← hh, Bd.state]; rfl
  have K0 : ∀ t, Steps p.tables e below (s₁.setTop (mkF m 0 #[.val (.ref o0), .val (.ref o1), .unset] [])) t → Steps p.tables e below (s₁.setTop (entryFrame m #[(.ref o0), (.ref o1)] 3)) t := fun t k => castTop (ef_10 m o0 o1) k
  generalize s₁.setTop (entryFrame m #[(.ref o0), (.ref o1)] 3) = B0 at K0 ⊢
  show Own.Fin p e below B0 s (({ frames := 0, cells := 0, slots := 0, locals := 0 } : Room)).cells (({ frames := 0, cells := 0, slots := 0, locals := 0 } : Room)).slots (Own.Pure (.int 0) h0)
  have K1 : ∀ t, Steps p.tables e below (s₁.setTop (mkF m 1 #[.val (.ref o0), .val (.ref o1), .unset] [(.ref o1)])) t → Steps p.tables e below B0 t := fun t k => K0 t (by
    refine Own.aloadN X0 hx (hb hby d10_0) rfl rfl ?_
    exact k)
  obtain ⟨T2, X2, e2, st2⟩ := Own.instN (Ls := #[.val (.ref o0), .val (.ref o1), .unset]) (S := []) X0 hx hZ e0 hown (hw _ (List.mem_of_getElem? (i := 58) rfl)) TX1.exa (hw _ (List.mem_of_getElem? (i := 38) rfl)) (t := ["java/lang/Object"]) (fun d hd => hw d ((by decide +kernel : ∀ d ∈ Cond.chainWords ["java/lang/String", "java/lang/Object"], d ∈ tables_1) d hd)) (by decide) (hb hby d10_1)
  have K3 : ∀ t, Steps p.tables e below (T2.setTop (mkF m 4 #[.val (.ref o0), .val (.ref o1), .unset] [(.int (0 : Int32))])) t → Steps p.tables e below B0 t := fun t k => K1 t (st2 t k)
  have K4 : ∀ t, Steps p.tables e below (T2.setTop (mkF m 43 #[.val (.ref o0), .val (.ref o1), .unset] [(.int (0 : Int32))])) t → Steps p.tables e below B0 t := fun t k => K3 t (by
    refine Own.ifYes X2 hx 42 (hb hby d10_4) ((if0 _ _).trans (teq (by decide : (0 : Int32) = (0 : Int32))).1) (by decide) (by decide) ?_
    refine Own.iconst X2 hx (0 : Int32) (hb hby d10_42) rfl ?_
    exact k)
  exact Own.finN X2 hx (BodyLoose.notSynchronized Bd) Bd.returns (by simp) (hb hby d10_43) K4 (by decide) (by decide) ⟨rfl, rfl, e2⟩

theorem own_okn {c : Int32} : own_ok c ↔ c.toBitVec.toNat < 256 := by
  unfold own_ok
  rw [Int32.lt_iff_toInt_lt, Int32.lt_iff_toInt_lt, show (0 : Int32).toInt = 0 by decide, show (255 : Int32).toInt = 255 by decide]
  have h3 : c.toInt = c.toBitVec.toInt := rfl
  have h4 := c.toBitVec.isLt
  rw [h3, BitVec.toInt_eq_toNat_cond]
  split <;> omega
theorem own_b8i (x : Int32) : own_ok (x &&& 255) := by
  rw [own_okn, Int32.toBitVec_and, BitVec.toNat_and]
  exact Nat.lt_of_le_of_lt Nat.and_le_right (by decide)
theorem own_x8 {a b : Int32} (h : own_ok a) (g : own_ok b) : own_ok (a ^^^ b) := by
  rw [own_okn] at h g ⊢
  rw [Int32.toBitVec_xor, BitVec.toNat_xor]
  exact Nat.xor_lt_two_pow (n := 8) h g
theorem own_c8 {x : Int32} (h : own_ok x) : x.toUInt32.toUInt16.toUInt32.toInt32 = x := own_narb h
theorem own_okc {x : Int32} (h : own_ok x) : own_ok (x.toUInt32.toUInt16.toUInt32.toInt32) := by rw [own_c8 h]; exact h
theorem own_l3 (x : Int32) : (x &&& 3) = 0 ∨ (x &&& 3) = 1 ∨ (x &&& 3) = 2 ∨ (x &&& 3) = 3 := by
  have h := own_mask x 2 3 (by decide) (by omega)
  simp only [← Int32.toInt_inj]
  have h0 : (0 : Int32).toInt = 0 := by decide
  have h1 : (1 : Int32).toInt = 1 := by decide
  have h2 : (2 : Int32).toInt = 2 := by decide
  have h3 : (3 : Int32).toInt = 3 := by decide
  rw [h0, h1, h2, h3]; omega
theorem own_xe (a x : Int32) : (a = a ^^^ x) = (x = 0) := by
  refine propext ⟨fun h => ?_, fun h => ?_⟩
  · have e : a ^^^ (a ^^^ x) = x := by rw [← Int32.xor_assoc, Int32.xor_self, Int32.zero_xor]
    rw [← h, Int32.xor_self] at e; exact e.symm
  · rw [h, Int32.xor_zero]
theorem own_xe' (a x : Int32) : (a ^^^ x = a) = (x = 0) := by rw [← own_xe a x]; exact propext ⟨Eq.symm, Eq.symm⟩
theorem own_core (q2 t : Int64) (la lb a0 a1 a2 x0 x1 x2 : Int32) (hl : la = 0 ∨ la = 1 ∨ la = 2 ∨ la = 3) (hm : lb = 0 ∨ lb = 1 ∨ lb = 2 ∨ lb = 3) (ha0 : own_ok a0) (ha1 : own_ok a1) (ha2 : own_ok a2) (hx0 : own_ok x0) (hx1 : own_ok x1) (hx2 : own_ok x2) :
    nar .boolean (if (F10 q2 t (own_mk la (a0.toUInt32.toUInt16.toUInt32.toInt32) (a1.toUInt32.toUInt16.toUInt32.toInt32) (a2.toUInt32.toUInt16.toUInt32.toInt32)) (own_mk lb ((a0 ^^^ x0).toUInt32.toUInt16.toUInt32.toInt32) ((a1 ^^^ x1).toUInt32.toUInt16.toUInt32.toInt32) ((a2 ^^^ x2).toUInt32.toUInt16.toUInt32.toInt32))) = (if t = q2 then (if (if la = lb then (if la < (1 : Int32) then (if la < (2 : Int32) then (if la < (3 : Int32) then (1 : Int32) else (if x2 = (0 : Int32) then (1 : Int32) else (0 : Int32))) else (if x1 = (0 : Int32) then (if la < (3 : Int32) then (1 : Int32) else (if x2 = (0 : Int32) then (1 : Int32) else (0 : Int32))) else (0 : Int32))) else (if x0 = (0 : Int32) then (if la < (2 : Int32) then (if la < (3 : Int32) then (1 : Int32) else (if x2 = (0 : Int32) then (1 : Int32) else (0 : Int32))) else (if x1 = (0 : Int32) then (if la < (3 : Int32) then (1 : Int32) else (if x2 = (0 : Int32) then (1 : Int32) else (0 : Int32))) else (0 : Int32))) else (0 : Int32))) else (0 : Int32)) = (0 : Int32) then (0 : Int32) else (1 : Int32)) else (0 : Int32)) then (if (F10 t q2 (own_mk lb ((a0 ^^^ x0).toUInt32.toUInt16.toUInt32.toInt32) ((a1 ^^^ x1).toUInt32.toUInt16.toUInt32.toInt32) ((a2 ^^^ x2).toUInt32.toUInt16.toUInt32.toInt32)) (own_mk la (a0.toUInt32.toUInt16.toUInt32.toInt32) (a1.toUInt32.toUInt16.toUInt32.toInt32) (a2.toUInt32.toUInt16.toUInt32.toInt32))) = (if t = q2 then (if (if la = lb then (if la < (1 : Int32) then (if la < (2 : Int32) then (if la < (3 : Int32) then (1 : Int32) else (if x2 = (0 : Int32) then (1 : Int32) else (0 : Int32))) else (if x1 = (0 : Int32) then (if la < (3 : Int32) then (1 : Int32) else (if x2 = (0 : Int32) then (1 : Int32) else (0 : Int32))) else (0 : Int32))) else (if x0 = (0 : Int32) then (if la < (2 : Int32) then (if la < (3 : Int32) then (1 : Int32) else (if x2 = (0 : Int32) then (1 : Int32) else (0 : Int32))) else (if x1 = (0 : Int32) then (if la < (3 : Int32) then (1 : Int32) else (if x2 = (0 : Int32) then (1 : Int32) else (0 : Int32))) else (0 : Int32))) else (0 : Int32))) else (0 : Int32)) = (0 : Int32) then (0 : Int32) else (1 : Int32)) else (0 : Int32)) then (if (F10 q2 q2 (own_mk la (a0.toUInt32.toUInt16.toUInt32.toInt32) (a1.toUInt32.toUInt16.toUInt32.toInt32) (a2.toUInt32.toUInt16.toUInt32.toInt32)) (own_mk la (a0.toUInt32.toUInt16.toUInt32.toInt32) (a1.toUInt32.toUInt16.toUInt32.toInt32) (a2.toUInt32.toUInt16.toUInt32.toInt32))) = (0 : Int32) then (0 : Int32) else (1 : Int32)) else (0 : Int32)) else (0 : Int32)) = 1 := by
  rw [own_c8 ha0, own_c8 ha1, own_c8 ha2, own_c8 (own_x8 ha0 hx0), own_c8 (own_x8 ha1 hx1), own_c8 (own_x8 ha2 hx2)]
  have n1 : nar .boolean (1 : Int32) = 1 := rfl
  have n0 : nar .boolean (0 : Int32) = 0 := rfl
  unfold F10
  by_cases ht : t = q2
  · subst ht
    by_cases y0 : x0 = 0 <;> by_cases y1 : x1 = 0 <;> by_cases y2 : x2 = 0 <;> rcases hl with h | h | h | h <;> rcases hm with g | g | g | g <;> subst h <;> subst g <;> simp [own_mk, own_xe, own_xe', y0, y1, y2, n0, n1]
  · simp [ht, Ne.symm ht, n0, n1]
theorem own_l3' (c : Int32) (x y : Int32) : (if c = (0 : Int32) then (x &&& 3) else (y &&& 3)) = 0 ∨ (if c = (0 : Int32) then (x &&& 3) else (y &&& 3)) = 1 ∨ (if c = (0 : Int32) then (x &&& 3) else (y &&& 3)) = 2 ∨ (if c = (0 : Int32) then (x &&& 3) else (y &&& 3)) = 3 := by
  split <;> exact own_l3 _
theorem own_x3 (c x : Int32) : own_ok (if c = (0 : Int32) then (x &&& 255) else (0 : Int32)) := by
  split
  · exact own_b8i _
  · exact ⟨by decide, by decide⟩
def own_res (p0 p1 : Int32) (q2 q3 : Int64) (p4 : Int32) : Int32 := nar .boolean (if (F10 q2 (if (if ((p4 >>> ((5 : Int32) &&& 31)) &&& (1 : Int32)) = (0 : Int32) then (0 : Int32) else (1 : Int32)) = (0 : Int32) then (q2 ^^^ q3) else q2) (own_mk (p4 &&& (3 : Int32)) ((p0 &&& (255 : Int32)).toUInt32.toUInt16.toUInt32.toInt32) ((((p0.toUInt32 >>> ((8 : Int32) &&& 31).toUInt32).toInt32) &&& (255 : Int32)).toUInt32.toUInt16.toUInt32.toInt32) ((((p0.toUInt32 >>> ((16 : Int32) &&& 31).toUInt32).toInt32) &&& (255 : Int32)).toUInt32.toUInt16.toUInt32.toInt32)) (own_mk (if (if ((p4 >>> ((4 : Int32) &&& 31)) &&& (1 : Int32)) = (0 : Int32) then (0 : Int32) else (1 : Int32)) = (0 : Int32) then ((p4 >>> ((2 : Int32) &&& 31)) &&& (3 : Int32)) else (p4 &&& (3 : Int32))) (((p0 &&& (255 : Int32)) ^^^ (if (if ((p4 >>> ((4 : Int32) &&& 31)) &&& (1 : Int32)) = (0 : Int32) then (0 : Int32) else (1 : Int32)) = (0 : Int32) then (p1 &&& (255 : Int32)) else (0 : Int32))).toUInt32.toUInt16.toUInt32.toInt32) (((((p0.toUInt32 >>> ((8 : Int32) &&& 31).toUInt32).toInt32) &&& (255 : Int32)) ^^^ (if (if ((p4 >>> ((4 : Int32) &&& 31)) &&& (1 : Int32)) = (0 : Int32) then (0 : Int32) else (1 : Int32)) = (0 : Int32) then (((p1.toUInt32 >>> ((8 : Int32) &&& 31).toUInt32).toInt32) &&& (255 : Int32)) else (0 : Int32))).toUInt32.toUInt16.toUInt32.toInt32) (((((p0.toUInt32 >>> ((16 : Int32) &&& 31).toUInt32).toInt32) &&& (255 : Int32)) ^^^ (if (if ((p4 >>> ((4 : Int32) &&& 31)) &&& (1 : Int32)) = (0 : Int32) then (0 : Int32) else (1 : Int32)) = (0 : Int32) then (((p1.toUInt32 >>> ((16 : Int32) &&& 31).toUInt32).toInt32) &&& (255 : Int32)) else (0 : Int32))).toUInt32.toUInt16.toUInt32.toInt32))) = (if (if (if ((p4 >>> ((5 : Int32) &&& 31)) &&& (1 : Int32)) = (0 : Int32) then (0 : Int32) else (1 : Int32)) = (0 : Int32) then (q2 ^^^ q3) else q2) = q2 then (if (if (p4 &&& (3 : Int32)) = (if (if ((p4 >>> ((4 : Int32) &&& 31)) &&& (1 : Int32)) = (0 : Int32) then (0 : Int32) else (1 : Int32)) = (0 : Int32) then ((p4 >>> ((2 : Int32) &&& 31)) &&& (3 : Int32)) else (p4 &&& (3 : Int32))) then (if (p4 &&& (3 : Int32)) < (1 : Int32) then (if (p4 &&& (3 : Int32)) < (2 : Int32) then (if (p4 &&& (3 : Int32)) < (3 : Int32) then (1 : Int32) else (if (if (if ((p4 >>> ((4 : Int32) &&& 31)) &&& (1 : Int32)) = (0 : Int32) then (0 : Int32) else (1 : Int32)) = (0 : Int32) then (((p1.toUInt32 >>> ((16 : Int32) &&& 31).toUInt32).toInt32) &&& (255 : Int32)) else (0 : Int32)) = (0 : Int32) then (1 : Int32) else (0 : Int32))) else (if (if (if ((p4 >>> ((4 : Int32) &&& 31)) &&& (1 : Int32)) = (0 : Int32) then (0 : Int32) else (1 : Int32)) = (0 : Int32) then (((p1.toUInt32 >>> ((8 : Int32) &&& 31).toUInt32).toInt32) &&& (255 : Int32)) else (0 : Int32)) = (0 : Int32) then (if (p4 &&& (3 : Int32)) < (3 : Int32) then (1 : Int32) else (if (if (if ((p4 >>> ((4 : Int32) &&& 31)) &&& (1 : Int32)) = (0 : Int32) then (0 : Int32) else (1 : Int32)) = (0 : Int32) then (((p1.toUInt32 >>> ((16 : Int32) &&& 31).toUInt32).toInt32) &&& (255 : Int32)) else (0 : Int32)) = (0 : Int32) then (1 : Int32) else (0 : Int32))) else (0 : Int32))) else (if (if (if ((p4 >>> ((4 : Int32) &&& 31)) &&& (1 : Int32)) = (0 : Int32) then (0 : Int32) else (1 : Int32)) = (0 : Int32) then (p1 &&& (255 : Int32)) else (0 : Int32)) = (0 : Int32) then (if (p4 &&& (3 : Int32)) < (2 : Int32) then (if (p4 &&& (3 : Int32)) < (3 : Int32) then (1 : Int32) else (if (if (if ((p4 >>> ((4 : Int32) &&& 31)) &&& (1 : Int32)) = (0 : Int32) then (0 : Int32) else (1 : Int32)) = (0 : Int32) then (((p1.toUInt32 >>> ((16 : Int32) &&& 31).toUInt32).toInt32) &&& (255 : Int32)) else (0 : Int32)) = (0 : Int32) then (1 : Int32) else (0 : Int32))) else (if (if (if ((p4 >>> ((4 : Int32) &&& 31)) &&& (1 : Int32)) = (0 : Int32) then (0 : Int32) else (1 : Int32)) = (0 : Int32) then (((p1.toUInt32 >>> ((8 : Int32) &&& 31).toUInt32).toInt32) &&& (255 : Int32)) else (0 : Int32)) = (0 : Int32) then (if (p4 &&& (3 : Int32)) < (3 : Int32) then (1 : Int32) else (if (if (if ((p4 >>> ((4 : Int32) &&& 31)) &&& (1 : Int32)) = (0 : Int32) then (0 : Int32) else (1 : Int32)) = (0 : Int32) then (((p1.toUInt32 >>> ((16 : Int32) &&& 31).toUInt32).toInt32) &&& (255 : Int32)) else (0 : Int32)) = (0 : Int32) then (1 : Int32) else (0 : Int32))) else (0 : Int32))) else (0 : Int32))) else (0 : Int32)) = (0 : Int32) then (0 : Int32) else (1 : Int32)) else (0 : Int32)) then (if (F10 (if (if ((p4 >>> ((5 : Int32) &&& 31)) &&& (1 : Int32)) = (0 : Int32) then (0 : Int32) else (1 : Int32)) = (0 : Int32) then (q2 ^^^ q3) else q2) q2 (own_mk (if (if ((p4 >>> ((4 : Int32) &&& 31)) &&& (1 : Int32)) = (0 : Int32) then (0 : Int32) else (1 : Int32)) = (0 : Int32) then ((p4 >>> ((2 : Int32) &&& 31)) &&& (3 : Int32)) else (p4 &&& (3 : Int32))) (((p0 &&& (255 : Int32)) ^^^ (if (if ((p4 >>> ((4 : Int32) &&& 31)) &&& (1 : Int32)) = (0 : Int32) then (0 : Int32) else (1 : Int32)) = (0 : Int32) then (p1 &&& (255 : Int32)) else (0 : Int32))).toUInt32.toUInt16.toUInt32.toInt32) (((((p0.toUInt32 >>> ((8 : Int32) &&& 31).toUInt32).toInt32) &&& (255 : Int32)) ^^^ (if (if ((p4 >>> ((4 : Int32) &&& 31)) &&& (1 : Int32)) = (0 : Int32) then (0 : Int32) else (1 : Int32)) = (0 : Int32) then (((p1.toUInt32 >>> ((8 : Int32) &&& 31).toUInt32).toInt32) &&& (255 : Int32)) else (0 : Int32))).toUInt32.toUInt16.toUInt32.toInt32) (((((p0.toUInt32 >>> ((16 : Int32) &&& 31).toUInt32).toInt32) &&& (255 : Int32)) ^^^ (if (if ((p4 >>> ((4 : Int32) &&& 31)) &&& (1 : Int32)) = (0 : Int32) then (0 : Int32) else (1 : Int32)) = (0 : Int32) then (((p1.toUInt32 >>> ((16 : Int32) &&& 31).toUInt32).toInt32) &&& (255 : Int32)) else (0 : Int32))).toUInt32.toUInt16.toUInt32.toInt32)) (own_mk (p4 &&& (3 : Int32)) ((p0 &&& (255 : Int32)).toUInt32.toUInt16.toUInt32.toInt32) ((((p0.toUInt32 >>> ((8 : Int32) &&& 31).toUInt32).toInt32) &&& (255 : Int32)).toUInt32.toUInt16.toUInt32.toInt32) ((((p0.toUInt32 >>> ((16 : Int32) &&& 31).toUInt32).toInt32) &&& (255 : Int32)).toUInt32.toUInt16.toUInt32.toInt32))) = (if (if (if ((p4 >>> ((5 : Int32) &&& 31)) &&& (1 : Int32)) = (0 : Int32) then (0 : Int32) else (1 : Int32)) = (0 : Int32) then (q2 ^^^ q3) else q2) = q2 then (if (if (p4 &&& (3 : Int32)) = (if (if ((p4 >>> ((4 : Int32) &&& 31)) &&& (1 : Int32)) = (0 : Int32) then (0 : Int32) else (1 : Int32)) = (0 : Int32) then ((p4 >>> ((2 : Int32) &&& 31)) &&& (3 : Int32)) else (p4 &&& (3 : Int32))) then (if (p4 &&& (3 : Int32)) < (1 : Int32) then (if (p4 &&& (3 : Int32)) < (2 : Int32) then (if (p4 &&& (3 : Int32)) < (3 : Int32) then (1 : Int32) else (if (if (if ((p4 >>> ((4 : Int32) &&& 31)) &&& (1 : Int32)) = (0 : Int32) then (0 : Int32) else (1 : Int32)) = (0 : Int32) then (((p1.toUInt32 >>> ((16 : Int32) &&& 31).toUInt32).toInt32) &&& (255 : Int32)) else (0 : Int32)) = (0 : Int32) then (1 : Int32) else (0 : Int32))) else (if (if (if ((p4 >>> ((4 : Int32) &&& 31)) &&& (1 : Int32)) = (0 : Int32) then (0 : Int32) else (1 : Int32)) = (0 : Int32) then (((p1.toUInt32 >>> ((8 : Int32) &&& 31).toUInt32).toInt32) &&& (255 : Int32)) else (0 : Int32)) = (0 : Int32) then (if (p4 &&& (3 : Int32)) < (3 : Int32) then (1 : Int32) else (if (if (if ((p4 >>> ((4 : Int32) &&& 31)) &&& (1 : Int32)) = (0 : Int32) then (0 : Int32) else (1 : Int32)) = (0 : Int32) then (((p1.toUInt32 >>> ((16 : Int32) &&& 31).toUInt32).toInt32) &&& (255 : Int32)) else (0 : Int32)) = (0 : Int32) then (1 : Int32) else (0 : Int32))) else (0 : Int32))) else (if (if (if ((p4 >>> ((4 : Int32) &&& 31)) &&& (1 : Int32)) = (0 : Int32) then (0 : Int32) else (1 : Int32)) = (0 : Int32) then (p1 &&& (255 : Int32)) else (0 : Int32)) = (0 : Int32) then (if (p4 &&& (3 : Int32)) < (2 : Int32) then (if (p4 &&& (3 : Int32)) < (3 : Int32) then (1 : Int32) else (if (if (if ((p4 >>> ((4 : Int32) &&& 31)) &&& (1 : Int32)) = (0 : Int32) then (0 : Int32) else (1 : Int32)) = (0 : Int32) then (((p1.toUInt32 >>> ((16 : Int32) &&& 31).toUInt32).toInt32) &&& (255 : Int32)) else (0 : Int32)) = (0 : Int32) then (1 : Int32) else (0 : Int32))) else (if (if (if ((p4 >>> ((4 : Int32) &&& 31)) &&& (1 : Int32)) = (0 : Int32) then (0 : Int32) else (1 : Int32)) = (0 : Int32) then (((p1.toUInt32 >>> ((8 : Int32) &&& 31).toUInt32).toInt32) &&& (255 : Int32)) else (0 : Int32)) = (0 : Int32) then (if (p4 &&& (3 : Int32)) < (3 : Int32) then (1 : Int32) else (if (if (if ((p4 >>> ((4 : Int32) &&& 31)) &&& (1 : Int32)) = (0 : Int32) then (0 : Int32) else (1 : Int32)) = (0 : Int32) then (((p1.toUInt32 >>> ((16 : Int32) &&& 31).toUInt32).toInt32) &&& (255 : Int32)) else (0 : Int32)) = (0 : Int32) then (1 : Int32) else (0 : Int32))) else (0 : Int32))) else (0 : Int32))) else (0 : Int32)) = (0 : Int32) then (0 : Int32) else (1 : Int32)) else (0 : Int32)) then (if (F10 q2 q2 (own_mk (p4 &&& (3 : Int32)) ((p0 &&& (255 : Int32)).toUInt32.toUInt16.toUInt32.toInt32) ((((p0.toUInt32 >>> ((8 : Int32) &&& 31).toUInt32).toInt32) &&& (255 : Int32)).toUInt32.toUInt16.toUInt32.toInt32) ((((p0.toUInt32 >>> ((16 : Int32) &&& 31).toUInt32).toInt32) &&& (255 : Int32)).toUInt32.toUInt16.toUInt32.toInt32)) (own_mk (p4 &&& (3 : Int32)) ((p0 &&& (255 : Int32)).toUInt32.toUInt16.toUInt32.toInt32) ((((p0.toUInt32 >>> ((8 : Int32) &&& 31).toUInt32).toInt32) &&& (255 : Int32)).toUInt32.toUInt16.toUInt32.toInt32) ((((p0.toUInt32 >>> ((16 : Int32) &&& 31).toUInt32).toInt32) &&& (255 : Int32)).toUInt32.toUInt16.toUInt32.toInt32))) = (0 : Int32) then (0 : Int32) else (1 : Int32)) else (0 : Int32)) else (0 : Int32))
theorem own_res1 (p0 p1 : Int32) (q2 q3 : Int64) (p4 : Int32) : own_res p0 p1 q2 q3 p4 = 1 :=
  own_core q2 _ _ _ _ _ _ _ _ _ (own_l3 _) (own_l3' _ _ _) (own_b8i _) (own_b8i _) (own_b8i _) (own_x3 _ _) (own_x3 _ _) (own_x3 _ _)

theorem pd_4 : parseMethodDescriptor "(ICCC)Ljava/lang/String;" = some ⟨[.int, .char, .char, .char], some (.object "java/lang/String")⟩ := by decide +kernel
theorem pd_5 : parseMethodDescriptor "(Ljava/lang/String;J)V" = some ⟨[(.object "java/lang/String"), .long], none⟩ := by decide +kernel
theorem ef_0 (m : MethodId) (p0 : Int32) (p1 : Int32) (q2 : Int64) (q3 : Int64) (p4 : Int32) : entryFrame m #[(.int p0), (.int p1), (.long q2), (.long q3), (.int p4)] maxLocals = mkF m 0 #[.val (.int p0), .val (.int p1), .val (.long q2), .second, .val (.long q3), .second, .val (.int p4), .unset, .unset, .unset, .unset, .unset, .unset, .unset, .unset, .unset, .unset, .unset, .unset, .unset, .unset, .unset, .unset, .unset, .unset, .unset] [] := by first | (simp [entryFrame, mkF, argsToLocals, Value.category, maxLocals]; done) | rfl
set_option maxRecDepth 65536 in
set_option maxHeartbeats 40000000 in
theorem c0 (l : Launch) (Z : State) (a0 : Array Value) (hw : ∀ d ∈ tables_1, d.before a0 Z = true) (p0 : Int32) (p1 : Int32) (q2 : Int64) (q3 : Int64) (p4 : Int32) (G1 : Int32) (h0 : Heap) (SC : Sta Z h0 "java/lang/String" "COMPACT_STRINGS" "Z" (.int G1)) (hG1 : ¬ G1 = 0) : Own.ConH l Z own_EL x code maxLocals ret room_1 #[(.int p0), (.int p1), (.long q2), (.long q3), (.int p4)] h0 (Own.Law1 h0) := by
  intro ws
  refine MetFree.of_bodySF (plainFor_of_name pn_1) hisR ?_
  intro p e s m args below meth c s₁ Bd hml0 hP hK
  obtain ⟨rfl, hZ, hh, hH⟩ := hP
  have hx := Bd.exec
  have hby := Bd.bytes
  have hml : c.maxLocals = 26 := hml0
  have hown : s.vm.findClass "com/example/cyclewarden/cyclewarden/site/TransactionIdEqualsPinLaw" = some m.cls := findClass_of_methodNamed Bd.named
  have hnm := (name_of_methodNamed Bd.named Bd.method).1
  have X0 : Stand p l e room_1 (s.setVm s.vm) m #[(.int p0), (.int p1), (.long q2), (.long q3), (.int p4)] below meth c s₁ [] 0 0 := Stand.of_body Bd
  have e0 : s₁.heap = h0 := by rw [← hh, Bd.state]; rfl
  have D0 : Own.Wd s Z own_EL "com/example/cyclewarden/cyclewarden/site/TransactionIdEqualsPinLaw" m.cls s.vm h0 := by rw [← hh]; exact Own.Wd.start hZ hown (by rw [hh]; exact hH)
  have K0 : ∀ t, Steps p.tables e below (s₁.setTop (mkF m 0 #[.val (.int p0), .val (.int p1), .val (.long q2), .second, .val (.long q3), .second, .val (.int p4), .unset, .unset, .unset, .unset, .unset, .unset, .unset, .unset, .unset, .unset, .unset, .unset, .unset, .unset, .unset, .unset, .unset, .unset, .unset] [])) t → Steps p.tables e below (s₁.setTop (entryFrame m #[(.int p0), (.int p1), (.long q2), (.long q3), (.int p4)] maxLocals)) t := fun t k => castTop (ef_0 m p0 p1 q2 q3 p4) k
  generalize s₁.setTop (entryFrame m #[(.int p0), (.int p1), (.long q2), (.long q3), (.int p4)] maxLocals) = B0 at K0 ⊢
  show Own.FinH p e below B0 s Z own_EL (room_1).cells (room_1).slots (Own.Law1 h0)
  obtain ⟨n0, hn0⟩ : ∃ z, z = h0.size := ⟨_, rfl⟩
  have Z0 : n0 ≤ h0.size := Nat.le_of_eq hn0
  have K1 : ∀ t, Steps p.tables e below (s₁.setTop (mkF m 12 #[.val (.int p0), .val (.int p1), .val (.long q2), .second, .val (.long q3), .second, .val (.int p4), .val (.int (p4 &&& (3 : Int32))), .unset, .unset, .unset, .unset, .unset, .unset, .unset, .unset, .unset, .unset, .unset, .unset, .unset, .unset, .unset, .unset, .unset, .unset] [(.int ((p4 >>> ((4 : Int32) &&& 31)) &&& (1 : Int32)))])) t → Steps p.tables e below B0 t := fun t k => K0 t (by
    refine Own.iload X0 hx (hb hby at_0) rfl ?_
    refine Own.iconst X0 hx (3 : Int32) (hb hby at_2) rfl ?_
    refine Own.iand X0 hx (hb hby at_3) ?_
    refine Own.istore X0 hx #[.val (.int p0), .val (.int p1), .val (.long q2), .second, .val (.long q3), .second, .val (.int p4), .val (.int (p4 &&& (3 : Int32))), .unset, .unset, .unset, .unset, .unset, .unset, .unset, .unset, .unset, .unset, .unset, .unset, .unset, .unset, .unset, .unset, .unset, .unset] (hb hby at_4) rfl ?_
    refine Own.iload X0 hx (hb hby at_6) rfl ?_
    refine Own.iconst X0 hx (4 : Int32) (hb hby at_8) rfl ?_
    refine Own.ishr X0 hx (hb hby at_9) ?_
    refine Own.iconst X0 hx (1 : Int32) (hb hby at_10) rfl ?_
    refine Own.iand X0 hx (hb hby at_11) ?_
    exact k)
  obtain ⟨x5, hx5⟩ : ∃ z : Int32, z = (if ((p4 >>> ((4 : Int32) &&& 31)) &&& (1 : Int32)) = (0 : Int32) then (0 : Int32) else (1 : Int32)) := ⟨_, rfl⟩
  obtain ⟨T6, X6, e6, K6⟩ : ∃ T' : State, Stand p l e room_1 (s.setVm s.vm) m #[(.int p0), (.int p1), (.long q2), (.long q3), (.int p4)] below meth c T' [] 0 0 ∧ T'.heap = h0 ∧ ∀ t, Steps p.tables e below (T'.setTop (mkF m 20 #[.val (.int p0), .val (.int p1), .val (.long q2), .second, .val (.long q3), .second, .val (.int p4), .val (.int (p4 &&& (3 : Int32))), .unset, .unset, .unset, .unset, .unset, .unset, .unset, .unset, .unset, .unset, .unset, .unset, .unset, .unset, .unset, .unset, .unset, .unset] [(.int x5)])) t → Steps p.tables e below B0 t := by
    by_cases hc2 : ((p4 >>> ((4 : Int32) &&& 31)) &&& (1 : Int32)) = (0 : Int32)
    · have K3 : ∀ t, Steps p.tables e below (s₁.setTop (mkF m 20 #[.val (.int p0), .val (.int p1), .val (.long q2), .second, .val (.long q3), .second, .val (.int p4), .val (.int (p4 &&& (3 : Int32))), .unset, .unset, .unset, .unset, .unset, .unset, .unset, .unset, .unset, .unset, .unset, .unset, .unset, .unset, .unset, .unset, .unset, .unset] [(.int (0 : Int32))])) t → Steps p.tables e below B0 t := fun t k => K1 t (by
        refine Own.ifYes X0 hx 19 (hb hby at_12) ((if0 _ _).trans (teq hc2).1) (by decide) (by decide) ?_
        refine Own.iconst X0 hx (0 : Int32) (hb hby at_19) rfl ?_
        exact k)
      exact ⟨s₁, X0, e0, fun t k => K3 t (by rw [hx5, if_pos hc2] at k; exact k)⟩
    · have K4 : ∀ t, Steps p.tables e below (s₁.setTop (mkF m 20 #[.val (.int p0), .val (.int p1), .val (.long q2), .second, .val (.long q3), .second, .val (.int p4), .val (.int (p4 &&& (3 : Int32))), .unset, .unset, .unset, .unset, .unset, .unset, .unset, .unset, .unset, .unset, .unset, .unset, .unset, .unset, .unset, .unset, .unset, .unset] [(.int (1 : Int32))])) t → Steps p.tables e below B0 t := fun t k => K1 t (by
        refine Own.ifNo X0 hx (hb hby at_12) ((if0 _ _).trans (feq hc2).1) ?_
        refine Own.iconst X0 hx (1 : Int32) (hb hby at_15) rfl ?_
        refine Own.goto X0 hx 20 (hb hby at_16) (by decide) (by decide) ?_
        exact k)
      exact ⟨s₁, X0, e0, fun t k => K4 t (by rw [hx5, if_neg hc2] at k; exact k)⟩
  have K7 : ∀ t, Steps p.tables e below (T6.setTop (mkF m 28 #[.val (.int p0), .val (.int p1), .val (.long q2), .second, .val (.long q3), .second, .val (.int p4), .val (.int (p4 &&& (3 : Int32))), .val (.int x5), .unset, .unset, .unset, .unset, .unset, .unset, .unset, .unset, .unset, .unset, .unset, .unset, .unset, .unset, .unset, .unset, .unset] [(.int ((p4 >>> ((5 : Int32) &&& 31)) &&& (1 : Int32)))])) t → Steps p.tables e below B0 t := fun t k => K6 t (by
    refine Own.istore X6 hx #[.val (.int p0), .val (.int p1), .val (.long q2), .second, .val (.long q3), .second, .val (.int p4), .val (.int (p4 &&& (3 : Int32))), .val (.int x5), .unset, .unset, .unset, .unset, .unset, .unset, .unset, .unset, .unset, .unset, .unset, .unset, .unset, .unset, .unset, .unset, .unset] (hb hby at_20) rfl ?_
    refine Own.iload X6 hx (hb hby at_22) rfl ?_
    refine Own.iconst X6 hx (5 : Int32) (hb hby at_24) rfl ?_
    refine Own.ishr X6 hx (hb hby at_25) ?_
    refine Own.iconst X6 hx (1 : Int32) (hb hby at_26) rfl ?_
    refine Own.iand X6 hx (hb hby at_27) ?_
    exact k)
  obtain ⟨x11, hx11⟩ : ∃ z : Int32, z = (if ((p4 >>> ((5 : Int32) &&& 31)) &&& (1 : Int32)) = (0 : Int32) then (0 : Int32) else (1 : Int32)) := ⟨_, rfl⟩
  obtain ⟨T12, X12, e12, K12⟩ : ∃ T' : State, Stand p l e room_1 (s.setVm s.vm) m #[(.int p0), (.int p1), (.long q2), (.long q3), (.int p4)] below meth c T' [] 0 0 ∧ T'.heap = h0 ∧ ∀ t, Steps p.tables e below (T'.setTop (mkF m 36 #[.val (.int p0), .val (.int p1), .val (.long q2), .second, .val (.long q3), .second, .val (.int p4), .val (.int (p4 &&& (3 : Int32))), .val (.int x5), .unset, .unset, .unset, .unset, .unset, .unset, .unset, .unset, .unset, .unset, .unset, .unset, .unset, .unset, .unset, .unset, .unset] [(.int x11)])) t → Steps p.tables e below B0 t := by
    by_cases hc8 : ((p4 >>> ((5 : Int32) &&& 31)) &&& (1 : Int32)) = (0 : Int32)
    · have K9 : ∀ t, Steps p.tables e below (T6.setTop (mkF m 36 #[.val (.int p0), .val (.int p1), .val (.long q2), .second, .val (.long q3), .second, .val (.int p4), .val (.int (p4 &&& (3 : Int32))), .val (.int x5), .unset, .unset, .unset, .unset, .unset, .unset, .unset, .unset, .unset, .unset, .unset, .unset, .unset, .unset, .unset, .unset, .unset] [(.int (0 : Int32))])) t → Steps p.tables e below B0 t := fun t k => K7 t (by
        refine Own.ifYes X6 hx 35 (hb hby at_28) ((if0 _ _).trans (teq hc8).1) (by decide) (by decide) ?_
        refine Own.iconst X6 hx (0 : Int32) (hb hby at_35) rfl ?_
        exact k)
      exact ⟨T6, X6, e6, fun t k => K9 t (by rw [hx11, if_pos hc8] at k; exact k)⟩
    · have K10 : ∀ t, Steps p.tables e below (T6.setTop (mkF m 36 #[.val (.int p0), .val (.int p1), .val (.long q2), .second, .val (.long q3), .second, .val (.int p4), .val (.int (p4 &&& (3 : Int32))), .val (.int x5), .unset, .unset, .unset, .unset, .unset, .unset, .unset, .unset, .unset, .unset, .unset, .unset, .unset, .unset, .unset, .unset, .unset] [(.int (1 : Int32))])) t → Steps p.tables e below B0 t := fun t k => K7 t (by
        refine Own.ifNo X6 hx (hb hby at_28) ((if0 _ _).trans (feq hc8).1) ?_
        refine Own.iconst X6 hx (1 : Int32) (hb hby at_31) rfl ?_
        refine Own.goto X6 hx 36 (hb hby at_32) (by decide) (by decide) ?_
        exact k)
      exact ⟨T6, X6, e6, fun t k => K10 t (by rw [hx11, if_neg hc8] at k; exact k)⟩
  have K13 : ∀ t, Steps p.tables e below (T12.setTop (mkF m 40 #[.val (.int p0), .val (.int p1), .val (.long q2), .second, .val (.long q3), .second, .val (.int p4), .val (.int (p4 &&& (3 : Int32))), .val (.int x5), .val (.int x11), .unset, .unset, .unset, .unset, .unset, .unset, .unset, .unset, .unset, .unset, .unset, .unset, .unset, .unset, .unset, .unset] [(.int x5)])) t → Steps p.tables e below B0 t := fun t k => K12 t (by
    refine Own.istore X12 hx #[.val (.int p0), .val (.int p1), .val (.long q2), .second, .val (.long q3), .second, .val (.int p4), .val (.int (p4 &&& (3 : Int32))), .val (.int x5), .val (.int x11), .unset, .unset, .unset, .unset, .unset, .unset, .unset, .unset, .unset, .unset, .unset, .unset, .unset, .unset, .unset, .unset] (hb hby at_36) rfl ?_
    refine Own.iload X12 hx (hb hby at_38) rfl ?_
    exact k)
  obtain ⟨x17, hx17⟩ : ∃ z : Int32, z = (if x5 = (0 : Int32) then ((p4 >>> ((2 : Int32) &&& 31)) &&& (3 : Int32)) else (p4 &&& (3 : Int32))) := ⟨_, rfl⟩
  obtain ⟨T18, X18, e18, K18⟩ : ∃ T' : State, Stand p l e room_1 (s.setVm s.vm) m #[(.int p0), (.int p1), (.long q2), (.long q3), (.int p4)] below meth c T' [] 0 0 ∧ T'.heap = h0 ∧ ∀ t, Steps p.tables e below (T'.setTop (mkF m 54 #[.val (.int p0), .val (.int p1), .val (.long q2), .second, .val (.long q3), .second, .val (.int p4), .val (.int (p4 &&& (3 : Int32))), .val (.int x5), .val (.int x11), .unset, .unset, .unset, .unset, .unset, .unset, .unset, .unset, .unset, .unset, .unset, .unset, .unset, .unset, .unset, .unset] [(.int x17)])) t → Steps p.tables e below B0 t := by
    by_cases hc14 : x5 = (0 : Int32)
    · have K15 : ∀ t, Steps p.tables e below (T12.setTop (mkF m 54 #[.val (.int p0), .val (.int p1), .val (.long q2), .second, .val (.long q3), .second, .val (.int p4), .val (.int (p4 &&& (3 : Int32))), .val (.int x5), .val (.int x11), .unset, .unset, .unset, .unset, .unset, .unset, .unset, .unset, .unset, .unset, .unset, .unset, .unset, .unset, .unset, .unset] [(.int ((p4 >>> ((2 : Int32) &&& 31)) &&& (3 : Int32)))])) t → Steps p.tables e below B0 t := fun t k => K13 t (by
        refine Own.ifYes X12 hx 48 (hb hby at_40) ((if0 _ _).trans (teq hc14).1) (by decide) (by decide) ?_
        refine Own.iload X12 hx (hb hby at_48) rfl ?_
        refine Own.iconst X12 hx (2 : Int32) (hb hby at_50) rfl ?_
        refine Own.ishr X12 hx (hb hby at_51) ?_
        refine Own.iconst X12 hx (3 : Int32) (hb hby at_52) rfl ?_
        refine Own.iand X12 hx (hb hby at_53) ?_
        exact k)
      exact ⟨T12, X12, e12, fun t k => K15 t (by rw [hx17, if_pos hc14] at k; exact k)⟩
    · have K16 : ∀ t, Steps p.tables e below (T12.setTop (mkF m 54 #[.val (.int p0), .val (.int p1), .val (.long q2), .second, .val (.long q3), .second, .val (.int p4), .val (.int (p4 &&& (3 : Int32))), .val (.int x5), .val (.int x11), .unset, .unset, .unset, .unset, .unset, .unset, .unset, .unset, .unset, .unset, .unset, .unset, .unset, .unset, .unset, .unset] [(.int (p4 &&& (3 : Int32)))])) t → Steps p.tables e below B0 t := fun t k => K13 t (by
        refine Own.ifNo X12 hx (hb hby at_40) ((if0 _ _).trans (feq hc14).1) ?_
        refine Own.iload X12 hx (hb hby at_43) rfl ?_
        refine Own.goto X12 hx 54 (hb hby at_45) (by decide) (by decide) ?_
        exact k)
      exact ⟨T12, X12, e12, fun t k => K16 t (by rw [hx17, if_neg hc14] at k; exact k)⟩
  obtain ⟨x19, hx19⟩ : ∃ z : Int32, z = (((p0.toUInt32 >>> ((8 : Int32) &&& 31).toUInt32).toInt32) &&& (255 : Int32)) := ⟨_, rfl⟩
  obtain ⟨x20, hx20⟩ : ∃ z : Int32, z = (((p0.toUInt32 >>> ((16 : Int32) &&& 31).toUInt32).toInt32) &&& (255 : Int32)) := ⟨_, rfl⟩
  have K21 : ∀ t, Steps p.tables e below (T18.setTop (mkF m 85 #[.val (.int p0), .val (.int p1), .val (.long q2), .second, .val (.long q3), .second, .val (.int p4), .val (.int (p4 &&& (3 : Int32))), .val (.int x5), .val (.int x11), .val (.int x17), .val (.int (p0 &&& (255 : Int32))), .val (.int x19), .val (.int x20), .unset, .unset, .unset, .unset, .unset, .unset, .unset, .unset, .unset, .unset, .unset, .unset] [(.int x5)])) t → Steps p.tables e below B0 t := fun t k => K18 t (by
    subst hx20 hx19
    refine Own.istore X18 hx #[.val (.int p0), .val (.int p1), .val (.long q2), .second, .val (.long q3), .second, .val (.int p4), .val (.int (p4 &&& (3 : Int32))), .val (.int x5), .val (.int x11), .val (.int x17), .unset, .unset, .unset, .unset, .unset, .unset, .unset, .unset, .unset, .unset, .unset, .unset, .unset, .unset, .unset] (hb hby at_54) rfl ?_
    refine Own.iloadN X18 hx (hb hby at_56) rfl ?_
    refine Own.sipush X18 hx (255 : Int32) (hb hby at_57) rfl ?_
    refine Own.iand X18 hx (hb hby at_60) ?_
    refine Own.istore X18 hx #[.val (.int p0), .val (.int p1), .val (.long q2), .second, .val (.long q3), .second, .val (.int p4), .val (.int (p4 &&& (3 : Int32))), .val (.int x5), .val (.int x11), .val (.int x17), .val (.int (p0 &&& (255 : Int32))), .unset, .unset, .unset, .unset, .unset, .unset, .unset, .unset, .unset, .unset, .unset, .unset, .unset, .unset] (hb hby at_61) rfl ?_
    refine Own.iloadN X18 hx (hb hby at_63) rfl ?_
    refine Own.bipush X18 hx (8 : Int32) (hb hby at_64) rfl ?_
    refine Own.iushr X18 hx (hb hby at_66) ?_
    refine Own.sipush X18 hx (255 : Int32) (hb hby at_67) rfl ?_
    refine Own.iand X18 hx (hb hby at_70) ?_
    refine Own.istore X18 hx #[.val (.int p0), .val (.int p1), .val (.long q2), .second, .val (.long q3), .second, .val (.int p4), .val (.int (p4 &&& (3 : Int32))), .val (.int x5), .val (.int x11), .val (.int x17), .val (.int (p0 &&& (255 : Int32))), .val (.int (((p0.toUInt32 >>> ((8 : Int32) &&& 31).toUInt32).toInt32) &&& (255 : Int32))), .unset, .unset, .unset, .unset, .unset, .unset, .unset, .unset, .unset, .unset, .unset, .unset, .unset] (hb hby at_71) rfl ?_
    refine Own.iloadN X18 hx (hb hby at_73) rfl ?_
    refine Own.bipush X18 hx (16 : Int32) (hb hby at_74) rfl ?_
    refine Own.iushr X18 hx (hb hby at_76) ?_
    refine Own.sipush X18 hx (255 : Int32) (hb hby at_77) rfl ?_
    refine Own.iand X18 hx (hb hby at_80) ?_
    refine Own.istore X18 hx #[.val (.int p0), .val (.int p1), .val (.long q2), .second, .val (.long q3), .second, .val (.int p4), .val (.int (p4 &&& (3 : Int32))), .val (.int x5), .val (.int x11), .val (.int x17), .val (.int (p0 &&& (255 : Int32))), .val (.int (((p0.toUInt32 >>> ((8 : Int32) &&& 31).toUInt32).toInt32) &&& (255 : Int32))), .val (.int (((p0.toUInt32 >>> ((16 : Int32) &&& 31).toUInt32).toInt32) &&& (255 : Int32))), .unset, .unset, .unset, .unset, .unset, .unset, .unset, .unset, .unset, .unset, .unset, .unset] (hb hby at_81) rfl ?_
    refine Own.iload X18 hx (hb hby at_83) rfl ?_
    exact k)
  obtain ⟨x25, hx25⟩ : ∃ z : Int32, z = (if x5 = (0 : Int32) then (p1 &&& (255 : Int32)) else (0 : Int32)) := ⟨_, rfl⟩
  obtain ⟨T26, X26, e26, K26⟩ : ∃ T' : State, Stand p l e room_1 (s.setVm s.vm) m #[(.int p0), (.int p1), (.long q2), (.long q3), (.int p4)] below meth c T' [] 0 0 ∧ T'.heap = h0 ∧ ∀ t, Steps p.tables e below (T'.setTop (mkF m 97 #[.val (.int p0), .val (.int p1), .val (.long q2), .second, .val (.long q3), .second, .val (.int p4), .val (.int (p4 &&& (3 : Int32))), .val (.int x5), .val (.int x11), .val (.int x17), .val (.int (p0 &&& (255 : Int32))), .val (.int x19), .val (.int x20), .unset, .unset, .unset, .unset, .unset, .unset, .unset, .unset, .unset, .unset, .unset, .unset] [(.int x25)])) t → Steps p.tables e below B0 t := by
    by_cases hc22 : x5 = (0 : Int32)
    · have K23 : ∀ t, Steps p.tables e below (T18.setTop (mkF m 97 #[.val (.int p0), .val (.int p1), .val (.long q2), .second, .val (.long q3), .second, .val (.int p4), .val (.int (p4 &&& (3 : Int32))), .val (.int x5), .val (.int x11), .val (.int x17), .val (.int (p0 &&& (255 : Int32))), .val (.int x19), .val (.int x20), .unset, .unset, .unset, .unset, .unset, .unset, .unset, .unset, .unset, .unset, .unset, .unset] [(.int (p1 &&& (255 : Int32)))])) t → Steps p.tables e below B0 t := fun t k => K21 t (by
        refine Own.ifYes X18 hx 92 (hb hby at_85) ((if0 _ _).trans (teq hc22).1) (by decide) (by decide) ?_
        refine Own.iloadN X18 hx (hb hby at_92) rfl ?_
        refine Own.sipush X18 hx (255 : Int32) (hb hby at_93) rfl ?_
        refine Own.iand X18 hx (hb hby at_96) ?_
        exact k)
      exact ⟨T18, X18, e18, fun t k => K23 t (by rw [hx25, if_pos hc22] at k; exact k)⟩
    · have K24 : ∀ t, Steps p.tables e below (T18.setTop (mkF m 97 #[.val (.int p0), .val (.int p1), .val (.long q2), .second, .val (.long q3), .second, .val (.int p4), .val (.int (p4 &&& (3 : Int32))), .val (.int x5), .val (.int x11), .val (.int x17), .val (.int (p0 &&& (255 : Int32))), .val (.int x19), .val (.int x20), .unset, .unset, .unset, .unset, .unset, .unset, .unset, .unset, .unset, .unset, .unset, .unset] [(.int (0 : Int32))])) t → Steps p.tables e below B0 t := fun t k => K21 t (by
        refine Own.ifNo X18 hx (hb hby at_85) ((if0 _ _).trans (feq hc22).1) ?_
        refine Own.iconst X18 hx (0 : Int32) (hb hby at_88) rfl ?_
        refine Own.goto X18 hx 97 (hb hby at_89) (by decide) (by decide) ?_
        exact k)
      exact ⟨T18, X18, e18, fun t k => K24 t (by rw [hx25, if_neg hc22] at k; exact k)⟩
  have K27 : ∀ t, Steps p.tables e below (T26.setTop (mkF m 101 #[.val (.int p0), .val (.int p1), .val (.long q2), .second, .val (.long q3), .second, .val (.int p4), .val (.int (p4 &&& (3 : Int32))), .val (.int x5), .val (.int x11), .val (.int x17), .val (.int (p0 &&& (255 : Int32))), .val (.int x19), .val (.int x20), .val (.int x25), .unset, .unset, .unset, .unset, .unset, .unset, .unset, .unset, .unset, .unset, .unset] [(.int x5)])) t → Steps p.tables e below B0 t := fun t k => K26 t (by
    refine Own.istore X26 hx #[.val (.int p0), .val (.int p1), .val (.long q2), .second, .val (.long q3), .second, .val (.int p4), .val (.int (p4 &&& (3 : Int32))), .val (.int x5), .val (.int x11), .val (.int x17), .val (.int (p0 &&& (255 : Int32))), .val (.int x19), .val (.int x20), .val (.int x25), .unset, .unset, .unset, .unset, .unset, .unset, .unset, .unset, .unset, .unset, .unset] (hb hby at_97) rfl ?_
    refine Own.iload X26 hx (hb hby at_99) rfl ?_
    exact k)
  obtain ⟨x31, hx31⟩ : ∃ z : Int32, z = (if x5 = (0 : Int32) then (((p1.toUInt32 >>> ((8 : Int32) &&& 31).toUInt32).toInt32) &&& (255 : Int32)) else (0 : Int32)) := ⟨_, rfl⟩
  obtain ⟨T32, X32, e32, K32⟩ : ∃ T' : State, Stand p l e room_1 (s.setVm s.vm) m #[(.int p0), (.int p1), (.long q2), (.long q3), (.int p4)] below meth c T' [] 0 0 ∧ T'.heap = h0 ∧ ∀ t, Steps p.tables e below (T'.setTop (mkF m 116 #[.val (.int p0), .val (.int p1), .val (.long q2), .second, .val (.long q3), .second, .val (.int p4), .val (.int (p4 &&& (3 : Int32))), .val (.int x5), .val (.int x11), .val (.int x17), .val (.int (p0 &&& (255 : Int32))), .val (.int x19), .val (.int x20), .val (.int x25), .unset, .unset, .unset, .unset, .unset, .unset, .unset, .unset, .unset, .unset, .unset] [(.int x31)])) t → Steps p.tables e below B0 t := by
    by_cases hc28 : x5 = (0 : Int32)
    · have K29 : ∀ t, Steps p.tables e below (T26.setTop (mkF m 116 #[.val (.int p0), .val (.int p1), .val (.long q2), .second, .val (.long q3), .second, .val (.int p4), .val (.int (p4 &&& (3 : Int32))), .val (.int x5), .val (.int x11), .val (.int x17), .val (.int (p0 &&& (255 : Int32))), .val (.int x19), .val (.int x20), .val (.int x25), .unset, .unset, .unset, .unset, .unset, .unset, .unset, .unset, .unset, .unset, .unset] [(.int (((p1.toUInt32 >>> ((8 : Int32) &&& 31).toUInt32).toInt32) &&& (255 : Int32)))])) t → Steps p.tables e below B0 t := fun t k => K27 t (by
        refine Own.ifYes X26 hx 108 (hb hby at_101) ((if0 _ _).trans (teq hc28).1) (by decide) (by decide) ?_
        refine Own.iloadN X26 hx (hb hby at_108) rfl ?_
        refine Own.bipush X26 hx (8 : Int32) (hb hby at_109) rfl ?_
        refine Own.iushr X26 hx (hb hby at_111) ?_
        refine Own.sipush X26 hx (255 : Int32) (hb hby at_112) rfl ?_
        refine Own.iand X26 hx (hb hby at_115) ?_
        exact k)
      exact ⟨T26, X26, e26, fun t k => K29 t (by rw [hx31, if_pos hc28] at k; exact k)⟩
    · have K30 : ∀ t, Steps p.tables e below (T26.setTop (mkF m 116 #[.val (.int p0), .val (.int p1), .val (.long q2), .second, .val (.long q3), .second, .val (.int p4), .val (.int (p4 &&& (3 : Int32))), .val (.int x5), .val (.int x11), .val (.int x17), .val (.int (p0 &&& (255 : Int32))), .val (.int x19), .val (.int x20), .val (.int x25), .unset, .unset, .unset, .unset, .unset, .unset, .unset, .unset, .unset, .unset, .unset] [(.int (0 : Int32))])) t → Steps p.tables e below B0 t := fun t k => K27 t (by
        refine Own.ifNo X26 hx (hb hby at_101) ((if0 _ _).trans (feq hc28).1) ?_
        refine Own.iconst X26 hx (0 : Int32) (hb hby at_104) rfl ?_
        refine Own.goto X26 hx 116 (hb hby at_105) (by decide) (by decide) ?_
        exact k)
      exact ⟨T26, X26, e26, fun t k => K30 t (by rw [hx31, if_neg hc28] at k; exact k)⟩
  have K33 : ∀ t, Steps p.tables e below (T32.setTop (mkF m 120 #[.val (.int p0), .val (.int p1), .val (.long q2), .second, .val (.long q3), .second, .val (.int p4), .val (.int (p4 &&& (3 : Int32))), .val (.int x5), .val (.int x11), .val (.int x17), .val (.int (p0 &&& (255 : Int32))), .val (.int x19), .val (.int x20), .val (.int x25), .val (.int x31), .unset, .unset, .unset, .unset, .unset, .unset, .unset, .unset, .unset, .unset] [(.int x5)])) t → Steps p.tables e below B0 t := fun t k => K32 t (by
    refine Own.istore X32 hx #[.val (.int p0), .val (.int p1), .val (.long q2), .second, .val (.long q3), .second, .val (.int p4), .val (.int (p4 &&& (3 : Int32))), .val (.int x5), .val (.int x11), .val (.int x17), .val (.int (p0 &&& (255 : Int32))), .val (.int x19), .val (.int x20), .val (.int x25), .val (.int x31), .unset, .unset, .unset, .unset, .unset, .unset, .unset, .unset, .unset, .unset] (hb hby at_116) rfl ?_
    refine Own.iload X32 hx (hb hby at_118) rfl ?_
    exact k)
  obtain ⟨x37, hx37⟩ : ∃ z : Int32, z = (if x5 = (0 : Int32) then (((p1.toUInt32 >>> ((16 : Int32) &&& 31).toUInt32).toInt32) &&& (255 : Int32)) else (0 : Int32)) := ⟨_, rfl⟩
  obtain ⟨T38, X38, e38, K38⟩ : ∃ T' : State, Stand p l e room_1 (s.setVm s.vm) m #[(.int p0), (.int p1), (.long q2), (.long q3), (.int p4)] below meth c T' [] 0 0 ∧ T'.heap = h0 ∧ ∀ t, Steps p.tables e below (T'.setTop (mkF m 135 #[.val (.int p0), .val (.int p1), .val (.long q2), .second, .val (.long q3), .second, .val (.int p4), .val (.int (p4 &&& (3 : Int32))), .val (.int x5), .val (.int x11), .val (.int x17), .val (.int (p0 &&& (255 : Int32))), .val (.int x19), .val (.int x20), .val (.int x25), .val (.int x31), .unset, .unset, .unset, .unset, .unset, .unset, .unset, .unset, .unset, .unset] [(.int x37)])) t → Steps p.tables e below B0 t := by
    by_cases hc34 : x5 = (0 : Int32)
    · have K35 : ∀ t, Steps p.tables e below (T32.setTop (mkF m 135 #[.val (.int p0), .val (.int p1), .val (.long q2), .second, .val (.long q3), .second, .val (.int p4), .val (.int (p4 &&& (3 : Int32))), .val (.int x5), .val (.int x11), .val (.int x17), .val (.int (p0 &&& (255 : Int32))), .val (.int x19), .val (.int x20), .val (.int x25), .val (.int x31), .unset, .unset, .unset, .unset, .unset, .unset, .unset, .unset, .unset, .unset] [(.int (((p1.toUInt32 >>> ((16 : Int32) &&& 31).toUInt32).toInt32) &&& (255 : Int32)))])) t → Steps p.tables e below B0 t := fun t k => K33 t (by
        refine Own.ifYes X32 hx 127 (hb hby at_120) ((if0 _ _).trans (teq hc34).1) (by decide) (by decide) ?_
        refine Own.iloadN X32 hx (hb hby at_127) rfl ?_
        refine Own.bipush X32 hx (16 : Int32) (hb hby at_128) rfl ?_
        refine Own.iushr X32 hx (hb hby at_130) ?_
        refine Own.sipush X32 hx (255 : Int32) (hb hby at_131) rfl ?_
        refine Own.iand X32 hx (hb hby at_134) ?_
        exact k)
      exact ⟨T32, X32, e32, fun t k => K35 t (by rw [hx37, if_pos hc34] at k; exact k)⟩
    · have K36 : ∀ t, Steps p.tables e below (T32.setTop (mkF m 135 #[.val (.int p0), .val (.int p1), .val (.long q2), .second, .val (.long q3), .second, .val (.int p4), .val (.int (p4 &&& (3 : Int32))), .val (.int x5), .val (.int x11), .val (.int x17), .val (.int (p0 &&& (255 : Int32))), .val (.int x19), .val (.int x20), .val (.int x25), .val (.int x31), .unset, .unset, .unset, .unset, .unset, .unset, .unset, .unset, .unset, .unset] [(.int (0 : Int32))])) t → Steps p.tables e below B0 t := fun t k => K33 t (by
        refine Own.ifNo X32 hx (hb hby at_120) ((if0 _ _).trans (feq hc34).1) ?_
        refine Own.iconst X32 hx (0 : Int32) (hb hby at_123) rfl ?_
        refine Own.goto X32 hx 135 (hb hby at_124) (by decide) (by decide) ?_
        exact k)
      exact ⟨T32, X32, e32, fun t k => K36 t (by rw [hx37, if_neg hc34] at k; exact k)⟩
  have ok39 : own_ok ((p0 &&& (255 : Int32)).toUInt32.toUInt16.toUInt32.toInt32) := by subst hx37; subst hx31; subst hx25; subst hx20; subst hx19; subst hx17; subst hx11; subst hx5; exact own_okc (by first | exact own_b8i _ | exact own_x8 (own_b8i _) (own_x3 _ _))
  have ok40 : own_ok (x19.toUInt32.toUInt16.toUInt32.toInt32) := by subst hx37; subst hx31; subst hx25; subst hx20; subst hx19; subst hx17; subst hx11; subst hx5; exact own_okc (by first | exact own_b8i _ | exact own_x8 (own_b8i _) (own_x3 _ _))
  have ok41 : own_ok (x20.toUInt32.toUInt16.toUInt32.toInt32) := by subst hx37; subst hx31; subst hx25; subst hx20; subst hx19; subst hx17; subst hx11; subst hx5; exact own_okc (by first | exact own_b8i _ | exact own_x8 (own_b8i _) (own_x3 _ _))
  have K42 : ∀ t, Steps p.tables e below (T38.setTop (mkF m 148 #[.val (.int p0), .val (.int p1), .val (.long q2), .second, .val (.long q3), .second, .val (.int p4), .val (.int (p4 &&& (3 : Int32))), .val (.int x5), .val (.int x11), .val (.int x17), .val (.int (p0 &&& (255 : Int32))), .val (.int x19), .val (.int x20), .val (.int x25), .val (.int x31), .val (.int x37), .unset, .unset, .unset, .unset, .unset, .unset, .unset, .unset, .unset] [(.int (x20.toUInt32.toUInt16.toUInt32.toInt32)), (.int (x19.toUInt32.toUInt16.toUInt32.toInt32)), (.int ((p0 &&& (255 : Int32)).toUInt32.toUInt16.toUInt32.toInt32)), (.int (p4 &&& (3 : Int32)))])) t → Steps p.tables e below B0 t := fun t k => K38 t (by
    refine Own.istore X38 hx #[.val (.int p0), .val (.int p1), .val (.long q2), .second, .val (.long q3), .second, .val (.int p4), .val (.int (p4 &&& (3 : Int32))), .val (.int x5), .val (.int x11), .val (.int x17), .val (.int (p0 &&& (255 : Int32))), .val (.int x19), .val (.int x20), .val (.int x25), .val (.int x31), .val (.int x37), .unset, .unset, .unset, .unset, .unset, .unset, .unset, .unset, .unset] (hb hby at_135) rfl ?_
    refine Own.iload X38 hx (hb hby at_137) rfl ?_
    refine Own.iload X38 hx (hb hby at_139) rfl ?_
    refine Own.i2c X38 hx (hb hby at_141) ?_
    refine Own.iload X38 hx (hb hby at_142) rfl ?_
    refine Own.i2c X38 hx (hb hby at_144) ?_
    refine Own.iload X38 hx (hb hby at_145) rfl ?_
    refine Own.i2c X38 hx (hb hby at_147) ?_
    exact k)
  obtain ⟨vm43, T43, h43, v43, J43, L43, X43, e43, D43, mm43, n43, hQ43, st43⟩ := Own.callHW (Ls := #[.val (.int p0), .val (.int p1), .val (.long q2), .second, .val (.long q3), .second, .val (.int p4), .val (.int (p4 &&& (3 : Int32))), .val (.int x5), .val (.int x11), .val (.int x17), .val (.int (p0 &&& (255 : Int32))), .val (.int x19), .val (.int x20), .val (.int x25), .val (.int x31), .val (.int x37), .unset, .unset, .unset, .unset, .unset, .unset, .unset, .unset, .unset]) X38 hx (own_hEL hw) D0 e38 [(.int (p4 &&& (3 : Int32))), (.int ((p0 &&& (255 : Int32)).toUInt32.toUInt16.toUInt32.toInt32)), (.int (x19.toUInt32.toUInt16.toUInt32.toInt32)), (.int (x20.toUInt32.toUInt16.toUInt32.toInt32))] [] (c1 l Z a0 hw (p4 &&& (3 : Int32)) ((p0 &&& (255 : Int32)).toUInt32.toUInt16.toUInt32.toInt32) (x19.toUInt32.toUInt16.toUInt32.toInt32) (x20.toUInt32.toUInt16.toUInt32.toInt32) n0 G1 h0 (Nat.le_trans Z0 (Nat.le_refl _)) ok39 ok40 ok41 SC hG1) (hw _ (List.mem_of_getElem? (i := 0) rfl)) (hw _ (List.mem_of_getElem? (i := 1) rfl)) (hw _ (List.mem_of_getElem? (i := 2) rfl)) (hw _ (List.mem_of_getElem? (i := 3) rfl)) (by decide) 0 (by decide) (by decide) (by decide) (by decide) (by rw [hml]; rfl) (lenOf pd_4 rfl) rfl (Nat.le_of_eq rfl) (hb hby at_148)
  have X43 : Stand p l e room_1 (s.setVm vm43) m #[(.int p0), (.int p1), (.long q2), (.long q3), (.int p4)] below meth c T43 L43 8 20 := X43
  obtain ⟨bs43, rfl, NN43, K43, t43⟩ := hQ43
  have N43 : Fr n0 L43 := n43 n0 (Fr.nil _) NN43
  have m44 : h0.size ≤ h43.size := K43.1
  have K45 : ∀ t, Steps p.tables e below (T43.setTop (mkF m 151 #[.val (.int p0), .val (.int p1), .val (.long q2), .second, .val (.long q3), .second, .val (.int p4), .val (.int (p4 &&& (3 : Int32))), .val (.int x5), .val (.int x11), .val (.int x17), .val (.int (p0 &&& (255 : Int32))), .val (.int x19), .val (.int x20), .val (.int x25), .val (.int x31), .val (.int x37), .unset, .unset, .unset, .unset, .unset, .unset, .unset, .unset, .unset] [(.ref bs43)])) t → Steps p.tables e below B0 t := fun t k => K42 t (st43 t k)
  have f46 := (SC.ext (Own.Ext.keep (Own.Ext.refl _) K43 all0))
  have ok47 : own_ok (((p0 &&& (255 : Int32)) ^^^ x25).toUInt32.toUInt16.toUInt32.toInt32) := by subst hx37; subst hx31; subst hx25; subst hx20; subst hx19; subst hx17; subst hx11; subst hx5; exact own_okc (by first | exact own_b8i _ | exact own_x8 (own_b8i _) (own_x3 _ _))
  have ok48 : own_ok ((x19 ^^^ x31).toUInt32.toUInt16.toUInt32.toInt32) := by subst hx37; subst hx31; subst hx25; subst hx20; subst hx19; subst hx17; subst hx11; subst hx5; exact own_okc (by first | exact own_b8i _ | exact own_x8 (own_b8i _) (own_x3 _ _))
  have ok49 : own_ok ((x20 ^^^ x37).toUInt32.toUInt16.toUInt32.toInt32) := by subst hx37; subst hx31; subst hx25; subst hx20; subst hx19; subst hx17; subst hx11; subst hx5; exact own_okc (by first | exact own_b8i _ | exact own_x8 (own_b8i _) (own_x3 _ _))
  have K50 : ∀ t, Steps p.tables e below (T43.setTop (mkF m 173 #[.val (.int p0), .val (.int p1), .val (.long q2), .second, .val (.long q3), .second, .val (.int p4), .val (.int (p4 &&& (3 : Int32))), .val (.int x5), .val (.int x11), .val (.int x17), .val (.int (p0 &&& (255 : Int32))), .val (.int x19), .val (.int x20), .val (.int x25), .val (.int x31), .val (.int x37), .val (.ref bs43), .unset, .unset, .unset, .unset, .unset, .unset, .unset, .unset] [(.int ((x20 ^^^ x37).toUInt32.toUInt16.toUInt32.toInt32)), (.int ((x19 ^^^ x31).toUInt32.toUInt16.toUInt32.toInt32)), (.int (((p0 &&& (255 : Int32)) ^^^ x25).toUInt32.toUInt16.toUInt32.toInt32)), (.int x17)])) t → Steps p.tables e below B0 t := fun t k => K45 t (by
    refine Own.astore X43 hx #[.val (.int p0), .val (.int p1), .val (.long q2), .second, .val (.long q3), .second, .val (.int p4), .val (.int (p4 &&& (3 : Int32))), .val (.int x5), .val (.int x11), .val (.int x17), .val (.int (p0 &&& (255 : Int32))), .val (.int x19), .val (.int x20), .val (.int x25), .val (.int x31), .val (.int x37), .val (.ref bs43), .unset, .unset, .unset, .unset, .unset, .unset, .unset, .unset] (hb hby at_151) rfl rfl ?_
    refine Own.iload X43 hx (hb hby at_153) rfl ?_
    refine Own.iload X43 hx (hb hby at_155) rfl ?_
    refine Own.iload X43 hx (hb hby at_157) rfl ?_
    refine Own.ixor X43 hx (hb hby at_159) ?_
    refine Own.i2c X43 hx (hb hby at_160) ?_
    refine Own.iload X43 hx (hb hby at_161) rfl ?_
    refine Own.iload X43 hx (hb hby at_163) rfl ?_
    refine Own.ixor X43 hx (hb hby at_165) ?_
    refine Own.i2c X43 hx (hb hby at_166) ?_
    refine Own.iload X43 hx (hb hby at_167) rfl ?_
    refine Own.iload X43 hx (hb hby at_169) rfl ?_
    refine Own.ixor X43 hx (hb hby at_171) ?_
    refine Own.i2c X43 hx (hb hby at_172) ?_
    exact k)
  obtain ⟨vm51, T51, h51, v51, J51, L51, X51, e51, D51, mm51, n51, hQ51, st51⟩ := Own.callHW (Ls := #[.val (.int p0), .val (.int p1), .val (.long q2), .second, .val (.long q3), .second, .val (.int p4), .val (.int (p4 &&& (3 : Int32))), .val (.int x5), .val (.int x11), .val (.int x17), .val (.int (p0 &&& (255 : Int32))), .val (.int x19), .val (.int x20), .val (.int x25), .val (.int x31), .val (.int x37), .val (.ref bs43), .unset, .unset, .unset, .unset, .unset, .unset, .unset, .unset]) X43 hx (own_hEL hw) D43 e43 [(.int x17), (.int (((p0 &&& (255 : Int32)) ^^^ x25).toUInt32.toUInt16.toUInt32.toInt32)), (.int ((x19 ^^^ x31).toUInt32.toUInt16.toUInt32.toInt32)), (.int ((x20 ^^^ x37).toUInt32.toUInt16.toUInt32.toInt32))] [] (c1 l Z a0 hw x17 (((p0 &&& (255 : Int32)) ^^^ x25).toUInt32.toUInt16.toUInt32.toInt32) ((x19 ^^^ x31).toUInt32.toUInt16.toUInt32.toInt32) ((x20 ^^^ x37).toUInt32.toUInt16.toUInt32.toInt32) n0 G1 h43 (Nat.le_trans Z0 m44) ok47 ok48 ok49 f46 hG1) (hw _ (List.mem_of_getElem? (i := 0) rfl)) (hw _ (List.mem_of_getElem? (i := 1) rfl)) (hw _ (List.mem_of_getElem? (i := 2) rfl)) (hw _ (List.mem_of_getElem? (i := 3) rfl)) (by decide) 0 (by decide) (by decide) (by decide) (by decide) (by rw [hml]; rfl) (lenOf pd_4 rfl) rfl (Nat.le_of_eq rfl) (hb hby at_173)
  have X51 : Stand p l e room_1 (s.setVm vm51) m #[(.int p0), (.int p1), (.long q2), (.long q3), (.int p4)] below meth c T51 L51 16 40 := X51
  obtain ⟨bs51, rfl, NN51, K51, t51⟩ := hQ51
  have N51 : Fr n0 L51 := n51 n0 N43 NN51
  have m52 : h43.size ≤ h51.size := K51.1
  have K53 : ∀ t, Steps p.tables e below (T51.setTop (mkF m 176 #[.val (.int p0), .val (.int p1), .val (.long q2), .second, .val (.long q3), .second, .val (.int p4), .val (.int (p4 &&& (3 : Int32))), .val (.int x5), .val (.int x11), .val (.int x17), .val (.int (p0 &&& (255 : Int32))), .val (.int x19), .val (.int x20), .val (.int x25), .val (.int x31), .val (.int x37), .val (.ref bs43), .unset, .unset, .unset, .unset, .unset, .unset, .unset, .unset] [(.ref bs51)])) t → Steps p.tables e below B0 t := fun t k => K50 t (st51 t k)
  have K54 : ∀ t, Steps p.tables e below (T51.setTop (mkF m 180 #[.val (.int p0), .val (.int p1), .val (.long q2), .second, .val (.long q3), .second, .val (.int p4), .val (.int (p4 &&& (3 : Int32))), .val (.int x5), .val (.int x11), .val (.int x17), .val (.int (p0 &&& (255 : Int32))), .val (.int x19), .val (.int x20), .val (.int x25), .val (.int x31), .val (.int x37), .val (.ref bs43), .val (.ref bs51), .unset, .unset, .unset, .unset, .unset, .unset, .unset] [(.int x11)])) t → Steps p.tables e below B0 t := fun t k => K53 t (by
    refine Own.astore X51 hx #[.val (.int p0), .val (.int p1), .val (.long q2), .second, .val (.long q3), .second, .val (.int p4), .val (.int (p4 &&& (3 : Int32))), .val (.int x5), .val (.int x11), .val (.int x17), .val (.int (p0 &&& (255 : Int32))), .val (.int x19), .val (.int x20), .val (.int x25), .val (.int x31), .val (.int x37), .val (.ref bs43), .val (.ref bs51), .unset, .unset, .unset, .unset, .unset, .unset, .unset] (hb hby at_176) rfl rfl ?_
    refine Own.iload X51 hx (hb hby at_178) rfl ?_
    exact k)
  obtain ⟨x58, hx58⟩ : ∃ z : Int64, z = (if x11 = (0 : Int32) then (q2 ^^^ q3) else q2) := ⟨_, rfl⟩
  obtain ⟨T59, X59, e59, K59⟩ : ∃ T' : State, Stand p l e room_1 (s.setVm vm51) m #[(.int p0), (.int p1), (.long q2), (.long q3), (.int p4)] below meth c T' L51 16 40 ∧ T'.heap = h51 ∧ ∀ t, Steps p.tables e below (T'.setTop (mkF m 191 #[.val (.int p0), .val (.int p1), .val (.long q2), .second, .val (.long q3), .second, .val (.int p4), .val (.int (p4 &&& (3 : Int32))), .val (.int x5), .val (.int x11), .val (.int x17), .val (.int (p0 &&& (255 : Int32))), .val (.int x19), .val (.int x20), .val (.int x25), .val (.int x31), .val (.int x37), .val (.ref bs43), .val (.ref bs51), .unset, .unset, .unset, .unset, .unset, .unset, .unset] [(.long x58)])) t → Steps p.tables e below B0 t := by
    by_cases hc55 : x11 = (0 : Int32)
    · have K56 : ∀ t, Steps p.tables e below (T51.setTop (mkF m 191 #[.val (.int p0), .val (.int p1), .val (.long q2), .second, .val (.long q3), .second, .val (.int p4), .val (.int (p4 &&& (3 : Int32))), .val (.int x5), .val (.int x11), .val (.int x17), .val (.int (p0 &&& (255 : Int32))), .val (.int x19), .val (.int x20), .val (.int x25), .val (.int x31), .val (.int x37), .val (.ref bs43), .val (.ref bs51), .unset, .unset, .unset, .unset, .unset, .unset, .unset] [(.long (q2 ^^^ q3))])) t → Steps p.tables e below B0 t := fun t k => K54 t (by
        refine Own.ifYes X51 hx 187 (hb hby at_180) ((if0 _ _).trans (teq hc55).1) (by decide) (by decide) ?_
        refine Own.lloadN X51 hx (hb hby at_187) rfl ?_
        refine Own.lload X51 hx (hb hby at_188) rfl ?_
        refine Own.lxor X51 hx (hb hby at_190) ?_
        exact k)
      exact ⟨T51, X51, e51, fun t k => K56 t (by rw [hx58, if_pos hc55] at k; exact k)⟩
    · have K57 : ∀ t, Steps p.tables e below (T51.setTop (mkF m 191 #[.val (.int p0), .val (.int p1), .val (.long q2), .second, .val (.long q3), .second, .val (.int p4), .val (.int (p4 &&& (3 : Int32))), .val (.int x5), .val (.int x11), .val (.int x17), .val (.int (p0 &&& (255 : Int32))), .val (.int x19), .val (.int x20), .val (.int x25), .val (.int x31), .val (.int x37), .val (.ref bs43), .val (.ref bs51), .unset, .unset, .unset, .unset, .unset, .unset, .unset] [(.long q2)])) t → Steps p.tables e below B0 t := fun t k => K54 t (by
        refine Own.ifNo X51 hx (hb hby at_180) ((if0 _ _).trans (feq hc55).1) ?_
        refine Own.lloadN X51 hx (hb hby at_183) rfl ?_
        refine Own.goto X51 hx 191 (hb hby at_184) (by decide) (by decide) ?_
        exact k)
      exact ⟨T51, X51, e51, fun t k => K57 t (by rw [hx58, if_neg hc55] at k; exact k)⟩
  have K60 : ∀ t, Steps p.tables e below (T59.setTop (mkF m 193 #[.val (.int p0), .val (.int p1), .val (.long q2), .second, .val (.long q3), .second, .val (.int p4), .val (.int (p4 &&& (3 : Int32))), .val (.int x5), .val (.int x11), .val (.int x17), .val (.int (p0 &&& (255 : Int32))), .val (.int x19), .val (.int x20), .val (.int x25), .val (.int x31), .val (.int x37), .val (.ref bs43), .val (.ref bs51), .val (.long x58), .second, .unset, .unset, .unset, .unset, .unset] [])) t → Steps p.tables e below B0 t := fun t k => K59 t (by
    refine Own.lstore X59 hx #[.val (.int p0), .val (.int p1), .val (.long q2), .second, .val (.long q3), .second, .val (.int p4), .val (.int (p4 &&& (3 : Int32))), .val (.int x5), .val (.int x11), .val (.int x17), .val (.int (p0 &&& (255 : Int32))), .val (.int x19), .val (.int x20), .val (.int x25), .val (.int x31), .val (.int x37), .val (.ref bs43), .val (.ref bs51), .val (.long x58), .second, .unset, .unset, .unset, .unset, .unset] (hb hby at_191) rfl ?_
    exact k)
  obtain ⟨T61, h61, b61, X61, e61, E61, g61, A61, D61, st61⟩ := Own.newO (Ls := #[.val (.int p0), .val (.int p1), .val (.long q2), .second, .val (.long q3), .second, .val (.int p4), .val (.int (p4 &&& (3 : Int32))), .val (.int x5), .val (.int x11), .val (.int x17), .val (.int (p0 &&& (255 : Int32))), .val (.int x19), .val (.int x20), .val (.int x25), .val (.int x31), .val (.int x37), .val (.ref bs43), .val (.ref bs51), .val (.long x58), .second, .unset, .unset, .unset, .unset, .unset]) (S := []) X59 hx D51.hZ e59 D51.hown (hw _ (List.mem_of_getElem? (i := 37) rfl)) (hw _ (List.mem_of_getElem? (i := 38) rfl)) (hw _ (List.mem_of_getElem? (i := 39) rfl)) (hb hby at_193) (by decide) (by decide)
  have le_b61 : h51.size ≤ b61 := Nat.le_of_eq g61.symm
  have X61 : Stand p l e room_1 (s.setVm vm51) m #[(.int p0), (.int p1), (.long q2), (.long q3), (.int p4)] below meth c T61 L51 17 42 := X61
  have m62 : h51.size ≤ h61.size := E61.1
  have D62 := D51.ext E61
  have F61_home : Fld Z h61 b61 "com/example/cyclewarden/cyclewarden/site/TransactionId" "home" "Ljava/lang/String;" .null := D61 (Or.inr (hw _ (List.mem_of_getElem? (i := 50) rfl))) (ty := (.object "java/lang/String")) (by decide)
  have F61_start : Fld Z h61 b61 "com/example/cyclewarden/cyclewarden/site/TransactionId" "start" "J" (.long (0 : Int64)) := D61 (Or.inr (hw _ (List.mem_of_getElem? (i := 52) rfl))) (ty := .long) (by decide)
  have K63 : ∀ t, Steps p.tables e below (T61.setTop (mkF m 196 #[.val (.int p0), .val (.int p1), .val (.long q2), .second, .val (.long q3), .second, .val (.int p4), .val (.int (p4 &&& (3 : Int32))), .val (.int x5), .val (.int x11), .val (.int x17), .val (.int (p0 &&& (255 : Int32))), .val (.int x19), .val (.int x20), .val (.int x25), .val (.int x31), .val (.int x37), .val (.ref bs43), .val (.ref bs51), .val (.long x58), .second, .unset, .unset, .unset, .unset, .unset] [(.ref b61)])) t → Steps p.tables e below B0 t := fun t k => K60 t (st61 t k)
  have K64 : ∀ t, Steps p.tables e below (T61.setTop (mkF m 200 #[.val (.int p0), .val (.int p1), .val (.long q2), .second, .val (.long q3), .second, .val (.int p4), .val (.int (p4 &&& (3 : Int32))), .val (.int x5), .val (.int x11), .val (.int x17), .val (.int (p0 &&& (255 : Int32))), .val (.int x19), .val (.int x20), .val (.int x25), .val (.int x31), .val (.int x37), .val (.ref bs43), .val (.ref bs51), .val (.long x58), .second, .unset, .unset, .unset, .unset, .unset] [(.long q2), (.ref bs43), (.ref b61), (.ref b61)])) t → Steps p.tables e below B0 t := fun t k => K63 t (by
    refine Own.dup X61 hx (hb hby at_196) rfl ?_
    refine Own.aload X61 hx (hb hby at_197) rfl rfl ?_
    refine Own.lloadN X61 hx (hb hby at_199) rfl ?_
    exact k)
  obtain ⟨T65, h65, v65, J65, L65, X65, e65, n65, hQ65, st65⟩ := Own.callI (Ls := #[.val (.int p0), .val (.int p1), .val (.long q2), .second, .val (.long q3), .second, .val (.int p4), .val (.int (p4 &&& (3 : Int32))), .val (.int x5), .val (.int x11), .val (.int x17), .val (.int (p0 &&& (255 : Int32))), .val (.int x19), .val (.int x20), .val (.int x25), .val (.int x31), .val (.int x37), .val (.ref bs43), .val (.ref bs51), .val (.long x58), .second, .unset, .unset, .unset, .unset, .unset]) X61 hx D62.hZ e61 rfl b61 [(.ref bs43), (.long q2)] [(.ref b61)] (c8 l Z a0 hw b61 bs43 q2 n0 .null (.long (0 : Int64)) h61 (Nat.le_trans Z0 (Nat.le_trans (Nat.le_trans m44 m52) m62)) A61 F61_home F61_start (Nat.le_trans Z0 (Nat.le_trans (Nat.le_trans m44 m52) le_b61))) D62.hown (hw _ (List.mem_of_getElem? (i := 40) rfl)) (hw _ (List.mem_of_getElem? (i := 41) rfl)) (hw _ (List.mem_of_getElem? (i := 39) rfl)) (hw _ (List.mem_of_getElem? (i := 42) rfl)) (by decide) 1 (by decide) (by decide) (by decide) (by decide) (by rw [hml]; rfl) (lenOf pd_5 rfl) rfl (Nat.le_of_eq rfl) (hb hby at_200)
  have X65 : Stand p l e room_1 (s.setVm vm51) m #[(.int p0), (.int p1), (.long q2), (.long q3), (.int p4)] below meth c T65 L65 17 42 := X65
  obtain ⟨rfl, NN65, K65, E65, F65, G65⟩ := hQ65
  have N65 : Fr n0 L65 := n65 n0 N51 NN65
  have m66 : h61.size ≤ h65.size := K65.1
  have D66 := D62.keep K65 (sfS (Safe.exa D62.hZ.alike A61 (by decide) (by decide)) sf0)
  have K67 : ∀ t, Steps p.tables e below (T65.setTop (mkF m 203 #[.val (.int p0), .val (.int p1), .val (.long q2), .second, .val (.long q3), .second, .val (.int p4), .val (.int (p4 &&& (3 : Int32))), .val (.int x5), .val (.int x11), .val (.int x17), .val (.int (p0 &&& (255 : Int32))), .val (.int x19), .val (.int x20), .val (.int x25), .val (.int x31), .val (.int x37), .val (.ref bs43), .val (.ref bs51), .val (.long x58), .second, .unset, .unset, .unset, .unset, .unset] [(.ref b61)])) t → Steps p.tables e below B0 t := fun t k => K64 t (st65 t k)
  have K68 : ∀ t, Steps p.tables e below (T65.setTop (mkF m 205 #[.val (.int p0), .val (.int p1), .val (.long q2), .second, .val (.long q3), .second, .val (.int p4), .val (.int (p4 &&& (3 : Int32))), .val (.int x5), .val (.int x11), .val (.int x17), .val (.int (p0 &&& (255 : Int32))), .val (.int x19), .val (.int x20), .val (.int x25), .val (.int x31), .val (.int x37), .val (.ref bs43), .val (.ref bs51), .val (.long x58), .second, .val (.ref b61), .unset, .unset, .unset, .unset] [])) t → Steps p.tables e below B0 t := fun t k => K67 t (by
    refine Own.astore X65 hx #[.val (.int p0), .val (.int p1), .val (.long q2), .second, .val (.long q3), .second, .val (.int p4), .val (.int (p4 &&& (3 : Int32))), .val (.int x5), .val (.int x11), .val (.int x17), .val (.int (p0 &&& (255 : Int32))), .val (.int x19), .val (.int x20), .val (.int x25), .val (.int x31), .val (.int x37), .val (.ref bs43), .val (.ref bs51), .val (.long x58), .second, .val (.ref b61), .unset, .unset, .unset, .unset] (hb hby at_203) rfl rfl ?_
    exact k)
  obtain ⟨T69, h69, b69, X69, e69, E69, g69, A69, D69, st69⟩ := Own.newO (Ls := #[.val (.int p0), .val (.int p1), .val (.long q2), .second, .val (.long q3), .second, .val (.int p4), .val (.int (p4 &&& (3 : Int32))), .val (.int x5), .val (.int x11), .val (.int x17), .val (.int (p0 &&& (255 : Int32))), .val (.int x19), .val (.int x20), .val (.int x25), .val (.int x31), .val (.int x37), .val (.ref bs43), .val (.ref bs51), .val (.long x58), .second, .val (.ref b61), .unset, .unset, .unset, .unset]) (S := []) X65 hx D66.hZ e65 D66.hown (hw _ (List.mem_of_getElem? (i := 37) rfl)) (hw _ (List.mem_of_getElem? (i := 38) rfl)) (hw _ (List.mem_of_getElem? (i := 39) rfl)) (hb hby at_205) (by decide) (by decide)
  have le_b69 : h65.size ≤ b69 := Nat.le_of_eq g69.symm
  have X69 : Stand p l e room_1 (s.setVm vm51) m #[(.int p0), (.int p1), (.long q2), (.long q3), (.int p4)] below meth c T69 L65 18 44 := X69
  have m70 : h65.size ≤ h69.size := E69.1
  have D70 := D66.ext E69
  have F69_home : Fld Z h69 b69 "com/example/cyclewarden/cyclewarden/site/TransactionId" "home" "Ljava/lang/String;" .null := D69 (Or.inr (hw _ (List.mem_of_getElem? (i := 50) rfl))) (ty := (.object "java/lang/String")) (by decide)
  have F69_start : Fld Z h69 b69 "com/example/cyclewarden/cyclewarden/site/TransactionId" "start" "J" (.long (0 : Int64)) := D69 (Or.inr (hw _ (List.mem_of_getElem? (i := 52) rfl))) (ty := .long) (by decide)
  have K71 : ∀ t, Steps p.tables e below (T69.setTop (mkF m 208 #[.val (.int p0), .val (.int p1), .val (.long q2), .second, .val (.long q3), .second, .val (.int p4), .val (.int (p4 &&& (3 : Int32))), .val (.int x5), .val (.int x11), .val (.int x17), .val (.int (p0 &&& (255 : Int32))), .val (.int x19), .val (.int x20), .val (.int x25), .val (.int x31), .val (.int x37), .val (.ref bs43), .val (.ref bs51), .val (.long x58), .second, .val (.ref b61), .unset, .unset, .unset, .unset] [(.ref b69)])) t → Steps p.tables e below B0 t := fun t k => K68 t (st69 t k)
  have K72 : ∀ t, Steps p.tables e below (T69.setTop (mkF m 213 #[.val (.int p0), .val (.int p1), .val (.long q2), .second, .val (.long q3), .second, .val (.int p4), .val (.int (p4 &&& (3 : Int32))), .val (.int x5), .val (.int x11), .val (.int x17), .val (.int (p0 &&& (255 : Int32))), .val (.int x19), .val (.int x20), .val (.int x25), .val (.int x31), .val (.int x37), .val (.ref bs43), .val (.ref bs51), .val (.long x58), .second, .val (.ref b61), .unset, .unset, .unset, .unset] [(.long x58), (.ref bs51), (.ref b69), (.ref b69)])) t → Steps p.tables e below B0 t := fun t k => K71 t (by
    refine Own.dup X69 hx (hb hby at_208) rfl ?_
    refine Own.aload X69 hx (hb hby at_209) rfl rfl ?_
    refine Own.lload X69 hx (hb hby at_211) rfl ?_
    exact k)
  obtain ⟨T73, h73, v73, J73, L73, X73, e73, n73, hQ73, st73⟩ := Own.callI (Ls := #[.val (.int p0), .val (.int p1), .val (.long q2), .second, .val (.long q3), .second, .val (.int p4), .val (.int (p4 &&& (3 : Int32))), .val (.int x5), .val (.int x11), .val (.int x17), .val (.int (p0 &&& (255 : Int32))), .val (.int x19), .val (.int x20), .val (.int x25), .val (.int x31), .val (.int x37), .val (.ref bs43), .val (.ref bs51), .val (.long x58), .second, .val (.ref b61), .unset, .unset, .unset, .unset]) X69 hx D70.hZ e69 rfl b69 [(.ref bs51), (.long x58)] [(.ref b69)] (c8 l Z a0 hw b69 bs51 x58 n0 .null (.long (0 : Int64)) h69 (Nat.le_trans Z0 (Nat.le_trans (Nat.le_trans (Nat.le_trans (Nat.le_trans m44 m52) m62) m66) m70)) A69 F69_home F69_start (Nat.le_trans Z0 (Nat.le_trans (Nat.le_trans (Nat.le_trans (Nat.le_trans m44 m52) m62) m66) le_b69))) D70.hown (hw _ (List.mem_of_getElem? (i := 40) rfl)) (hw _ (List.mem_of_getElem? (i := 41) rfl)) (hw _ (List.mem_of_getElem? (i := 39) rfl)) (hw _ (List.mem_of_getElem? (i := 42) rfl)) (by decide) 1 (by decide) (by decide) (by decide) (by decide) (by rw [hml]; rfl) (lenOf pd_5 rfl) rfl (Nat.le_of_eq rfl) (hb hby at_213)
  have X73 : Stand p l e room_1 (s.setVm vm51) m #[(.int p0), (.int p1), (.long q2), (.long q3), (.int p4)] below meth c T73 L73 18 44 := X73
  obtain ⟨rfl, NN73, K73, E73, F73, G73⟩ := hQ73
  have N73 : Fr n0 L73 := n73 n0 N65 NN73
  have m74 : h69.size ≤ h73.size := K73.1
  have D74 := D70.keep K73 (sfS (Safe.exa D70.hZ.alike A69 (by decide) (by decide)) sf0)
  have K75 : ∀ t, Steps p.tables e below (T73.setTop (mkF m 216 #[.val (.int p0), .val (.int p1), .val (.long q2), .second, .val (.long q3), .second, .val (.int p4), .val (.int (p4 &&& (3 : Int32))), .val (.int x5), .val (.int x11), .val (.int x17), .val (.int (p0 &&& (255 : Int32))), .val (.int x19), .val (.int x20), .val (.int x25), .val (.int x31), .val (.int x37), .val (.ref bs43), .val (.ref bs51), .val (.long x58), .second, .val (.ref b61), .unset, .unset, .unset, .unset] [(.ref b69)])) t → Steps p.tables e below B0 t := fun t k => K72 t (st73 t k)
  have K76 : ∀ t, Steps p.tables e below (T73.setTop (mkF m 222 #[.val (.int p0), .val (.int p1), .val (.long q2), .second, .val (.long q3), .second, .val (.int p4), .val (.int (p4 &&& (3 : Int32))), .val (.int x5), .val (.int x11), .val (.int x17), .val (.int (p0 &&& (255 : Int32))), .val (.int x19), .val (.int x20), .val (.int x25), .val (.int x31), .val (.int x37), .val (.ref bs43), .val (.ref bs51), .val (.long x58), .second, .val (.ref b61), .val (.ref b69), .unset, .unset, .unset] [(.int x17), (.int (p4 &&& (3 : Int32)))])) t → Steps p.tables e below B0 t := fun t k => K75 t (by
    refine Own.astore X73 hx #[.val (.int p0), .val (.int p1), .val (.long q2), .second, .val (.long q3), .second, .val (.int p4), .val (.int (p4 &&& (3 : Int32))), .val (.int x5), .val (.int x11), .val (.int x17), .val (.int (p0 &&& (255 : Int32))), .val (.int x19), .val (.int x20), .val (.int x25), .val (.int x31), .val (.int x37), .val (.ref bs43), .val (.ref bs51), .val (.long x58), .second, .val (.ref b61), .val (.ref b69), .unset, .unset, .unset] (hb hby at_216) rfl rfl ?_
    refine Own.iload X73 hx (hb hby at_218) rfl ?_
    refine Own.iload X73 hx (hb hby at_220) rfl ?_
    exact k)
  obtain ⟨x150, hx150⟩ : ∃ z : Int32, z = (if (p4 &&& (3 : Int32)) = x17 then (if (p4 &&& (3 : Int32)) < (1 : Int32) then (if (p4 &&& (3 : Int32)) < (2 : Int32) then (if (p4 &&& (3 : Int32)) < (3 : Int32) then (1 : Int32) else (if x37 = (0 : Int32) then (1 : Int32) else (0 : Int32))) else (if x31 = (0 : Int32) then (if (p4 &&& (3 : Int32)) < (3 : Int32) then (1 : Int32) else (if x37 = (0 : Int32) then (1 : Int32) else (0 : Int32))) else (0 : Int32))) else (if x25 = (0 : Int32) then (if (p4 &&& (3 : Int32)) < (2 : Int32) then (if (p4 &&& (3 : Int32)) < (3 : Int32) then (1 : Int32) else (if x37 = (0 : Int32) then (1 : Int32) else (0 : Int32))) else (if x31 = (0 : Int32) then (if (p4 &&& (3 : Int32)) < (3 : Int32) then (1 : Int32) else (if x37 = (0 : Int32) then (1 : Int32) else (0 : Int32))) else (0 : Int32))) else (0 : Int32))) else (0 : Int32)) := ⟨_, rfl⟩
  obtain ⟨T151, X151, e151, K151⟩ : ∃ T' : State, Stand p l e room_1 (s.setVm vm51) m #[(.int p0), (.int p1), (.long q2), (.long q3), (.int p4)] below meth c T' L73 18 44 ∧ T'.heap = h73 ∧ ∀ t, Steps p.tables e below (T'.setTop (mkF m 263 #[.val (.int p0), .val (.int p1), .val (.long q2), .second, .val (.long q3), .second, .val (.int p4), .val (.int (p4 &&& (3 : Int32))), .val (.int x5), .val (.int x11), .val (.int x17), .val (.int (p0 &&& (255 : Int32))), .val (.int x19), .val (.int x20), .val (.int x25), .val (.int x31), .val (.int x37), .val (.ref bs43), .val (.ref bs51), .val (.long x58), .second, .val (.ref b61), .val (.ref b69), .unset, .unset, .unset] [(.int x150)])) t → Steps p.tables e below B0 t := by
    by_cases hc77 : (p4 &&& (3 : Int32)) = x17
    · have K78 : ∀ t, Steps p.tables e below (T73.setTop (mkF m 228 #[.val (.int p0), .val (.int p1), .val (.long q2), .second, .val (.long q3), .second, .val (.int p4), .val (.int (p4 &&& (3 : Int32))), .val (.int x5), .val (.int x11), .val (.int x17), .val (.int (p0 &&& (255 : Int32))), .val (.int x19), .val (.int x20), .val (.int x25), .val (.int x31), .val (.int x37), .val (.ref bs43), .val (.ref bs51), .val (.long x58), .second, .val (.ref b61), .val (.ref b69), .unset, .unset, .unset] [(.int (1 : Int32)), (.int (p4 &&& (3 : Int32)))])) t → Steps p.tables e below B0 t := fun t k => K76 t (by
        refine Own.icmpNo X73 hx (hb hby at_222) (teq hc77).2 ?_
        refine Own.iload X73 hx (hb hby at_225) rfl ?_
        refine Own.iconst X73 hx (1 : Int32) (hb hby at_227) rfl ?_
        exact k)
      obtain ⟨x147, hx147⟩ : ∃ z : Int32, z = (if (p4 &&& (3 : Int32)) < (1 : Int32) then (if (p4 &&& (3 : Int32)) < (2 : Int32) then (if (p4 &&& (3 : Int32)) < (3 : Int32) then (1 : Int32) else (if x37 = (0 : Int32) then (1 : Int32) else (0 : Int32))) else (if x31 = (0 : Int32) then (if (p4 &&& (3 : Int32)) < (3 : Int32) then (1 : Int32) else (if x37 = (0 : Int32) then (1 : Int32) else (0 : Int32))) else (0 : Int32))) else (if x25 = (0 : Int32) then (if (p4 &&& (3 : Int32)) < (2 : Int32) then (if (p4 &&& (3 : Int32)) < (3 : Int32) then (1 : Int32) else (if x37 = (0 : Int32) then (1 : Int32) else (0 : Int32))) else (if x31 = (0 : Int32) then (if (p4 &&& (3 : Int32)) < (3 : Int32) then (1 : Int32) else (if x37 = (0 : Int32) then (1 : Int32) else (0 : Int32))) else (0 : Int32))) else (0 : Int32))) := ⟨_, rfl⟩
      obtain ⟨T148, X148, e148, K148⟩ : ∃ T' : State, Stand p l e room_1 (s.setVm vm51) m #[(.int p0), (.int p1), (.long q2), (.long q3), (.int p4)] below meth c T' L73 18 44 ∧ T'.heap = h73 ∧ ∀ t, Steps p.tables e below (T'.setTop (mkF m 263 #[.val (.int p0), .val (.int p1), .val (.long q2), .second, .val (.long q3), .second, .val (.int p4), .val (.int (p4 &&& (3 : Int32))), .val (.int x5), .val (.int x11), .val (.int x17), .val (.int (p0 &&& (255 : Int32))), .val (.int x19), .val (.int x20), .val (.int x25), .val (.int x31), .val (.int x37), .val (.ref bs43), .val (.ref bs51), .val (.long x58), .second, .val (.ref b61), .val (.ref b69), .unset, .unset, .unset] [(.int x147)])) t → Steps p.tables e below B0 t := by
        by_cases hc79 : (p4 &&& (3 : Int32)) < (1 : Int32)
        · have K80 : ∀ t, Steps p.tables e below (T73.setTop (mkF m 239 #[.val (.int p0), .val (.int p1), .val (.long q2), .second, .val (.long q3), .second, .val (.int p4), .val (.int (p4 &&& (3 : Int32))), .val (.int x5), .val (.int x11), .val (.int x17), .val (.int (p0 &&& (255 : Int32))), .val (.int x19), .val (.int x20), .val (.int x25), .val (.int x31), .val (.int x37), .val (.ref bs43), .val (.ref bs51), .val (.long x58), .second, .val (.ref b61), .val (.ref b69), .unset, .unset, .unset] [(.int (2 : Int32)), (.int (p4 &&& (3 : Int32)))])) t → Steps p.tables e below B0 t := fun t k => K78 t (by
            refine Own.icmpYes X73 hx 236 (hb hby at_228) (tlt hc79).1 (by decide) (by decide) ?_
            refine Own.iload X73 hx (hb hby at_236) rfl ?_
            refine Own.iconst X73 hx (2 : Int32) (hb hby at_238) rfl ?_
            exact k)
          obtain ⟨x109, hx109⟩ : ∃ z : Int32, z = (if (p4 &&& (3 : Int32)) < (2 : Int32) then (if (p4 &&& (3 : Int32)) < (3 : Int32) then (1 : Int32) else (if x37 = (0 : Int32) then (1 : Int32) else (0 : Int32))) else (if x31 = (0 : Int32) then (if (p4 &&& (3 : Int32)) < (3 : Int32) then (1 : Int32) else (if x37 = (0 : Int32) then (1 : Int32) else (0 : Int32))) else (0 : Int32))) := ⟨_, rfl⟩
          obtain ⟨T110, X110, e110, K110⟩ : ∃ T' : State, Stand p l e room_1 (s.setVm vm51) m #[(.int p0), (.int p1), (.long q2), (.long q3), (.int p4)] below meth c T' L73 18 44 ∧ T'.heap = h73 ∧ ∀ t, Steps p.tables e below (T'.setTop (mkF m 263 #[.val (.int p0), .val (.int p1), .val (.long q2), .second, .val (.long q3), .second, .val (.int p4), .val (.int (p4 &&& (3 : Int32))), .val (.int x5), .val (.int x11), .val (.int x17), .val (.int (p0 &&& (255 : Int32))), .val (.int x19), .val (.int x20), .val (.int x25), .val (.int x31), .val (.int x37), .val (.ref bs43), .val (.ref bs51), .val (.long x58), .second, .val (.ref b61), .val (.ref b69), .unset, .unset, .unset] [(.int x109)])) t → Steps p.tables e below B0 t := by
            by_cases hc81 : (p4 &&& (3 : Int32)) < (2 : Int32)
            · have K82 : ∀ t, Steps p.tables e below (T73.setTop (mkF m 250 #[.val (.int p0), .val (.int p1), .val (.long q2), .second, .val (.long q3), .second, .val (.int p4), .val (.int (p4 &&& (3 : Int32))), .val (.int x5), .val (.int x11), .val (.int x17), .val (.int (p0 &&& (255 : Int32))), .val (.int x19), .val (.int x20), .val (.int x25), .val (.int x31), .val (.int x37), .val (.ref bs43), .val (.ref bs51), .val (.long x58), .second, .val (.ref b61), .val (.ref b69), .unset, .unset, .unset] [(.int (3 : Int32)), (.int (p4 &&& (3 : Int32)))])) t → Steps p.tables e below B0 t := fun t k => K80 t (by
                refine Own.icmpYes X73 hx 247 (hb hby at_239) (tlt hc81).1 (by decide) (by decide) ?_
                refine Own.iload X73 hx (hb hby at_247) rfl ?_
                refine Own.iconst X73 hx (3 : Int32) (hb hby at_249) rfl ?_
                exact k)
              obtain ⟨x91, hx91⟩ : ∃ z : Int32, z = (if (p4 &&& (3 : Int32)) < (3 : Int32) then (1 : Int32) else (if x37 = (0 : Int32) then (1 : Int32) else (0 : Int32))) := ⟨_, rfl⟩
              obtain ⟨T92, X92, e92, K92⟩ : ∃ T' : State, Stand p l e room_1 (s.setVm vm51) m #[(.int p0), (.int p1), (.long q2), (.long q3), (.int p4)] below meth c T' L73 18 44 ∧ T'.heap = h73 ∧ ∀ t, Steps p.tables e below (T'.setTop (mkF m 263 #[.val (.int p0), .val (.int p1), .val (.long q2), .second, .val (.long q3), .second, .val (.int p4), .val (.int (p4 &&& (3 : Int32))), .val (.int x5), .val (.int x11), .val (.int x17), .val (.int (p0 &&& (255 : Int32))), .val (.int x19), .val (.int x20), .val (.int x25), .val (.int x31), .val (.int x37), .val (.ref bs43), .val (.ref bs51), .val (.long x58), .second, .val (.ref b61), .val (.ref b69), .unset, .unset, .unset] [(.int x91)])) t → Steps p.tables e below B0 t := by
                by_cases hc83 : (p4 &&& (3 : Int32)) < (3 : Int32)
                · have K84 : ∀ t, Steps p.tables e below (T73.setTop (mkF m 263 #[.val (.int p0), .val (.int p1), .val (.long q2), .second, .val (.long q3), .second, .val (.int p4), .val (.int (p4 &&& (3 : Int32))), .val (.int x5), .val (.int x11), .val (.int x17), .val (.int (p0 &&& (255 : Int32))), .val (.int x19), .val (.int x20), .val (.int x25), .val (.int x31), .val (.int x37), .val (.ref bs43), .val (.ref bs51), .val (.long x58), .second, .val (.ref b61), .val (.ref b69), .unset, .unset, .unset] [(.int (1 : Int32))])) t → Steps p.tables e below B0 t := fun t k => K82 t (by
                    refine Own.icmpYes X73 hx 258 (hb hby at_250) (tlt hc83).1 (by decide) (by decide) ?_
                    refine Own.iconst X73 hx (1 : Int32) (hb hby at_258) rfl ?_
                    refine Own.goto X73 hx 263 (hb hby at_259) (by decide) (by decide) ?_
                    exact k)
                  exact ⟨T73, X73, e73, fun t k => K84 t (by rw [hx91, if_pos hc83] at k; exact k)⟩
                · have K85 : ∀ t, Steps p.tables e below (T73.setTop (mkF m 255 #[.val (.int p0), .val (.int p1), .val (.long q2), .second, .val (.long q3), .second, .val (.int p4), .val (.int (p4 &&& (3 : Int32))), .val (.int x5), .val (.int x11), .val (.int x17), .val (.int (p0 &&& (255 : Int32))), .val (.int x19), .val (.int x20), .val (.int x25), .val (.int x31), .val (.int x37), .val (.ref bs43), .val (.ref bs51), .val (.long x58), .second, .val (.ref b61), .val (.ref b69), .unset, .unset, .unset] [(.int x37)])) t → Steps p.tables e below B0 t := fun t k => K82 t (by
                    refine Own.icmpNo X73 hx (hb hby at_250) (flt hc83).1 ?_
                    refine Own.iload X73 hx (hb hby at_253) rfl ?_
                    exact k)
                  obtain ⟨x89, hx89⟩ : ∃ z : Int32, z = (if x37 = (0 : Int32) then (1 : Int32) else (0 : Int32)) := ⟨_, rfl⟩
                  obtain ⟨T90, X90, e90, K90⟩ : ∃ T' : State, Stand p l e room_1 (s.setVm vm51) m #[(.int p0), (.int p1), (.long q2), (.long q3), (.int p4)] below meth c T' L73 18 44 ∧ T'.heap = h73 ∧ ∀ t, Steps p.tables e below (T'.setTop (mkF m 263 #[.val (.int p0), .val (.int p1), .val (.long q2), .second, .val (.long q3), .second, .val (.int p4), .val (.int (p4 &&& (3 : Int32))), .val (.int x5), .val (.int x11), .val (.int x17), .val (.int (p0 &&& (255 : Int32))), .val (.int x19), .val (.int x20), .val (.int x25), .val (.int x31), .val (.int x37), .val (.ref bs43), .val (.ref bs51), .val (.long x58), .second, .val (.ref b61), .val (.ref b69), .unset, .unset, .unset] [(.int x89)])) t → Steps p.tables e below B0 t := by
                    by_cases hc86 : x37 = (0 : Int32)
                    · have K87 : ∀ t, Steps p.tables e below (T73.setTop (mkF m 263 #[.val (.int p0), .val (.int p1), .val (.long q2), .second, .val (.long q3), .second, .val (.int p4), .val (.int (p4 &&& (3 : Int32))), .val (.int x5), .val (.int x11), .val (.int x17), .val (.int (p0 &&& (255 : Int32))), .val (.int x19), .val (.int x20), .val (.int x25), .val (.int x31), .val (.int x37), .val (.ref bs43), .val (.ref bs51), .val (.long x58), .second, .val (.ref b61), .val (.ref b69), .unset, .unset, .unset] [(.int (1 : Int32))])) t → Steps p.tables e below B0 t := fun t k => K85 t (by
                        refine Own.ifNo X73 hx (hb hby at_255) ((if0 _ _).trans (teq hc86).2) ?_
                        refine Own.iconst X73 hx (1 : Int32) (hb hby at_258) rfl ?_
                        refine Own.goto X73 hx 263 (hb hby at_259) (by decide) (by decide) ?_
                        exact k)
                      exact ⟨T73, X73, e73, fun t k => K87 t (by rw [hx89, if_pos hc86] at k; exact k)⟩
                    · have K88 : ∀ t, Steps p.tables e below (T73.setTop (mkF m 263 #[.val (.int p0), .val (.int p1), .val (.long q2), .second, .val (.long q3), .second, .val (.int p4), .val (.int (p4 &&& (3 : Int32))), .val (.int x5), .val (.int x11), .val (.int x17), .val (.int (p0 &&& (255 : Int32))), .val (.int x19), .val (.int x20), .val (.int x25), .val (.int x31), .val (.int x37), .val (.ref bs43), .val (.ref bs51), .val (.long x58), .second, .val (.ref b61), .val (.ref b69), .unset, .unset, .unset] [(.int (0 : Int32))])) t → Steps p.tables e below B0 t := fun t k => K85 t (by
                        refine Own.ifYes X73 hx 262 (hb hby at_255) ((if0 _ _).trans (feq hc86).2) (by decide) (by decide) ?_
                        refine Own.iconst X73 hx (0 : Int32) (hb hby at_262) rfl ?_
                        exact k)
                      exact ⟨T73, X73, e73, fun t k => K88 t (by rw [hx89, if_neg hc86] at k; exact k)⟩
                  exact ⟨T90, X90, e90, fun t k => K90 t (by subst hx89; rw [hx91, if_neg hc83] at k; exact k)⟩
              exact ⟨T92, X92, e92, fun t k => K92 t (by subst hx91; rw [hx109, if_pos hc81] at k; exact k)⟩
            · have K93 : ∀ t, Steps p.tables e below (T73.setTop (mkF m 244 #[.val (.int p0), .val (.int p1), .val (.long q2), .second, .val (.long q3), .second, .val (.int p4), .val (.int (p4 &&& (3 : Int32))), .val (.int x5), .val (.int x11), .val (.int x17), .val (.int (p0 &&& (255 : Int32))), .val (.int x19), .val (.int x20), .val (.int x25), .val (.int x31), .val (.int x37), .val (.ref bs43), .val (.ref bs51), .val (.long x58), .second, .val (.ref b61), .val (.ref b69), .unset, .unset, .unset] [(.int x31)])) t → Steps p.tables e below B0 t := fun t k => K80 t (by
                refine Own.icmpNo X73 hx (hb hby at_239) (flt hc81).1 ?_
                refine Own.iload X73 hx (hb hby at_242) rfl ?_
                exact k)
              obtain ⟨x107, hx107⟩ : ∃ z : Int32, z = (if x31 = (0 : Int32) then (if (p4 &&& (3 : Int32)) < (3 : Int32) then (1 : Int32) else (if x37 = (0 : Int32) then (1 : Int32) else (0 : Int32))) else (0 : Int32)) := ⟨_, rfl⟩
              obtain ⟨T108, X108, e108, K108⟩ : ∃ T' : State, Stand p l e room_1 (s.setVm vm51) m #[(.int p0), (.int p1), (.long q2), (.long q3), (.int p4)] below meth c T' L73 18 44 ∧ T'.heap = h73 ∧ ∀ t, Steps p.tables e below (T'.setTop (mkF m 263 #[.val (.int p0), .val (.int p1), .val (.long q2), .second, .val (.long q3), .second, .val (.int p4), .val (.int (p4 &&& (3 : Int32))), .val (.int x5), .val (.int x11), .val (.int x17), .val (.int (p0 &&& (255 : Int32))), .val (.int x19), .val (.int x20), .val (.int x25), .val (.int x31), .val (.int x37), .val (.ref bs43), .val (.ref bs51), .val (.long x58), .second, .val (.ref b61), .val (.ref b69), .unset, .unset, .unset] [(.int x107)])) t → Steps p.tables e below B0 t := by
                by_cases hc94 : x31 = (0 : Int32)
                · have K95 : ∀ t, Steps p.tables e below (T73.setTop (mkF m 250 #[.val (.int p0), .val (.int p1), .val (.long q2), .second, .val (.long q3), .second, .val (.int p4), .val (.int (p4 &&& (3 : Int32))), .val (.int x5), .val (.int x11), .val (.int x17), .val (.int (p0 &&& (255 : Int32))), .val (.int x19), .val (.int x20), .val (.int x25), .val (.int x31), .val (.int x37), .val (.ref bs43), .val (.ref bs51), .val (.long x58), .second, .val (.ref b61), .val (.ref b69), .unset, .unset, .unset] [(.int (3 : Int32)), (.int (p4 &&& (3 : Int32)))])) t → Steps p.tables e below B0 t := fun t k => K93 t (by
                    refine Own.ifNo X73 hx (hb hby at_244) ((if0 _ _).trans (teq hc94).2) ?_
                    refine Own.iload X73 hx (hb hby at_247) rfl ?_
                    refine Own.iconst X73 hx (3 : Int32) (hb hby at_249) rfl ?_
                    exact k)
                  obtain ⟨x104, hx104⟩ : ∃ z : Int32, z = (if (p4 &&& (3 : Int32)) < (3 : Int32) then (1 : Int32) else (if x37 = (0 : Int32) then (1 : Int32) else (0 : Int32))) := ⟨_, rfl⟩
                  obtain ⟨T105, X105, e105, K105⟩ : ∃ T' : State, Stand p l e room_1 (s.setVm vm51) m #[(.int p0), (.int p1), (.long q2), (.long q3), (.int p4)] below meth c T' L73 18 44 ∧ T'.heap = h73 ∧ ∀ t, Steps p.tables e below (T'.setTop (mkF m 263 #[.val (.int p0), .val (.int p1), .val (.long q2), .second, .val (.long q3), .second, .val (.int p4), .val (.int (p4 &&& (3 : Int32))), .val (.int x5), .val (.int x11), .val (.int x17), .val (.int (p0 &&& (255 : Int32))), .val (.int x19), .val (.int x20), .val (.int x25), .val (.int x31), .val (.int x37), .val (.ref bs43), .val (.ref bs51), .val (.long x58), .second, .val (.ref b61), .val (.ref b69), .unset, .unset, .unset] [(.int x104)])) t → Steps p.tables e below B0 t := by
                    by_cases hc96 : (p4 &&& (3 : Int32)) < (3 : Int32)
                    · have K97 : ∀ t, Steps p.tables e below (T73.setTop (mkF m 263 #[.val (.int p0), .val (.int p1), .val (.long q2), .second, .val (.long q3), .second, .val (.int p4), .val (.int (p4 &&& (3 : Int32))), .val (.int x5), .val (.int x11), .val (.int x17), .val (.int (p0 &&& (255 : Int32))), .val (.int x19), .val (.int x20), .val (.int x25), .val (.int x31), .val (.int x37), .val (.ref bs43), .val (.ref bs51), .val (.long x58), .second, .val (.ref b61), .val (.ref b69), .unset, .unset, .unset] [(.int (1 : Int32))])) t → Steps p.tables e below B0 t := fun t k => K95 t (by
                        refine Own.icmpYes X73 hx 258 (hb hby at_250) (tlt hc96).1 (by decide) (by decide) ?_
                        refine Own.iconst X73 hx (1 : Int32) (hb hby at_258) rfl ?_
                        refine Own.goto X73 hx 263 (hb hby at_259) (by decide) (by decide) ?_
                        exact k)
                      exact ⟨T73, X73, e73, fun t k => K97 t (by rw [hx104, if_pos hc96] at k; exact k)⟩
                    · have K98 : ∀ t, Steps p.tables e below (T73.setTop (mkF m 255 #[.val (.int p0), .val (.int p1), .val (.long q2), .second, .val (.long q3), .second, .val (.int p4), .val (.int (p4 &&& (3 : Int32))), .val (.int x5), .val (.int x11), .val (.int x17), .val (.int (p0 &&& (255 : Int32))), .val (.int x19), .val (.int x20), .val (.int x25), .val (.int x31), .val (.int x37), .val (.ref bs43), .val (.ref bs51), .val (.long x58), .second, .val (.ref b61), .val (.ref b69), .unset, .unset, .unset] [(.int x37)])) t → Steps p.tables e below B0 t := fun t k => K95 t (by
                        refine Own.icmpNo X73 hx (hb hby at_250) (flt hc96).1 ?_
                        refine Own.iload X73 hx (hb hby at_253) rfl ?_
                        exact k)
                      obtain ⟨x102, hx102⟩ : ∃ z : Int32, z = (if x37 = (0 : Int32) then (1 : Int32) else (0 : Int32)) := ⟨_, rfl⟩
                      obtain ⟨T103, X103, e103, K103⟩ : ∃ T' : State, Stand p l e room_1 (s.setVm vm51) m #[(.int p0), (.int p1), (.long q2), (.long q3), (.int p4)] below meth c T' L73 18 44 ∧ T'.heap = h73 ∧ ∀ t, Steps p.tables e below (T'.setTop (mkF m 263 #[.val (.int p0), .val (.int p1), .val (.long q2), .second, .val (.long q3), .second, .val (.int p4), .val (.int (p4 &&& (3 : Int32))), .val (.int x5), .val (.int x11), .val (.int x17), .val (.int (p0 &&& (255 : Int32))), .val (.int x19), .val (.int x20), .val (.int x25), .val (.int x31), .val (.int x37), .val (.ref bs43), .val (.ref bs51), .val (.long x58), .second, .val (.ref b61), .val (.ref b69), .unset, .unset, .unset] [(.int x102)])) t → Steps p.tables e below B0 t := by
                        by_cases hc99 : x37 = (0 : Int32)
                        · have K100 : ∀ t, Steps p.tables e below (T73.setTop (mkF m 263 #[.val (.int p0), .val (.int p1), .val (.long q2), .second, .val (.long q3), .second, .val (.int p4), .val (.int (p4 &&& (3 : Int32))), .val (.int x5), .val (.int x11), .val (.int x17), .val (.int (p0 &&& (255 : Int32))), .val (.int x19), .val (.int x20), .val (.int x25), .val (.int x31), .val (.int x37), .val (.ref bs43), .val (.ref bs51), .val (.long x58), .second, .val (.ref b61), .val (.ref b69), .unset, .unset, .unset] [(.int (1 : Int32))])) t → Steps p.tables e below B0 t := fun t k => K98 t (by
                            refine Own.ifNo X73 hx (hb hby at_255) ((if0 _ _).trans (teq hc99).2) ?_
                            refine Own.iconst X73 hx (1 : Int32) (hb hby at_258) rfl ?_
                            refine Own.goto X73 hx 263 (hb hby at_259) (by decide) (by decide) ?_
                            exact k)
                          exact ⟨T73, X73, e73, fun t k => K100 t (by rw [hx102, if_pos hc99] at k; exact k)⟩
                        · have K101 : ∀ t, Steps p.tables e below (T73.setTop (mkF m 263 #[.val (.int p0), .val (.int p1), .val (.long q2), .second, .val (.long q3), .second, .val (.int p4), .val (.int (p4 &&& (3 : Int32))), .val (.int x5), .val (.int x11), .val (.int x17), .val (.int (p0 &&& (255 : Int32))), .val (.int x19), .val (.int x20), .val (.int x25), .val (.int x31), .val (.int x37), .val (.ref bs43), .val (.ref bs51), .val (.long x58), .second, .val (.ref b61), .val (.ref b69), .unset, .unset, .unset] [(.int (0 : Int32))])) t → Steps p.tables e below B0 t := fun t k => K98 t (by
                            refine Own.ifYes X73 hx 262 (hb hby at_255) ((if0 _ _).trans (feq hc99).2) (by decide) (by decide) ?_
                            refine Own.iconst X73 hx (0 : Int32) (hb hby at_262) rfl ?_
                            exact k)
                          exact ⟨T73, X73, e73, fun t k => K101 t (by rw [hx102, if_neg hc99] at k; exact k)⟩
                      exact ⟨T103, X103, e103, fun t k => K103 t (by subst hx102; rw [hx104, if_neg hc96] at k; exact k)⟩
                  exact ⟨T105, X105, e105, fun t k => K105 t (by subst hx104; rw [hx107, if_pos hc94] at k; exact k)⟩
                · have K106 : ∀ t, Steps p.tables e below (T73.setTop (mkF m 263 #[.val (.int p0), .val (.int p1), .val (.long q2), .second, .val (.long q3), .second, .val (.int p4), .val (.int (p4 &&& (3 : Int32))), .val (.int x5), .val (.int x11), .val (.int x17), .val (.int (p0 &&& (255 : Int32))), .val (.int x19), .val (.int x20), .val (.int x25), .val (.int x31), .val (.int x37), .val (.ref bs43), .val (.ref bs51), .val (.long x58), .second, .val (.ref b61), .val (.ref b69), .unset, .unset, .unset] [(.int (0 : Int32))])) t → Steps p.tables e below B0 t := fun t k => K93 t (by
                    refine Own.ifYes X73 hx 262 (hb hby at_244) ((if0 _ _).trans (feq hc94).2) (by decide) (by decide) ?_
                    refine Own.iconst X73 hx (0 : Int32) (hb hby at_262) rfl ?_
                    exact k)
                  exact ⟨T73, X73, e73, fun t k => K106 t (by rw [hx107, if_neg hc94] at k; exact k)⟩
              exact ⟨T108, X108, e108, fun t k => K108 t (by subst hx107; rw [hx109, if_neg hc81] at k; exact k)⟩
          exact ⟨T110, X110, e110, fun t k => K110 t (by subst hx109; rw [hx147, if_pos hc79] at k; exact k)⟩
        · have K111 : ∀ t, Steps p.tables e below (T73.setTop (mkF m 233 #[.val (.int p0), .val (.int p1), .val (.long q2), .second, .val (.long q3), .second, .val (.int p4), .val (.int (p4 &&& (3 : Int32))), .val (.int x5), .val (.int x11), .val (.int x17), .val (.int (p0 &&& (255 : Int32))), .val (.int x19), .val (.int x20), .val (.int x25), .val (.int x31), .val (.int x37), .val (.ref bs43), .val (.ref bs51), .val (.long x58), .second, .val (.ref b61), .val (.ref b69), .unset, .unset, .unset] [(.int x25)])) t → Steps p.tables e below B0 t := fun t k => K78 t (by
            refine Own.icmpNo X73 hx (hb hby at_228) (flt hc79).1 ?_
            refine Own.iload X73 hx (hb hby at_231) rfl ?_
            exact k)
          obtain ⟨x145, hx145⟩ : ∃ z : Int32, z = (if x25 = (0 : Int32) then (if (p4 &&& (3 : Int32)) < (2 : Int32) then (if (p4 &&& (3 : Int32)) < (3 : Int32) then (1 : Int32) else (if x37 = (0 : Int32) then (1 : Int32) else (0 : Int32))) else (if x31 = (0 : Int32) then (if (p4 &&& (3 : Int32)) < (3 : Int32) then (1 : Int32) else (if x37 = (0 : Int32) then (1 : Int32) else (0 : Int32))) else (0 : Int32))) else (0 : Int32)) := ⟨_, rfl⟩
          obtain ⟨T146, X146, e146, K146⟩ : ∃ T' : State, Stand p l e room_1 (s.setVm vm51) m #[(.int p0), (.int p1), (.long q2), (.long q3), (.int p4)] below meth c T' L73 18 44 ∧ T'.heap = h73 ∧ ∀ t, Steps p.tables e below (T'.setTop (mkF m 263 #[.val (.int p0), .val (.int p1), .val (.long q2), .second, .val (.long q3), .second, .val (.int p4), .val (.int (p4 &&& (3 : Int32))), .val (.int x5), .val (.int x11), .val (.int x17), .val (.int (p0 &&& (255 : Int32))), .val (.int x19), .val (.int x20), .val (.int x25), .val (.int x31), .val (.int x37), .val (.ref bs43), .val (.ref bs51), .val (.long x58), .second, .val (.ref b61), .val (.ref b69), .unset, .unset, .unset] [(.int x145)])) t → Steps p.tables e below B0 t := by
            by_cases hc112 : x25 = (0 : Int32)
            · have K113 : ∀ t, Steps p.tables e below (T73.setTop (mkF m 239 #[.val (.int p0), .val (.int p1), .val (.long q2), .second, .val (.long q3), .second, .val (.int p4), .val (.int (p4 &&& (3 : Int32))), .val (.int x5), .val (.int x11), .val (.int x17), .val (.int (p0 &&& (255 : Int32))), .val (.int x19), .val (.int x20), .val (.int x25), .val (.int x31), .val (.int x37), .val (.ref bs43), .val (.ref bs51), .val (.long x58), .second, .val (.ref b61), .val (.ref b69), .unset, .unset, .unset] [(.int (2 : Int32)), (.int (p4 &&& (3 : Int32)))])) t → Steps p.tables e below B0 t := fun t k => K111 t (by
                refine Own.ifNo X73 hx (hb hby at_233) ((if0 _ _).trans (teq hc112).2) ?_
                refine Own.iload X73 hx (hb hby at_236) rfl ?_
                refine Own.iconst X73 hx (2 : Int32) (hb hby at_238) rfl ?_
                exact k)
              obtain ⟨x142, hx142⟩ : ∃ z : Int32, z = (if (p4 &&& (3 : Int32)) < (2 : Int32) then (if (p4 &&& (3 : Int32)) < (3 : Int32) then (1 : Int32) else (if x37 = (0 : Int32) then (1 : Int32) else (0 : Int32))) else (if x31 = (0 : Int32) then (if (p4 &&& (3 : Int32)) < (3 : Int32) then (1 : Int32) else (if x37 = (0 : Int32) then (1 : Int32) else (0 : Int32))) else (0 : Int32))) := ⟨_, rfl⟩
              obtain ⟨T143, X143, e143, K143⟩ : ∃ T' : State, Stand p l e room_1 (s.setVm vm51) m #[(.int p0), (.int p1), (.long q2), (.long q3), (.int p4)] below meth c T' L73 18 44 ∧ T'.heap = h73 ∧ ∀ t, Steps p.tables e below (T'.setTop (mkF m 263 #[.val (.int p0), .val (.int p1), .val (.long q2), .second, .val (.long q3), .second, .val (.int p4), .val (.int (p4 &&& (3 : Int32))), .val (.int x5), .val (.int x11), .val (.int x17), .val (.int (p0 &&& (255 : Int32))), .val (.int x19), .val (.int x20), .val (.int x25), .val (.int x31), .val (.int x37), .val (.ref bs43), .val (.ref bs51), .val (.long x58), .second, .val (.ref b61), .val (.ref b69), .unset, .unset, .unset] [(.int x142)])) t → Steps p.tables e below B0 t := by
                by_cases hc114 : (p4 &&& (3 : Int32)) < (2 : Int32)
                · have K115 : ∀ t, Steps p.tables e below (T73.setTop (mkF m 250 #[.val (.int p0), .val (.int p1), .val (.long q2), .second, .val (.long q3), .second, .val (.int p4), .val (.int (p4 &&& (3 : Int32))), .val (.int x5), .val (.int x11), .val (.int x17), .val (.int (p0 &&& (255 : Int32))), .val (.int x19), .val (.int x20), .val (.int x25), .val (.int x31), .val (.int x37), .val (.ref bs43), .val (.ref bs51), .val (.long x58), .second, .val (.ref b61), .val (.ref b69), .unset, .unset, .unset] [(.int (3 : Int32)), (.int (p4 &&& (3 : Int32)))])) t → Steps p.tables e below B0 t := fun t k => K113 t (by
                    refine Own.icmpYes X73 hx 247 (hb hby at_239) (tlt hc114).1 (by decide) (by decide) ?_
                    refine Own.iload X73 hx (hb hby at_247) rfl ?_
                    refine Own.iconst X73 hx (3 : Int32) (hb hby at_249) rfl ?_
                    exact k)
                  obtain ⟨x124, hx124⟩ : ∃ z : Int32, z = (if (p4 &&& (3 : Int32)) < (3 : Int32) then (1 : Int32) else (if x37 = (0 : Int32) then (1 : Int32) else (0 : Int32))) := ⟨_, rfl⟩
                  obtain ⟨T125, X125, e125, K125⟩ : ∃ T' : State, Stand p l e room_1 (s.setVm vm51) m #[(.int p0), (.int p1), (.long q2), (.long q3), (.int p4)] below meth c T' L73 18 44 ∧ T'.heap = h73 ∧ ∀ t, Steps p.tables e below (T'.setTop (mkF m 263 #[.val (.int p0), .val (.int p1), .val (.long q2), .second, .val (.long q3), .second, .val (.int p4), .val (.int (p4 &&& (3 : Int32))), .val (.int x5), .val (.int x11), .val (.int x17), .val (.int (p0 &&& (255 : Int32))), .val (.int x19), .val (.int x20), .val (.int x25), .val (.int x31), .val (.int x37), .val (.ref bs43), .val (.ref bs51), .val (.long x58), .second, .val (.ref b61), .val (.ref b69), .unset, .unset, .unset] [(.int x124)])) t → Steps p.tables e below B0 t := by
                    by_cases hc116 : (p4 &&& (3 : Int32)) < (3 : Int32)
                    · have K117 : ∀ t, Steps p.tables e below (T73.setTop (mkF m 263 #[.val (.int p0), .val (.int p1), .val (.long q2), .second, .val (.long q3), .second, .val (.int p4), .val (.int (p4 &&& (3 : Int32))), .val (.int x5), .val (.int x11), .val (.int x17), .val (.int (p0 &&& (255 : Int32))), .val (.int x19), .val (.int x20), .val (.int x25), .val (.int x31), .val (.int x37), .val (.ref bs43), .val (.ref bs51), .val (.long x58), .second, .val (.ref b61), .val (.ref b69), .unset, .unset, .unset] [(.int (1 : Int32))])) t → Steps p.tables e below B0 t := fun t k => K115 t (by
                        refine Own.icmpYes X73 hx 258 (hb hby at_250) (tlt hc116).1 (by decide) (by decide) ?_
                        refine Own.iconst X73 hx (1 : Int32) (hb hby at_258) rfl ?_
                        refine Own.goto X73 hx 263 (hb hby at_259) (by decide) (by decide) ?_
                        exact k)
                      exact ⟨T73, X73, e73, fun t k => K117 t (by rw [hx124, if_pos hc116] at k; exact k)⟩
                    · have K118 : ∀ t, Steps p.tables e below (T73.setTop (mkF m 255 #[.val (.int p0), .val (.int p1), .val (.long q2), .second, .val (.long q3), .second, .val (.int p4), .val (.int (p4 &&& (3 : Int32))), .val (.int x5), .val (.int x11), .val (.int x17), .val (.int (p0 &&& (255 : Int32))), .val (.int x19), .val (.int x20), .val (.int x25), .val (.int x31), .val (.int x37), .val (.ref bs43), .val (.ref bs51), .val (.long x58), .second, .val (.ref b61), .val (.ref b69), .unset, .unset, .unset] [(.int x37)])) t → Steps p.tables e below B0 t := fun t k => K115 t (by
                        refine Own.icmpNo X73 hx (hb hby at_250) (flt hc116).1 ?_
                        refine Own.iload X73 hx (hb hby at_253) rfl ?_
                        exact k)
                      obtain ⟨x122, hx122⟩ : ∃ z : Int32, z = (if x37 = (0 : Int32) then (1 : Int32) else (0 : Int32)) := ⟨_, rfl⟩
                      obtain ⟨T123, X123, e123, K123⟩ : ∃ T' : State, Stand p l e room_1 (s.setVm vm51) m #[(.int p0), (.int p1), (.long q2), (.long q3), (.int p4)] below meth c T' L73 18 44 ∧ T'.heap = h73 ∧ ∀ t, Steps p.tables e below (T'.setTop (mkF m 263 #[.val (.int p0), .val (.int p1), .val (.long q2), .second, .val (.long q3), .second, .val (.int p4), .val (.int (p4 &&& (3 : Int32))), .val (.int x5), .val (.int x11), .val (.int x17), .val (.int (p0 &&& (255 : Int32))), .val (.int x19), .val (.int x20), .val (.int x25), .val (.int x31), .val (.int x37), .val (.ref bs43), .val (.ref bs51), .val (.long x58), .second, .val (.ref b61), .val (.ref b69), .unset, .unset, .unset] [(.int x122)])) t → Steps p.tables e below B0 t := by
                        by_cases hc119 : x37 = (0 : Int32)
                        · have K120 : ∀ t, Steps p.tables e below (T73.setTop (mkF m 263 #[.val (.int p0), .val (.int p1), .val (.long q2), .second, .val (.long q3), .second, .val (.int p4), .val (.int (p4 &&& (3 : Int32))), .val (.int x5), .val (.int x11), .val (.int x17), .val (.int (p0 &&& (255 : Int32))), .val (.int x19), .val (.int x20), .val (.int x25), .val (.int x31), .val (.int x37), .val (.ref bs43), .val (.ref bs51), .val (.long x58), .second, .val (.ref b61), .val (.ref b69), .unset, .unset, .unset] [(.int (1 : Int32))])) t → Steps p.tables e below B0 t := fun t k => K118 t (by
                            refine Own.ifNo X73 hx (hb hby at_255) ((if0 _ _).trans (teq hc119).2) ?_
                            refine Own.iconst X73 hx (1 : Int32) (hb hby at_258) rfl ?_
                            refine Own.goto X73 hx 263 (hb hby at_259) (by decide) (by decide) ?_
                            exact k)
                          exact ⟨T73, X73, e73, fun t k => K120 t (by rw [hx122, if_pos hc119] at k; exact k)⟩
                        · have K121 : ∀ t, Steps p.tables e below (T73.setTop (mkF m 263 #[.val (.int p0), .val (.int p1), .val (.long q2), .second, .val (.long q3), .second, .val (.int p4), .val (.int (p4 &&& (3 : Int32))), .val (.int x5), .val (.int x11), .val (.int x17), .val (.int (p0 &&& (255 : Int32))), .val (.int x19), .val (.int x20), .val (.int x25), .val (.int x31), .val (.int x37), .val (.ref bs43), .val (.ref bs51), .val (.long x58), .second, .val (.ref b61), .val (.ref b69), .unset, .unset, .unset] [(.int (0 : Int32))])) t → Steps p.tables e below B0 t := fun t k => K118 t (by
                            refine Own.ifYes X73 hx 262 (hb hby at_255) ((if0 _ _).trans (feq hc119).2) (by decide) (by decide) ?_
                            refine Own.iconst X73 hx (0 : Int32) (hb hby at_262) rfl ?_
                            exact k)
                          exact ⟨T73, X73, e73, fun t k => K121 t (by rw [hx122, if_neg hc119] at k; exact k)⟩
                      exact ⟨T123, X123, e123, fun t k => K123 t (by subst hx122; rw [hx124, if_neg hc116] at k; exact k)⟩
                  exact ⟨T125, X125, e125, fun t k => K125 t (by subst hx124; rw [hx142, if_pos hc114] at k; exact k)⟩
                · have K126 : ∀ t, Steps p.tables e below (T73.setTop (mkF m 244 #[.val (.int p0), .val (.int p1), .val (.long q2), .second, .val (.long q3), .second, .val (.int p4), .val (.int (p4 &&& (3 : Int32))), .val (.int x5), .val (.int x11), .val (.int x17), .val (.int (p0 &&& (255 : Int32))), .val (.int x19), .val (.int x20), .val (.int x25), .val (.int x31), .val (.int x37), .val (.ref bs43), .val (.ref bs51), .val (.long x58), .second, .val (.ref b61), .val (.ref b69), .unset, .unset, .unset] [(.int x31)])) t → Steps p.tables e below B0 t := fun t k => K113 t (by
                    refine Own.icmpNo X73 hx (hb hby at_239) (flt hc114).1 ?_
                    refine Own.iload X73 hx (hb hby at_242) rfl ?_
                    exact k)
                  obtain ⟨x140, hx140⟩ : ∃ z : Int32, z = (if x31 = (0 : Int32) then (if (p4 &&& (3 : Int32)) < (3 : Int32) then (1 : Int32) else (if x37 = (0 : Int32) then (1 : Int32) else (0 : Int32))) else (0 : Int32)) := ⟨_, rfl⟩
                  obtain ⟨T141, X141, e141, K141⟩ : ∃ T' : State, Stand p l e room_1 (s.setVm vm51) m #[(.int p0), (.int p1), (.long q2), (.long q3), (.int p4)] below meth c T' L73 18 44 ∧ T'.heap = h73 ∧ ∀ t, Steps p.tables e below (T'.setTop (mkF m 263 #[.val (.int p0), .val (.int p1), .val (.long q2), .second, .val (.long q3), .second, .val (.int p4), .val (.int (p4 &&& (3 : Int32))), .val (.int x5), .val (.int x11), .val (.int x17), .val (.int (p0 &&& (255 : Int32))), .val (.int x19), .val (.int x20), .val (.int x25), .val (.int x31), .val (.int x37), .val (.ref bs43), .val (.ref bs51), .val (.long x58), .second, .val (.ref b61), .val (.ref b69), .unset, .unset, .unset] [(.int x140)])) t → Steps p.tables e below B0 t := by
                    by_cases hc127 : x31 = (0 : Int32)
                    · have K128 : ∀ t, Steps p.tables e below (T73.setTop (mkF m 250 #[.val (.int p0), .val (.int p1), .val (.long q2), .second, .val (.long q3), .second, .val (.int p4), .val (.int (p4 &&& (3 : Int32))), .val (.int x5), .val (.int x11), .val (.int x17), .val (.int (p0 &&& (255 : Int32))), .val (.int x19), .val (.int x20), .val (.int x25), .val (.int x31), .val (.int x37), .val (.ref bs43), .val (.ref bs51), .val (.long x58), .second, .val (.ref b61), .val (.ref b69), .unset, .unset, .unset] [(.int (3 : Int32)), (.int (p4 &&& (3 : Int32)))])) t → Steps p.tables e below B0 t := fun t k => K126 t (by
                        refine Own.ifNo X73 hx (hb hby at_244) ((if0 _ _).trans (teq hc127).2) ?_
                        refine Own.iload X73 hx (hb hby at_247) rfl ?_
                        refine Own.iconst X73 hx (3 : Int32) (hb hby at_249) rfl ?_
                        exact k)
                      obtain ⟨x137, hx137⟩ : ∃ z : Int32, z = (if (p4 &&& (3 : Int32)) < (3 : Int32) then (1 : Int32) else (if x37 = (0 : Int32) then (1 : Int32) else (0 : Int32))) := ⟨_, rfl⟩
                      obtain ⟨T138, X138, e138, K138⟩ : ∃ T' : State, Stand p l e room_1 (s.setVm vm51) m #[(.int p0), (.int p1), (.long q2), (.long q3), (.int p4)] below meth c T' L73 18 44 ∧ T'.heap = h73 ∧ ∀ t, Steps p.tables e below (T'.setTop (mkF m 263 #[.val (.int p0), .val (.int p1), .val (.long q2), .second, .val (.long q3), .second, .val (.int p4), .val (.int (p4 &&& (3 : Int32))), .val (.int x5), .val (.int x11), .val (.int x17), .val (.int (p0 &&& (255 : Int32))), .val (.int x19), .val (.int x20), .val (.int x25), .val (.int x31), .val (.int x37), .val (.ref bs43), .val (.ref bs51), .val (.long x58), .second, .val (.ref b61), .val (.ref b69), .unset, .unset, .unset] [(.int x137)])) t → Steps p.tables e below B0 t := by
                        by_cases hc129 : (p4 &&& (3 : Int32)) < (3 : Int32)
                        · have K130 : ∀ t, Steps p.tables e below (T73.setTop (mkF m 263 #[.val (.int p0), .val (.int p1), .val (.long q2), .second, .val (.long q3), .second, .val (.int p4), .val (.int (p4 &&& (3 : Int32))), .val (.int x5), .val (.int x11), .val (.int x17), .val (.int (p0 &&& (255 : Int32))), .val (.int x19), .val (.int x20), .val (.int x25), .val (.int x31), .val (.int x37), .val (.ref bs43), .val (.ref bs51), .val (.long x58), .second, .val (.ref b61), .val (.ref b69), .unset, .unset, .unset] [(.int (1 : Int32))])) t → Steps p.tables e below B0 t := fun t k => K128 t (by
                            refine Own.icmpYes X73 hx 258 (hb hby at_250) (tlt hc129).1 (by decide) (by decide) ?_
                            refine Own.iconst X73 hx (1 : Int32) (hb hby at_258) rfl ?_
                            refine Own.goto X73 hx 263 (hb hby at_259) (by decide) (by decide) ?_
                            exact k)
                          exact ⟨T73, X73, e73, fun t k => K130 t (by rw [hx137, if_pos hc129] at k; exact k)⟩
                        · have K131 : ∀ t, Steps p.tables e below (T73.setTop (mkF m 255 #[.val (.int p0), .val (.int p1), .val (.long q2), .second, .val (.long q3), .second, .val (.int p4), .val (.int (p4 &&& (3 : Int32))), .val (.int x5), .val (.int x11), .val (.int x17), .val (.int (p0 &&& (255 : Int32))), .val (.int x19), .val (.int x20), .val (.int x25), .val (.int x31), .val (.int x37), .val (.ref bs43), .val (.ref bs51), .val (.long x58), .second, .val (.ref b61), .val (.ref b69), .unset, .unset, .unset] [(.int x37)])) t → Steps p.tables e below B0 t := fun t k => K128 t (by
                            refine Own.icmpNo X73 hx (hb hby at_250) (flt hc129).1 ?_
                            refine Own.iload X73 hx (hb hby at_253) rfl ?_
                            exact k)
                          obtain ⟨x135, hx135⟩ : ∃ z : Int32, z = (if x37 = (0 : Int32) then (1 : Int32) else (0 : Int32)) := ⟨_, rfl⟩
                          obtain ⟨T136, X136, e136, K136⟩ : ∃ T' : State, Stand p l e room_1 (s.setVm vm51) m #[(.int p0), (.int p1), (.long q2), (.long q3), (.int p4)] below meth c T' L73 18 44 ∧ T'.heap = h73 ∧ ∀ t, Steps p.tables e below (T'.setTop (mkF m 263 #[.val (.int p0), .val (.int p1), .val (.long q2), .second, .val (.long q3), .second, .val (.int p4), .val (.int (p4 &&& (3 : Int32))), .val (.int x5), .val (.int x11), .val (.int x17), .val (.int (p0 &&& (255 : Int32))), .val (.int x19), .val (.int x20), .val (.int x25), .val (.int x31), .val (.int x37), .val (.ref bs43), .val (.ref bs51), .val (.long x58), .second, .val (.ref b61), .val (.ref b69), .unset, .unset, .unset] [(.int x135)])) t → Steps p.tables e below B0 t := by
                            by_cases hc132 : x37 = (0 : Int32)
                            · have K133 : ∀ t, Steps p.tables e below (T73.setTop (mkF m 263 #[.val (.int p0), .val (.int p1), .val (.long q2), .second, .val (.long q3), .second, .val (.int p4), .val (.int (p4 &&& (3 : Int32))), .val (.int x5), .val (.int x11), .val (.int x17), .val (.int (p0 &&& (255 : Int32))), .val (.int x19), .val (.int x20), .val (.int x25), .val (.int x31), .val (.int x37), .val (.ref bs43), .val (.ref bs51), .val (.long x58), .second, .val (.ref b61), .val (.ref b69), .unset, .unset, .unset] [(.int (1 : Int32))])) t → Steps p.tables e below B0 t := fun t k => K131 t (by
                                refine Own.ifNo X73 hx (hb hby at_255) ((if0 _ _).trans (teq hc132).2) ?_
                                refine Own.iconst X73 hx (1 : Int32) (hb hby at_258) rfl ?_
                                refine Own.goto X73 hx 263 (hb hby at_259) (by decide) (by decide) ?_
                                exact k)
                              exact ⟨T73, X73, e73, fun t k => K133 t (by rw [hx135, if_pos hc132] at k; exact k)⟩
                            · have K134 : ∀ t, Steps p.tables e below (T73.setTop (mkF m 263 #[.val (.int p0), .val (.int p1), .val (.long q2), .second, .val (.long q3), .second, .val (.int p4), .val (.int (p4 &&& (3 : Int32))), .val (.int x5), .val (.int x11), .val (.int x17), .val (.int (p0 &&& (255 : Int32))), .val (.int x19), .val (.int x20), .val (.int x25), .val (.int x31), .val (.int x37), .val (.ref bs43), .val (.ref bs51), .val (.long x58), .second, .val (.ref b61), .val (.ref b69), .unset, .unset, .unset] [(.int (0 : Int32))])) t → Steps p.tables e below B0 t := fun t k => K131 t (by
                                refine Own.ifYes X73 hx 262 (hb hby at_255) ((if0 _ _).trans (feq hc132).2) (by decide) (by decide) ?_
                                refine Own.iconst X73 hx (0 : Int32) (hb hby at_262) rfl ?_
                                exact k)
                              exact ⟨T73, X73, e73, fun t k => K134 t (by rw [hx135, if_neg hc132] at k; exact k)⟩
                          exact ⟨T136, X136, e136, fun t k => K136 t (by subst hx135; rw [hx137, if_neg hc129] at k; exact k)⟩
                      exact ⟨T138, X138, e138, fun t k => K138 t (by subst hx137; rw [hx140, if_pos hc127] at k; exact k)⟩
                    · have K139 : ∀ t, Steps p.tables e below (T73.setTop (mkF m 263 #[.val (.int p0), .val (.int p1), .val (.long q2), .second, .val (.long q3), .second, .val (.int p4), .val (.int (p4 &&& (3 : Int32))), .val (.int x5), .val (.int x11), .val (.int x17), .val (.int (p0 &&& (255 : Int32))), .val (.int x19), .val (.int x20), .val (.int x25), .val (.int x31), .val (.int x37), .val (.ref bs43), .val (.ref bs51), .val (.long x58), .second, .val (.ref b61), .val (.ref b69), .unset, .unset, .unset] [(.int (0 : Int32))])) t → Steps p.tables e below B0 t := fun t k => K126 t (by
                        refine Own.ifYes X73 hx 262 (hb hby at_244) ((if0 _ _).trans (feq hc127).2) (by decide) (by decide) ?_
                        refine Own.iconst X73 hx (0 : Int32) (hb hby at_262) rfl ?_
                        exact k)
                      exact ⟨T73, X73, e73, fun t k => K139 t (by rw [hx140, if_neg hc127] at k; exact k)⟩
                  exact ⟨T141, X141, e141, fun t k => K141 t (by subst hx140; rw [hx142, if_neg hc114] at k; exact k)⟩
              exact ⟨T143, X143, e143, fun t k => K143 t (by subst hx142; rw [hx145, if_pos hc112] at k; exact k)⟩
            · have K144 : ∀ t, Steps p.tables e below (T73.setTop (mkF m 263 #[.val (.int p0), .val (.int p1), .val (.long q2), .second, .val (.long q3), .second, .val (.int p4), .val (.int (p4 &&& (3 : Int32))), .val (.int x5), .val (.int x11), .val (.int x17), .val (.int (p0 &&& (255 : Int32))), .val (.int x19), .val (.int x20), .val (.int x25), .val (.int x31), .val (.int x37), .val (.ref bs43), .val (.ref bs51), .val (.long x58), .second, .val (.ref b61), .val (.ref b69), .unset, .unset, .unset] [(.int (0 : Int32))])) t → Steps p.tables e below B0 t := fun t k => K111 t (by
                refine Own.ifYes X73 hx 262 (hb hby at_233) ((if0 _ _).trans (feq hc112).2) (by decide) (by decide) ?_
                refine Own.iconst X73 hx (0 : Int32) (hb hby at_262) rfl ?_
                exact k)
              exact ⟨T73, X73, e73, fun t k => K144 t (by rw [hx145, if_neg hc112] at k; exact k)⟩
          exact ⟨T146, X146, e146, fun t k => K146 t (by subst hx145; rw [hx147, if_neg hc79] at k; exact k)⟩
      exact ⟨T148, X148, e148, fun t k => K148 t (by subst hx147; rw [hx150, if_pos hc77] at k; exact k)⟩
    · have K149 : ∀ t, Steps p.tables e below (T73.setTop (mkF m 263 #[.val (.int p0), .val (.int p1), .val (.long q2), .second, .val (.long q3), .second, .val (.int p4), .val (.int (p4 &&& (3 : Int32))), .val (.int x5), .val (.int x11), .val (.int x17), .val (.int (p0 &&& (255 : Int32))), .val (.int x19), .val (.int x20), .val (.int x25), .val (.int x31), .val (.int x37), .val (.ref bs43), .val (.ref bs51), .val (.long x58), .second, .val (.ref b61), .val (.ref b69), .unset, .unset, .unset] [(.int (0 : Int32))])) t → Steps p.tables e below B0 t := fun t k => K76 t (by
        refine Own.icmpYes X73 hx 262 (hb hby at_222) (feq hc77).2 (by decide) (by decide) ?_
        refine Own.iconst X73 hx (0 : Int32) (hb hby at_262) rfl ?_
        exact k)
      exact ⟨T73, X73, e73, fun t k => K149 t (by rw [hx150, if_neg hc77] at k; exact k)⟩
  have K152 : ∀ t, Steps p.tables e below (T151.setTop (mkF m 269 #[.val (.int p0), .val (.int p1), .val (.long q2), .second, .val (.long q3), .second, .val (.int p4), .val (.int (p4 &&& (3 : Int32))), .val (.int x5), .val (.int x11), .val (.int x17), .val (.int (p0 &&& (255 : Int32))), .val (.int x19), .val (.int x20), .val (.int x25), .val (.int x31), .val (.int x37), .val (.ref bs43), .val (.ref bs51), .val (.long x58), .second, .val (.ref b61), .val (.ref b69), .val (.int x150), .unset, .unset] [(.int (lcmpW x58 q2))])) t → Steps p.tables e below B0 t := fun t k => K151 t (by
    refine Own.istore X151 hx #[.val (.int p0), .val (.int p1), .val (.long q2), .second, .val (.long q3), .second, .val (.int p4), .val (.int (p4 &&& (3 : Int32))), .val (.int x5), .val (.int x11), .val (.int x17), .val (.int (p0 &&& (255 : Int32))), .val (.int x19), .val (.int x20), .val (.int x25), .val (.int x31), .val (.int x37), .val (.ref bs43), .val (.ref bs51), .val (.long x58), .second, .val (.ref b61), .val (.ref b69), .val (.int x150), .unset, .unset] (hb hby at_263) rfl ?_
    refine Own.lload X151 hx (hb hby at_265) rfl ?_
    refine Own.lloadN X151 hx (hb hby at_267) rfl ?_
    refine Own.lcmp X151 hx (hb hby at_268) ?_
    exact k)
  obtain ⟨x161, hx161⟩ : ∃ z : Int32, z = (if x58 = q2 then (if x150 = (0 : Int32) then (0 : Int32) else (1 : Int32)) else (0 : Int32)) := ⟨_, rfl⟩
  obtain ⟨T162, X162, e162, K162⟩ : ∃ T' : State, Stand p l e room_1 (s.setVm vm51) m #[(.int p0), (.int p1), (.long q2), (.long q3), (.int p4)] below meth c T' L73 18 44 ∧ T'.heap = h73 ∧ ∀ t, Steps p.tables e below (T'.setTop (mkF m 282 #[.val (.int p0), .val (.int p1), .val (.long q2), .second, .val (.long q3), .second, .val (.int p4), .val (.int (p4 &&& (3 : Int32))), .val (.int x5), .val (.int x11), .val (.int x17), .val (.int (p0 &&& (255 : Int32))), .val (.int x19), .val (.int x20), .val (.int x25), .val (.int x31), .val (.int x37), .val (.ref bs43), .val (.ref bs51), .val (.long x58), .second, .val (.ref b61), .val (.ref b69), .val (.int x150), .unset, .unset] [(.int x161)])) t → Steps p.tables e below B0 t := by
    by_cases hc153 : x58 = q2
    · have K154 : ∀ t, Steps p.tables e below (T151.setTop (mkF m 274 #[.val (.int p0), .val (.int p1), .val (.long q2), .second, .val (.long q3), .second, .val (.int p4), .val (.int (p4 &&& (3 : Int32))), .val (.int x5), .val (.int x11), .val (.int x17), .val (.int (p0 &&& (255 : Int32))), .val (.int x19), .val (.int x20), .val (.int x25), .val (.int x31), .val (.int x37), .val (.ref bs43), .val (.ref bs51), .val (.long x58), .second, .val (.ref b61), .val (.ref b69), .val (.int x150), .unset, .unset] [(.int x150)])) t → Steps p.tables e below B0 t := fun t k => K152 t (by
        refine Own.ifNo X151 hx (hb hby at_269) (Jvm.Free.XT.ll_ne_f hc153) ?_
        refine Own.iload X151 hx (hb hby at_272) rfl ?_
        exact k)
      obtain ⟨x158, hx158⟩ : ∃ z : Int32, z = (if x150 = (0 : Int32) then (0 : Int32) else (1 : Int32)) := ⟨_, rfl⟩
      obtain ⟨T159, X159, e159, K159⟩ : ∃ T' : State, Stand p l e room_1 (s.setVm vm51) m #[(.int p0), (.int p1), (.long q2), (.long q3), (.int p4)] below meth c T' L73 18 44 ∧ T'.heap = h73 ∧ ∀ t, Steps p.tables e below (T'.setTop (mkF m 282 #[.val (.int p0), .val (.int p1), .val (.long q2), .second, .val (.long q3), .second, .val (.int p4), .val (.int (p4 &&& (3 : Int32))), .val (.int x5), .val (.int x11), .val (.int x17), .val (.int (p0 &&& (255 : Int32))), .val (.int x19), .val (.int x20), .val (.int x25), .val (.int x31), .val (.int x37), .val (.ref bs43), .val (.ref bs51), .val (.long x58), .second, .val (.ref b61), .val (.ref b69), .val (.int x150), .unset, .unset] [(.int x158)])) t → Steps p.tables e below B0 t := by
        by_cases hc155 : x150 = (0 : Int32)
        · have K156 : ∀ t, Steps p.tables e below (T151.setTop (mkF m 282 #[.val (.int p0), .val (.int p1), .val (.long q2), .second, .val (.long q3), .second, .val (.int p4), .val (.int (p4 &&& (3 : Int32))), .val (.int x5), .val (.int x11), .val (.int x17), .val (.int (p0 &&& (255 : Int32))), .val (.int x19), .val (.int x20), .val (.int x25), .val (.int x31), .val (.int x37), .val (.ref bs43), .val (.ref bs51), .val (.long x58), .second, .val (.ref b61), .val (.ref b69), .val (.int x150), .unset, .unset] [(.int (0 : Int32))])) t → Steps p.tables e below B0 t := fun t k => K154 t (by
            refine Own.ifYes X151 hx 281 (hb hby at_274) ((if0 _ _).trans (teq hc155).1) (by decide) (by decide) ?_
            refine Own.iconst X151 hx (0 : Int32) (hb hby at_281) rfl ?_
            exact k)
          exact ⟨T151, X151, e151, fun t k => K156 t (by rw [hx158, if_pos hc155] at k; exact k)⟩
        · have K157 : ∀ t, Steps p.tables e below (T151.setTop (mkF m 282 #[.val (.int p0), .val (.int p1), .val (.long q2), .second, .val (.long q3), .second, .val (.int p4), .val (.int (p4 &&& (3 : Int32))), .val (.int x5), .val (.int x11), .val (.int x17), .val (.int (p0 &&& (255 : Int32))), .val (.int x19), .val (.int x20), .val (.int x25), .val (.int x31), .val (.int x37), .val (.ref bs43), .val (.ref bs51), .val (.long x58), .second, .val (.ref b61), .val (.ref b69), .val (.int x150), .unset, .unset] [(.int (1 : Int32))])) t → Steps p.tables e below B0 t := fun t k => K154 t (by
            refine Own.ifNo X151 hx (hb hby at_274) ((if0 _ _).trans (feq hc155).1) ?_
            refine Own.iconst X151 hx (1 : Int32) (hb hby at_277) rfl ?_
            refine Own.goto X151 hx 282 (hb hby at_278) (by decide) (by decide) ?_
            exact k)
          exact ⟨T151, X151, e151, fun t k => K157 t (by rw [hx158, if_neg hc155] at k; exact k)⟩
      exact ⟨T159, X159, e159, fun t k => K159 t (by subst hx158; rw [hx161, if_pos hc153] at k; exact k)⟩
    · have K160 : ∀ t, Steps p.tables e below (T151.setTop (mkF m 282 #[.val (.int p0), .val (.int p1), .val (.long q2), .second, .val (.long q3), .second, .val (.int p4), .val (.int (p4 &&& (3 : Int32))), .val (.int x5), .val (.int x11), .val (.int x17), .val (.int (p0 &&& (255 : Int32))), .val (.int x19), .val (.int x20), .val (.int x25), .val (.int x31), .val (.int x37), .val (.ref bs43), .val (.ref bs51), .val (.long x58), .second, .val (.ref b61), .val (.ref b69), .val (.int x150), .unset, .unset] [(.int (0 : Int32))])) t → Steps p.tables e below B0 t := fun t k => K152 t (by
        refine Own.ifYes X151 hx 281 (hb hby at_269) (Jvm.Free.XT.ll_ne_t hc153) (by decide) (by decide) ?_
        refine Own.iconst X151 hx (0 : Int32) (hb hby at_281) rfl ?_
        exact k)
      exact ⟨T151, X151, e151, fun t k => K160 t (by rw [hx161, if_neg hc153] at k; exact k)⟩
  have f163 := (Own.sta_keep ((Own.sta_keep ((f46.ext (Own.Ext.keep (Own.Ext.refl _) K51 all0)).ext E61) K65 A61).ext E69) K73 A69)
  have f164 := ((E65.ext E69).keep K73)
  have f165 := ((F65.ext E69).keep K73 (ninS (Nat.ne_of_lt (Nat.lt_of_lt_of_le E65.lt le_b69)) nin0))
  have f166 := ((G65.ext E69).keep K73 (ninS (Nat.ne_of_lt (Nat.lt_of_lt_of_le E65.lt le_b69)) nin0))
  have f167 := (t43.ext (Own.Ext.keep (Own.Ext.trans (Own.Ext.keep (Own.Ext.trans (Own.Ext.keep (Own.Ext.refl _) K51 all0) E61) K65 (allS (Nat.le_trans m52 le_b61) all0)) E69) K73 (allS (Nat.le_trans (Nat.le_trans (Nat.le_trans m52 m62) m66) le_b69) all0)))
  have f168 := (t51.ext (Own.Ext.keep (Own.Ext.trans (Own.Ext.keep E61 K65 (allS le_b61 all0)) E69) K73 (allS (Nat.le_trans (Nat.le_trans m62 m66) le_b69) all0)))
  have K169 : ∀ t, Steps p.tables e below (T162.setTop (mkF m 292 #[.val (.int p0), .val (.int p1), .val (.long q2), .second, .val (.long q3), .second, .val (.int p4), .val (.int (p4 &&& (3 : Int32))), .val (.int x5), .val (.int x11), .val (.int x17), .val (.int (p0 &&& (255 : Int32))), .val (.int x19), .val (.int x20), .val (.int x25), .val (.int x31), .val (.int x37), .val (.ref bs43), .val (.ref bs51), .val (.long x58), .second, .val (.ref b61), .val (.ref b69), .val (.int x150), .val (.int x161), .val (.ref bs43)] [(.ref b69), (.ref b61)])) t → Steps p.tables e below B0 t := fun t k => K162 t (by
    refine Own.istore X162 hx #[.val (.int p0), .val (.int p1), .val (.long q2), .second, .val (.long q3), .second, .val (.int p4), .val (.int (p4 &&& (3 : Int32))), .val (.int x5), .val (.int x11), .val (.int x17), .val (.int (p0 &&& (255 : Int32))), .val (.int x19), .val (.int x20), .val (.int x25), .val (.int x31), .val (.int x37), .val (.ref bs43), .val (.ref bs51), .val (.long x58), .second, .val (.ref b61), .val (.ref b69), .val (.int x150), .val (.int x161), .unset] (hb hby at_282) rfl ?_
    refine Own.aload X162 hx (hb hby at_284) rfl rfl ?_
    refine Own.astore X162 hx #[.val (.int p0), .val (.int p1), .val (.long q2), .second, .val (.long q3), .second, .val (.int p4), .val (.int (p4 &&& (3 : Int32))), .val (.int x5), .val (.int x11), .val (.int x17), .val (.int (p0 &&& (255 : Int32))), .val (.int x19), .val (.int x20), .val (.int x25), .val (.int x31), .val (.int x37), .val (.ref bs43), .val (.ref bs51), .val (.long x58), .second, .val (.ref b61), .val (.ref b69), .val (.int x150), .val (.int x161), .val (.ref bs43)] (hb hby at_286) rfl rfl ?_
    refine Own.aload X162 hx (hb hby at_288) rfl rfl ?_
    refine Own.aload X162 hx (hb hby at_290) rfl rfl ?_
    exact k)
  obtain ⟨T170, X170, e170, st170⟩ := Own.callVP (Ls := #[.val (.int p0), .val (.int p1), .val (.long q2), .second, .val (.long q3), .second, .val (.int p4), .val (.int (p4 &&& (3 : Int32))), .val (.int x5), .val (.int x11), .val (.int x17), .val (.int (p0 &&& (255 : Int32))), .val (.int x19), .val (.int x20), .val (.int x25), .val (.int x31), .val (.int x37), .val (.ref bs43), .val (.ref bs51), .val (.long x58), .second, .val (.ref b61), .val (.ref b69), .val (.int x150), .val (.int x161), .val (.ref bs43)]) X162 hx D74.hZ e162 b61 [(.ref b69)] [] (c10 l Z a0 hw b61 b69 bs43 bs51 q2 x58 (own_mk (p4 &&& (3 : Int32)) ((p0 &&& (255 : Int32)).toUInt32.toUInt16.toUInt32.toInt32) (x19.toUInt32.toUInt16.toUInt32.toInt32) (x20.toUInt32.toUInt16.toUInt32.toInt32)) (own_mk x17 (((p0 &&& (255 : Int32)) ^^^ x25).toUInt32.toUInt16.toUInt32.toInt32) ((x19 ^^^ x31).toUInt32.toUInt16.toUInt32.toInt32) ((x20 ^^^ x37).toUInt32.toUInt16.toUInt32.toInt32)) G1 h73 f163 hG1 f164 f165 f166 f167 E73 F73 G73 f168) D74.hown f164 (hw _ (List.mem_of_getElem? (i := 53) rfl)) (hw _ (List.mem_of_getElem? (i := 54) rfl)) (hw _ (List.mem_of_getElem? (i := 56) rfl)) (hw _ (List.mem_of_getElem? (i := 55) rfl)) (hw _ (List.mem_of_getElem? (i := 39) rfl)) (hw _ (List.mem_of_getElem? (i := 57) rfl)) (by decide) 0 rfl rfl (by decide) (by decide) (by decide) (by decide) (by rw [hml]; rfl) (lenOf pd_3 rfl) rfl (Nat.le_of_eq rfl) (hb hby at_292)
  have K171 : ∀ t, Steps p.tables e below (T170.setTop (mkF m 295 #[.val (.int p0), .val (.int p1), .val (.long q2), .second, .val (.long q3), .second, .val (.int p4), .val (.int (p4 &&& (3 : Int32))), .val (.int x5), .val (.int x11), .val (.int x17), .val (.int (p0 &&& (255 : Int32))), .val (.int x19), .val (.int x20), .val (.int x25), .val (.int x31), .val (.int x37), .val (.ref bs43), .val (.ref bs51), .val (.long x58), .second, .val (.ref b61), .val (.ref b69), .val (.int x150), .val (.int x161), .val (.ref bs43)] [(.int (F10 q2 x58 (own_mk (p4 &&& (3 : Int32)) ((p0 &&& (255 : Int32)).toUInt32.toUInt16.toUInt32.toInt32) (x19.toUInt32.toUInt16.toUInt32.toInt32) (x20.toUInt32.toUInt16.toUInt32.toInt32)) (own_mk x17 (((p0 &&& (255 : Int32)) ^^^ x25).toUInt32.toUInt16.toUInt32.toInt32) ((x19 ^^^ x31).toUInt32.toUInt16.toUInt32.toInt32) ((x20 ^^^ x37).toUInt32.toUInt16.toUInt32.toInt32))))])) t → Steps p.tables e below B0 t := fun t k => K169 t (st170 t k)
  have K172 : ∀ t, Steps p.tables e below (T170.setTop (mkF m 297 #[.val (.int p0), .val (.int p1), .val (.long q2), .second, .val (.long q3), .second, .val (.int p4), .val (.int (p4 &&& (3 : Int32))), .val (.int x5), .val (.int x11), .val (.int x17), .val (.int (p0 &&& (255 : Int32))), .val (.int x19), .val (.int x20), .val (.int x25), .val (.int x31), .val (.int x37), .val (.ref bs43), .val (.ref bs51), .val (.long x58), .second, .val (.ref b61), .val (.ref b69), .val (.int x150), .val (.int x161), .val (.ref bs43)] [(.int x161), (.int (F10 q2 x58 (own_mk (p4 &&& (3 : Int32)) ((p0 &&& (255 : Int32)).toUInt32.toUInt16.toUInt32.toInt32) (x19.toUInt32.toUInt16.toUInt32.toInt32) (x20.toUInt32.toUInt16.toUInt32.toInt32)) (own_mk x17 (((p0 &&& (255 : Int32)) ^^^ x25).toUInt32.toUInt16.toUInt32.toInt32) ((x19 ^^^ x31).toUInt32.toUInt16.toUInt32.toInt32) ((x20 ^^^ x37).toUInt32.toUInt16.toUInt32.toInt32))))])) t → Steps p.tables e below B0 t := fun t k => K171 t (by
    refine Own.iload X170 hx (hb hby at_295) rfl ?_
    exact k)
  obtain ⟨x197, hx197⟩ : ∃ z : Int32, z = (if (F10 q2 x58 (own_mk (p4 &&& (3 : Int32)) ((p0 &&& (255 : Int32)).toUInt32.toUInt16.toUInt32.toInt32) (x19.toUInt32.toUInt16.toUInt32.toInt32) (x20.toUInt32.toUInt16.toUInt32.toInt32)) (own_mk x17 (((p0 &&& (255 : Int32)) ^^^ x25).toUInt32.toUInt16.toUInt32.toInt32) ((x19 ^^^ x31).toUInt32.toUInt16.toUInt32.toInt32) ((x20 ^^^ x37).toUInt32.toUInt16.toUInt32.toInt32))) = x161 then (if (F10 x58 q2 (own_mk x17 (((p0 &&& (255 : Int32)) ^^^ x25).toUInt32.toUInt16.toUInt32.toInt32) ((x19 ^^^ x31).toUInt32.toUInt16.toUInt32.toInt32) ((x20 ^^^ x37).toUInt32.toUInt16.toUInt32.toInt32)) (own_mk (p4 &&& (3 : Int32)) ((p0 &&& (255 : Int32)).toUInt32.toUInt16.toUInt32.toInt32) (x19.toUInt32.toUInt16.toUInt32.toInt32) (x20.toUInt32.toUInt16.toUInt32.toInt32))) = x161 then (if (F10 q2 q2 (own_mk (p4 &&& (3 : Int32)) ((p0 &&& (255 : Int32)).toUInt32.toUInt16.toUInt32.toInt32) (x19.toUInt32.toUInt16.toUInt32.toInt32) (x20.toUInt32.toUInt16.toUInt32.toInt32)) (own_mk (p4 &&& (3 : Int32)) ((p0 &&& (255 : Int32)).toUInt32.toUInt16.toUInt32.toInt32) (x19.toUInt32.toUInt16.toUInt32.toInt32) (x20.toUInt32.toUInt16.toUInt32.toInt32))) = (0 : Int32) then (0 : Int32) else (1 : Int32)) else (0 : Int32)) else (0 : Int32)) := ⟨_, rfl⟩
  obtain ⟨T198, X198, e198, K198⟩ : ∃ T' : State, Stand p l e room_1 (s.setVm vm51) m #[(.int p0), (.int p1), (.long q2), (.long q3), (.int p4)] below meth c T' L73 18 44 ∧ T'.heap = h73 ∧ ∀ t, Steps p.tables e below (T'.setTop (mkF m 346 #[.val (.int p0), .val (.int p1), .val (.long q2), .second, .val (.long q3), .second, .val (.int p4), .val (.int (p4 &&& (3 : Int32))), .val (.int x5), .val (.int x11), .val (.int x17), .val (.int (p0 &&& (255 : Int32))), .val (.int x19), .val (.int x20), .val (.int x25), .val (.int x31), .val (.int x37), .val (.ref bs43), .val (.ref bs51), .val (.long x58), .second, .val (.ref b61), .val (.ref b69), .val (.int x150), .val (.int x161), .val (.ref bs43)] [(.int x197)])) t → Steps p.tables e below B0 t := by
    by_cases hc173 : (F10 q2 x58 (own_mk (p4 &&& (3 : Int32)) ((p0 &&& (255 : Int32)).toUInt32.toUInt16.toUInt32.toInt32) (x19.toUInt32.toUInt16.toUInt32.toInt32) (x20.toUInt32.toUInt16.toUInt32.toInt32)) (own_mk x17 (((p0 &&& (255 : Int32)) ^^^ x25).toUInt32.toUInt16.toUInt32.toInt32) ((x19 ^^^ x31).toUInt32.toUInt16.toUInt32.toInt32) ((x20 ^^^ x37).toUInt32.toUInt16.toUInt32.toInt32))) = x161
    · have K174 : ∀ t, Steps p.tables e below (T170.setTop (mkF m 304 #[.val (.int p0), .val (.int p1), .val (.long q2), .second, .val (.long q3), .second, .val (.int p4), .val (.int (p4 &&& (3 : Int32))), .val (.int x5), .val (.int x11), .val (.int x17), .val (.int (p0 &&& (255 : Int32))), .val (.int x19), .val (.int x20), .val (.int x25), .val (.int x31), .val (.int x37), .val (.ref bs43), .val (.ref bs51), .val (.long x58), .second, .val (.ref b61), .val (.ref b69), .val (.int x150), .val (.int x161), .val (.ref bs43)] [(.ref b61), (.ref b69)])) t → Steps p.tables e below B0 t := fun t k => K172 t (by
        refine Own.icmpNo X170 hx (hb hby at_297) (teq hc173).2 ?_
        refine Own.aload X170 hx (hb hby at_300) rfl rfl ?_
        refine Own.aload X170 hx (hb hby at_302) rfl rfl ?_
        exact k)
      obtain ⟨T175, X175, e175, st175⟩ := Own.callVP (Ls := #[.val (.int p0), .val (.int p1), .val (.long q2), .second, .val (.long q3), .second, .val (.int p4), .val (.int (p4 &&& (3 : Int32))), .val (.int x5), .val (.int x11), .val (.int x17), .val (.int (p0 &&& (255 : Int32))), .val (.int x19), .val (.int x20), .val (.int x25), .val (.int x31), .val (.int x37), .val (.ref bs43), .val (.ref bs51), .val (.long x58), .second, .val (.ref b61), .val (.ref b69), .val (.int x150), .val (.int x161), .val (.ref bs43)]) X170 hx D74.hZ e170 b69 [(.ref b61)] [] (c10 l Z a0 hw b69 b61 bs51 bs43 x58 q2 (own_mk x17 (((p0 &&& (255 : Int32)) ^^^ x25).toUInt32.toUInt16.toUInt32.toInt32) ((x19 ^^^ x31).toUInt32.toUInt16.toUInt32.toInt32) ((x20 ^^^ x37).toUInt32.toUInt16.toUInt32.toInt32)) (own_mk (p4 &&& (3 : Int32)) ((p0 &&& (255 : Int32)).toUInt32.toUInt16.toUInt32.toInt32) (x19.toUInt32.toUInt16.toUInt32.toInt32) (x20.toUInt32.toUInt16.toUInt32.toInt32)) G1 h73 f163 hG1 E73 F73 G73 f168 f164 f165 f166 f167) D74.hown E73 (hw _ (List.mem_of_getElem? (i := 53) rfl)) (hw _ (List.mem_of_getElem? (i := 54) rfl)) (hw _ (List.mem_of_getElem? (i := 56) rfl)) (hw _ (List.mem_of_getElem? (i := 55) rfl)) (hw _ (List.mem_of_getElem? (i := 39) rfl)) (hw _ (List.mem_of_getElem? (i := 57) rfl)) (by decide) 0 rfl rfl (by decide) (by decide) (by decide) (by decide) (by rw [hml]; rfl) (lenOf pd_3 rfl) rfl (Nat.le_of_eq rfl) (hb hby at_304)
      have K176 : ∀ t, Steps p.tables e below (T175.setTop (mkF m 307 #[.val (.int p0), .val (.int p1), .val (.long q2), .second, .val (.long q3), .second, .val (.int p4), .val (.int (p4 &&& (3 : Int32))), .val (.int x5), .val (.int x11), .val (.int x17), .val (.int (p0 &&& (255 : Int32))), .val (.int x19), .val (.int x20), .val (.int x25), .val (.int x31), .val (.int x37), .val (.ref bs43), .val (.ref bs51), .val (.long x58), .second, .val (.ref b61), .val (.ref b69), .val (.int x150), .val (.int x161), .val (.ref bs43)] [(.int (F10 x58 q2 (own_mk x17 (((p0 &&& (255 : Int32)) ^^^ x25).toUInt32.toUInt16.toUInt32.toInt32) ((x19 ^^^ x31).toUInt32.toUInt16.toUInt32.toInt32) ((x20 ^^^ x37).toUInt32.toUInt16.toUInt32.toInt32)) (own_mk (p4 &&& (3 : Int32)) ((p0 &&& (255 : Int32)).toUInt32.toUInt16.toUInt32.toInt32) (x19.toUInt32.toUInt16.toUInt32.toInt32) (x20.toUInt32.toUInt16.toUInt32.toInt32))))])) t → Steps p.tables e below B0 t := fun t k => K174 t (st175 t k)
      have K177 : ∀ t, Steps p.tables e below (T175.setTop (mkF m 309 #[.val (.int p0), .val (.int p1), .val (.long q2), .second, .val (.long q3), .second, .val (.int p4), .val (.int (p4 &&& (3 : Int32))), .val (.int x5), .val (.int x11), .val (.int x17), .val (.int (p0 &&& (255 : Int32))), .val (.int x19), .val (.int x20), .val (.int x25), .val (.int x31), .val (.int x37), .val (.ref bs43), .val (.ref bs51), .val (.long x58), .second, .val (.ref b61), .val (.ref b69), .val (.int x150), .val (.int x161), .val (.ref bs43)] [(.int x161), (.int (F10 x58 q2 (own_mk x17 (((p0 &&& (255 : Int32)) ^^^ x25).toUInt32.toUInt16.toUInt32.toInt32) ((x19 ^^^ x31).toUInt32.toUInt16.toUInt32.toInt32) ((x20 ^^^ x37).toUInt32.toUInt16.toUInt32.toInt32)) (own_mk (p4 &&& (3 : Int32)) ((p0 &&& (255 : Int32)).toUInt32.toUInt16.toUInt32.toInt32) (x19.toUInt32.toUInt16.toUInt32.toInt32) (x20.toUInt32.toUInt16.toUInt32.toInt32))))])) t → Steps p.tables e below B0 t := fun t k => K176 t (by
        refine Own.iload X175 hx (hb hby at_307) rfl ?_
        exact k)
      obtain ⟨x194, hx194⟩ : ∃ z : Int32, z = (if (F10 x58 q2 (own_mk x17 (((p0 &&& (255 : Int32)) ^^^ x25).toUInt32.toUInt16.toUInt32.toInt32) ((x19 ^^^ x31).toUInt32.toUInt16.toUInt32.toInt32) ((x20 ^^^ x37).toUInt32.toUInt16.toUInt32.toInt32)) (own_mk (p4 &&& (3 : Int32)) ((p0 &&& (255 : Int32)).toUInt32.toUInt16.toUInt32.toInt32) (x19.toUInt32.toUInt16.toUInt32.toInt32) (x20.toUInt32.toUInt16.toUInt32.toInt32))) = x161 then (if (F10 q2 q2 (own_mk (p4 &&& (3 : Int32)) ((p0 &&& (255 : Int32)).toUInt32.toUInt16.toUInt32.toInt32) (x19.toUInt32.toUInt16.toUInt32.toInt32) (x20.toUInt32.toUInt16.toUInt32.toInt32)) (own_mk (p4 &&& (3 : Int32)) ((p0 &&& (255 : Int32)).toUInt32.toUInt16.toUInt32.toInt32) (x19.toUInt32.toUInt16.toUInt32.toInt32) (x20.toUInt32.toUInt16.toUInt32.toInt32))) = (0 : Int32) then (0 : Int32) else (1 : Int32)) else (0 : Int32)) := ⟨_, rfl⟩
      obtain ⟨T195, X195, e195, K195⟩ : ∃ T' : State, Stand p l e room_1 (s.setVm vm51) m #[(.int p0), (.int p1), (.long q2), (.long q3), (.int p4)] below meth c T' L73 18 44 ∧ T'.heap = h73 ∧ ∀ t, Steps p.tables e below (T'.setTop (mkF m 346 #[.val (.int p0), .val (.int p1), .val (.long q2), .second, .val (.long q3), .second, .val (.int p4), .val (.int (p4 &&& (3 : Int32))), .val (.int x5), .val (.int x11), .val (.int x17), .val (.int (p0 &&& (255 : Int32))), .val (.int x19), .val (.int x20), .val (.int x25), .val (.int x31), .val (.int x37), .val (.ref bs43), .val (.ref bs51), .val (.long x58), .second, .val (.ref b61), .val (.ref b69), .val (.int x150), .val (.int x161), .val (.ref bs43)] [(.int x194)])) t → Steps p.tables e below B0 t := by
        by_cases hc178 : (F10 x58 q2 (own_mk x17 (((p0 &&& (255 : Int32)) ^^^ x25).toUInt32.toUInt16.toUInt32.toInt32) ((x19 ^^^ x31).toUInt32.toUInt16.toUInt32.toInt32) ((x20 ^^^ x37).toUInt32.toUInt16.toUInt32.toInt32)) (own_mk (p4 &&& (3 : Int32)) ((p0 &&& (255 : Int32)).toUInt32.toUInt16.toUInt32.toInt32) (x19.toUInt32.toUInt16.toUInt32.toInt32) (x20.toUInt32.toUInt16.toUInt32.toInt32))) = x161
        · have K179 : ∀ t, Steps p.tables e below (T175.setTop (mkF m 316 #[.val (.int p0), .val (.int p1), .val (.long q2), .second, .val (.long q3), .second, .val (.int p4), .val (.int (p4 &&& (3 : Int32))), .val (.int x5), .val (.int x11), .val (.int x17), .val (.int (p0 &&& (255 : Int32))), .val (.int x19), .val (.int x20), .val (.int x25), .val (.int x31), .val (.int x37), .val (.ref bs43), .val (.ref bs51), .val (.long x58), .second, .val (.ref b61), .val (.ref b69), .val (.int x150), .val (.int x161), .val (.ref bs43)] [(.ref b61), (.ref b61)])) t → Steps p.tables e below B0 t := fun t k => K177 t (by
            refine Own.icmpNo X175 hx (hb hby at_309) (teq hc178).2 ?_
            refine Own.aload X175 hx (hb hby at_312) rfl rfl ?_
            refine Own.aload X175 hx (hb hby at_314) rfl rfl ?_
            exact k)
          obtain ⟨T180, X180, e180, st180⟩ := Own.callVP (Ls := #[.val (.int p0), .val (.int p1), .val (.long q2), .second, .val (.long q3), .second, .val (.int p4), .val (.int (p4 &&& (3 : Int32))), .val (.int x5), .val (.int x11), .val (.int x17), .val (.int (p0 &&& (255 : Int32))), .val (.int x19), .val (.int x20), .val (.int x25), .val (.int x31), .val (.int x37), .val (.ref bs43), .val (.ref bs51), .val (.long x58), .second, .val (.ref b61), .val (.ref b69), .val (.int x150), .val (.int x161), .val (.ref bs43)]) X175 hx D74.hZ e175 b61 [(.ref b61)] [] (c10 l Z a0 hw b61 b61 bs43 bs43 q2 q2 (own_mk (p4 &&& (3 : Int32)) ((p0 &&& (255 : Int32)).toUInt32.toUInt16.toUInt32.toInt32) (x19.toUInt32.toUInt16.toUInt32.toInt32) (x20.toUInt32.toUInt16.toUInt32.toInt32)) (own_mk (p4 &&& (3 : Int32)) ((p0 &&& (255 : Int32)).toUInt32.toUInt16.toUInt32.toInt32) (x19.toUInt32.toUInt16.toUInt32.toInt32) (x20.toUInt32.toUInt16.toUInt32.toInt32)) G1 h73 f163 hG1 f164 f165 f166 f167 f164 f165 f166 f167) D74.hown f164 (hw _ (List.mem_of_getElem? (i := 53) rfl)) (hw _ (List.mem_of_getElem? (i := 54) rfl)) (hw _ (List.mem_of_getElem? (i := 56) rfl)) (hw _ (List.mem_of_getElem? (i := 55) rfl)) (hw _ (List.mem_of_getElem? (i := 39) rfl)) (hw _ (List.mem_of_getElem? (i := 57) rfl)) (by decide) 0 rfl rfl (by decide) (by decide) (by decide) (by decide) (by rw [hml]; rfl) (lenOf pd_3 rfl) rfl (Nat.le_of_eq rfl) (hb hby at_316)
          have K181 : ∀ t, Steps p.tables e below (T180.setTop (mkF m 319 #[.val (.int p0), .val (.int p1), .val (.long q2), .second, .val (.long q3), .second, .val (.int p4), .val (.int (p4 &&& (3 : Int32))), .val (.int x5), .val (.int x11), .val (.int x17), .val (.int (p0 &&& (255 : Int32))), .val (.int x19), .val (.int x20), .val (.int x25), .val (.int x31), .val (.int x37), .val (.ref bs43), .val (.ref bs51), .val (.long x58), .second, .val (.ref b61), .val (.ref b69), .val (.int x150), .val (.int x161), .val (.ref bs43)] [(.int (F10 q2 q2 (own_mk (p4 &&& (3 : Int32)) ((p0 &&& (255 : Int32)).toUInt32.toUInt16.toUInt32.toInt32) (x19.toUInt32.toUInt16.toUInt32.toInt32) (x20.toUInt32.toUInt16.toUInt32.toInt32)) (own_mk (p4 &&& (3 : Int32)) ((p0 &&& (255 : Int32)).toUInt32.toUInt16.toUInt32.toInt32) (x19.toUInt32.toUInt16.toUInt32.toInt32) (x20.toUInt32.toUInt16.toUInt32.toInt32))))])) t → Steps p.tables e below B0 t := fun t k => K179 t (st180 t k)
          obtain ⟨x191, hx191⟩ : ∃ z : Int32, z = (if (F10 q2 q2 (own_mk (p4 &&& (3 : Int32)) ((p0 &&& (255 : Int32)).toUInt32.toUInt16.toUInt32.toInt32) (x19.toUInt32.toUInt16.toUInt32.toInt32) (x20.toUInt32.toUInt16.toUInt32.toInt32)) (own_mk (p4 &&& (3 : Int32)) ((p0 &&& (255 : Int32)).toUInt32.toUInt16.toUInt32.toInt32) (x19.toUInt32.toUInt16.toUInt32.toInt32) (x20.toUInt32.toUInt16.toUInt32.toInt32))) = (0 : Int32) then (0 : Int32) else (1 : Int32)) := ⟨_, rfl⟩
          obtain ⟨T192, X192, e192, K192⟩ : ∃ T' : State, Stand p l e room_1 (s.setVm vm51) m #[(.int p0), (.int p1), (.long q2), (.long q3), (.int p4)] below meth c T' L73 18 44 ∧ T'.heap = h73 ∧ ∀ t, Steps p.tables e below (T'.setTop (mkF m 346 #[.val (.int p0), .val (.int p1), .val (.long q2), .second, .val (.long q3), .second, .val (.int p4), .val (.int (p4 &&& (3 : Int32))), .val (.int x5), .val (.int x11), .val (.int x17), .val (.int (p0 &&& (255 : Int32))), .val (.int x19), .val (.int x20), .val (.int x25), .val (.int x31), .val (.int x37), .val (.ref bs43), .val (.ref bs51), .val (.long x58), .second, .val (.ref b61), .val (.ref b69), .val (.int x150), .val (.int x161), .val (.ref bs43)] [(.int x191)])) t → Steps p.tables e below B0 t := by
            by_cases hc182 : (F10 q2 q2 (own_mk (p4 &&& (3 : Int32)) ((p0 &&& (255 : Int32)).toUInt32.toUInt16.toUInt32.toInt32) (x19.toUInt32.toUInt16.toUInt32.toInt32) (x20.toUInt32.toUInt16.toUInt32.toInt32)) (own_mk (p4 &&& (3 : Int32)) ((p0 &&& (255 : Int32)).toUInt32.toUInt16.toUInt32.toInt32) (x19.toUInt32.toUInt16.toUInt32.toInt32) (x20.toUInt32.toUInt16.toUInt32.toInt32))) = (0 : Int32)
            · have K183 : ∀ t, Steps p.tables e below (T180.setTop (mkF m 346 #[.val (.int p0), .val (.int p1), .val (.long q2), .second, .val (.long q3), .second, .val (.int p4), .val (.int (p4 &&& (3 : Int32))), .val (.int x5), .val (.int x11), .val (.int x17), .val (.int (p0 &&& (255 : Int32))), .val (.int x19), .val (.int x20), .val (.int x25), .val (.int x31), .val (.int x37), .val (.ref bs43), .val (.ref bs51), .val (.long x58), .second, .val (.ref b61), .val (.ref b69), .val (.int x150), .val (.int x161), .val (.ref bs43)] [(.int (0 : Int32))])) t → Steps p.tables e below B0 t := fun t k => K181 t (by
                refine Own.ifYes X180 hx 345 (hb hby at_319) ((if0 _ _).trans (teq hc182).1) (by decide) (by decide) ?_
                refine Own.iconst X180 hx (0 : Int32) (hb hby at_345) rfl ?_
                exact k)
              exact ⟨T180, X180, e180, fun t k => K183 t (by rw [hx191, if_pos hc182] at k; exact k)⟩
            · have K184 : ∀ t, Steps p.tables e below (T180.setTop (mkF m 325 #[.val (.int p0), .val (.int p1), .val (.long q2), .second, .val (.long q3), .second, .val (.int p4), .val (.int (p4 &&& (3 : Int32))), .val (.int x5), .val (.int x11), .val (.int x17), .val (.int (p0 &&& (255 : Int32))), .val (.int x19), .val (.int x20), .val (.int x25), .val (.int x31), .val (.int x37), .val (.ref bs43), .val (.ref bs51), .val (.long x58), .second, .val (.ref b61), .val (.ref b69), .val (.int x150), .val (.int x161), .val (.ref bs43)] [.null, (.ref b61)])) t → Steps p.tables e below B0 t := fun t k => K181 t (by
                refine Own.ifNo X180 hx (hb hby at_319) ((if0 _ _).trans (feq hc182).1) ?_
                refine Own.aload X180 hx (hb hby at_322) rfl rfl ?_
                refine Own.aconstNull X180 hx (hb hby at_324) ?_
                exact k)
              obtain ⟨T185, X185, e185, st185⟩ := Own.callVP (Ls := #[.val (.int p0), .val (.int p1), .val (.long q2), .second, .val (.long q3), .second, .val (.int p4), .val (.int (p4 &&& (3 : Int32))), .val (.int x5), .val (.int x11), .val (.int x17), .val (.int (p0 &&& (255 : Int32))), .val (.int x19), .val (.int x20), .val (.int x25), .val (.int x31), .val (.int x37), .val (.ref bs43), .val (.ref bs51), .val (.long x58), .second, .val (.ref b61), .val (.ref b69), .val (.int x150), .val (.int x161), .val (.ref bs43)]) X180 hx D74.hZ e180 b61 [.null] [] (cEqN l Z a0 hw b61  h73 ) D74.hown f164 (hw _ (List.mem_of_getElem? (i := 53) rfl)) (hw _ (List.mem_of_getElem? (i := 54) rfl)) (hw _ (List.mem_of_getElem? (i := 56) rfl)) (hw _ (List.mem_of_getElem? (i := 55) rfl)) (hw _ (List.mem_of_getElem? (i := 39) rfl)) (hw _ (List.mem_of_getElem? (i := 57) rfl)) (by decide) 0 rfl rfl (by decide) (by decide) (by decide) (by decide) (by rw [hml]; rfl) (lenOf pd_3 rfl) rfl (Nat.le_of_eq rfl) (hb hby at_325)
              have K186 : ∀ t, Steps p.tables e below (T185.setTop (mkF m 328 #[.val (.int p0), .val (.int p1), .val (.long q2), .second, .val (.long q3), .second, .val (.int p4), .val (.int (p4 &&& (3 : Int32))), .val (.int x5), .val (.int x11), .val (.int x17), .val (.int (p0 &&& (255 : Int32))), .val (.int x19), .val (.int x20), .val (.int x25), .val (.int x31), .val (.int x37), .val (.ref bs43), .val (.ref bs51), .val (.long x58), .second, .val (.ref b61), .val (.ref b69), .val (.int x150), .val (.int x161), .val (.ref bs43)] [(.int (0 : Int32))])) t → Steps p.tables e below B0 t := fun t k => K184 t (st185 t k)
              have K187 : ∀ t, Steps p.tables e below (T185.setTop (mkF m 335 #[.val (.int p0), .val (.int p1), .val (.long q2), .second, .val (.long q3), .second, .val (.int p4), .val (.int (p4 &&& (3 : Int32))), .val (.int x5), .val (.int x11), .val (.int x17), .val (.int (p0 &&& (255 : Int32))), .val (.int x19), .val (.int x20), .val (.int x25), .val (.int x31), .val (.int x37), .val (.ref bs43), .val (.ref bs51), .val (.long x58), .second, .val (.ref b61), .val (.ref b69), .val (.int x150), .val (.int x161), .val (.ref bs43)] [(.ref bs43), (.ref b61)])) t → Steps p.tables e below B0 t := fun t k => K186 t (by
                refine Own.ifNo X185 hx (hb hby at_328) ((if0 _ _).trans (teq (by decide : (0 : Int32) = (0 : Int32))).2) ?_
                refine Own.aload X185 hx (hb hby at_331) rfl rfl ?_
                refine Own.aload X185 hx (hb hby at_333) rfl rfl ?_
                exact k)
              obtain ⟨T188, X188, e188, st188⟩ := Own.callVP (Ls := #[.val (.int p0), .val (.int p1), .val (.long q2), .second, .val (.long q3), .second, .val (.int p4), .val (.int (p4 &&& (3 : Int32))), .val (.int x5), .val (.int x11), .val (.int x17), .val (.int (p0 &&& (255 : Int32))), .val (.int x19), .val (.int x20), .val (.int x25), .val (.int x31), .val (.int x37), .val (.ref bs43), .val (.ref bs51), .val (.long x58), .second, .val (.ref b61), .val (.ref b69), .val (.int x150), .val (.int x161), .val (.ref bs43)]) X185 hx D74.hZ e185 b61 [(.ref bs43)] [] (cEqS l Z a0 hw b61 bs43 (own_mk (p4 &&& (3 : Int32)) ((p0 &&& (255 : Int32)).toUInt32.toUInt16.toUInt32.toInt32) (x19.toUInt32.toUInt16.toUInt32.toInt32) (x20.toUInt32.toUInt16.toUInt32.toInt32)) h73 f167) D74.hown f164 (hw _ (List.mem_of_getElem? (i := 53) rfl)) (hw _ (List.mem_of_getElem? (i := 54) rfl)) (hw _ (List.mem_of_getElem? (i := 56) rfl)) (hw _ (List.mem_of_getElem? (i := 55) rfl)) (hw _ (List.mem_of_getElem? (i := 39) rfl)) (hw _ (List.mem_of_getElem? (i := 57) rfl)) (by decide) 0 rfl rfl (by decide) (by decide) (by decide) (by decide) (by rw [hml]; rfl) (lenOf pd_3 rfl) rfl (Nat.le_of_eq rfl) (hb hby at_335)
              have K189 : ∀ t, Steps p.tables e below (T188.setTop (mkF m 338 #[.val (.int p0), .val (.int p1), .val (.long q2), .second, .val (.long q3), .second, .val (.int p4), .val (.int (p4 &&& (3 : Int32))), .val (.int x5), .val (.int x11), .val (.int x17), .val (.int (p0 &&& (255 : Int32))), .val (.int x19), .val (.int x20), .val (.int x25), .val (.int x31), .val (.int x37), .val (.ref bs43), .val (.ref bs51), .val (.long x58), .second, .val (.ref b61), .val (.ref b69), .val (.int x150), .val (.int x161), .val (.ref bs43)] [(.int (0 : Int32))])) t → Steps p.tables e below B0 t := fun t k => K187 t (st188 t k)
              have K190 : ∀ t, Steps p.tables e below (T188.setTop (mkF m 346 #[.val (.int p0), .val (.int p1), .val (.long q2), .second, .val (.long q3), .second, .val (.int p4), .val (.int (p4 &&& (3 : Int32))), .val (.int x5), .val (.int x11), .val (.int x17), .val (.int (p0 &&& (255 : Int32))), .val (.int x19), .val (.int x20), .val (.int x25), .val (.int x31), .val (.int x37), .val (.ref bs43), .val (.ref bs51), .val (.long x58), .second, .val (.ref b61), .val (.ref b69), .val (.int x150), .val (.int x161), .val (.ref bs43)] [(.int (1 : Int32))])) t → Steps p.tables e below B0 t := fun t k => K189 t (by
                refine Own.ifNo X188 hx (hb hby at_338) ((if0 _ _).trans (teq (by decide : (0 : Int32) = (0 : Int32))).2) ?_
                refine Own.iconst X188 hx (1 : Int32) (hb hby at_341) rfl ?_
                refine Own.goto X188 hx 346 (hb hby at_342) (by decide) (by decide) ?_
                exact k)
              exact ⟨T188, X188, e188, fun t k => K190 t (by rw [hx191, if_neg hc182] at k; exact k)⟩
          exact ⟨T192, X192, e192, fun t k => K192 t (by subst hx191; rw [hx194, if_pos hc178] at k; exact k)⟩
        · have K193 : ∀ t, Steps p.tables e below (T175.setTop (mkF m 346 #[.val (.int p0), .val (.int p1), .val (.long q2), .second, .val (.long q3), .second, .val (.int p4), .val (.int (p4 &&& (3 : Int32))), .val (.int x5), .val (.int x11), .val (.int x17), .val (.int (p0 &&& (255 : Int32))), .val (.int x19), .val (.int x20), .val (.int x25), .val (.int x31), .val (.int x37), .val (.ref bs43), .val (.ref bs51), .val (.long x58), .second, .val (.ref b61), .val (.ref b69), .val (.int x150), .val (.int x161), .val (.ref bs43)] [(.int (0 : Int32))])) t → Steps p.tables e below B0 t := fun t k => K177 t (by
            refine Own.icmpYes X175 hx 345 (hb hby at_309) (feq hc178).2 (by decide) (by decide) ?_
            refine Own.iconst X175 hx (0 : Int32) (hb hby at_345) rfl ?_
            exact k)
          exact ⟨T175, X175, e175, fun t k => K193 t (by rw [hx194, if_neg hc178] at k; exact k)⟩
      exact ⟨T195, X195, e195, fun t k => K195 t (by subst hx194; rw [hx197, if_pos hc173] at k; exact k)⟩
    · have K196 : ∀ t, Steps p.tables e below (T170.setTop (mkF m 346 #[.val (.int p0), .val (.int p1), .val (.long q2), .second, .val (.long q3), .second, .val (.int p4), .val (.int (p4 &&& (3 : Int32))), .val (.int x5), .val (.int x11), .val (.int x17), .val (.int (p0 &&& (255 : Int32))), .val (.int x19), .val (.int x20), .val (.int x25), .val (.int x31), .val (.int x37), .val (.ref bs43), .val (.ref bs51), .val (.long x58), .second, .val (.ref b61), .val (.ref b69), .val (.int x150), .val (.int x161), .val (.ref bs43)] [(.int (0 : Int32))])) t → Steps p.tables e below B0 t := fun t k => K172 t (by
        refine Own.icmpYes X170 hx 345 (hb hby at_297) (feq hc173).2 (by decide) (by decide) ?_
        refine Own.iconst X170 hx (0 : Int32) (hb hby at_345) rfl ?_
        exact k)
      exact ⟨T170, X170, e170, fun t k => K196 t (by rw [hx197, if_neg hc173] at k; exact k)⟩
  exact Own.finHN X198 hx (own_hEL hw) e198 D74 (BodyLoose.notSynchronized Bd) Bd.returns (by simp) (hb hby at_346) K198 (by decide) (by decide) ⟨by subst hx197; subst hx161; subst hx150; subst hx58; subst hx37; subst hx31; subst hx25; subst hx20; subst hx19; subst hx17; subst hx11; subst hx5; exact congrArg (fun z => some (Value.int z)) (own_res1 p0 p1 q2 q3 p4), hn0 ▸ N73⟩

set_option maxRecDepth 65536 in
set_option maxHeartbeats 40000000 in
theorem comes_1 {Post : Tables → Env → Array Value → State → Outcome → State → Prop} (hpost : ∀ tb e args s v u, (limb_1_1.after args s (.returned v) u = true ∧ limb_1_2.after args s (.returned v) u = true ∧ True) → ReturnedEndW s (.returned v) u (Jvm.fieldLocs frame_1_writes args s ++ Jvm.arrayLocs frame_1_arrays args s ++ Jvm.staticLocs frame_1_statics s) 32 1152 → Post tb e args s (.returned v) u) :
    ArmFor flags0 classFile x code maxLocals ret World_1 tables_1 room_1 Calls_1 rest_1 Pre_1 Post := by
  intro l hfl _ _ p e ha hc hk s m args below hf hA hF happ hP
  obtain ⟨hcalls, hrest, hpre⟩ := hP
  obtain ⟨-, -, -, hnamed, -, -, -, hat⟩ := (Spec.applies_iff hf).mp happ
  obtain ⟨hg, hn⟩ := and_e (Cond.before_iff.mp (show (Jvm.Cond.and given_1 narrow_1).before args s = true from hpre))
  obtain ⟨gA0, gB0⟩ := and_e hg
  obtain ⟨gA1, gB1⟩ := and_e gB0
  obtain ⟨gA2, gB2⟩ := and_e gB1
  obtain ⟨gA3, gB3⟩ := and_e gB2
  obtain ⟨gA4, gB4⟩ := and_e gB3
  obtain ⟨w0, w1, w2, w3, w4, rfl⟩ : ∃ w0 w1 w2 w3 w4 : Value, args = #[w0, w1, w2, w3, w4] := by
    have hs : args.size = 5 := by simpa [Cond.value, given_1] using gA0
    obtain ⟨L⟩ := args
    match L, hs with
    | [w0, w1, w2, w3, w4], _ => exact ⟨w0, w1, w2, w3, w4, rfl⟩
  have hw := fun d (hd : d ∈ tables_1) => atoms_spec (ws := Jvm.Cond.code x code maxLocals ret :: tables_1) hat d (List.mem_cons_of_mem _ hd)
  have hfit : Fit s := fun {y c} hc i hi => by
    obtain ⟨ha, rfl⟩ := Array.getElem?_eq_some_iff.mp hc
    have q := List.all_eq_true.mp ((Array.all_eq_true_iff_forall_mem.mp hF) _ (Array.getElem_mem ha)) i (List.mem_range.mpr hi)
    simpa [Array.getElem?_eq_getElem hi] using q
  obtain ⟨hsets, hown0⟩ := atoms_of _ (rest_1_c_eq ▸ (show rest_1_c.before _ s = true from hrest))
  obtain ⟨i0, ei0⟩ := is_v gA1
  obtain rfl : w0 = (.int i0) := Option.some.inj ei0
  obtain ⟨i1, ei1⟩ := is_v gA2
  obtain rfl : w1 = (.int i1) := Option.some.inj ei1
  obtain ⟨i2, ei2⟩ := isL_v gA3
  obtain rfl : w2 = (.long i2) := Option.some.inj ei2
  obtain ⟨i3, ei3⟩ := isL_v gA4
  obtain rfl : w3 = (.long i3) := Option.some.inj ei3
  obtain ⟨i4, ei4⟩ := is_v gB4
  obtain rfl : w4 = (.int i4) := Option.some.inj ei4
  obtain ⟨G1, eG1⟩ := is_v (Cond.before_iff.mp (hsets _ (List.mem_of_getElem? (i := 1) rfl)))
  have SC := Sta.start eG1 (Or.inl (hsets _ (List.mem_of_getElem? (i := 0) rfl)))
  have hG1 : ¬ G1 = 0 := gotF (Cond.eq_ints eG1 (Term.int_eval 0)) (not_v (Cond.before_iff.mp (hsets _ (List.mem_of_getElem? (i := 2) rfl))))
  have hH : CHv s own_EL s.vm s.heap := CHv.start (own_hEL hw) (fun p hp => hcalls.1 p ((by decide : ∀ p ∈ own_EL, p ∈ consts_1) p hp)) (show Jvm.Lit.compactW.before _ s = true from hsets _ (List.mem_of_getElem? (i := 2) rfl)) (hw _ (List.mem_of_getElem? (i := 23) rfl)) (hw _ (List.mem_of_getElem? (i := 5) rfl))
  obtain ⟨n, o, h1, h2, h3, _, L, rfl, ⟨rfl, N⟩, -, hq⟩ := c0 l s _ hw i0 i1 i2 i3 i4 G1 s.heap SC hG1 tables_1 p e ha hc hk s m _ below hf ((Spec.applies_iff_loose hf).mp happ).1 ⟨rfl, State.Warmed39.refl s, rfl, hH⟩ trivial
  refine ⟨n, _, h1, h2, h3, hpost _ _ _ _ _ _ ⟨Cond.after_iff.mpr rfl, Cond.after_iff.mpr (eq_i res_at (Term.int_eval (1)) rfl), trivial⟩ ⟨hq.1, hq.2.1, hq.2.2.1, (hq.2.2.2.sift fun y hy => Or.inr (N y hy)).mono (by decide) (by decide)⟩⟩
theorem main_1_1 : Claimed_1_1 := comes_1 fun _ _ _ _ _ _ h hF => ⟨h.1, hF⟩
theorem main_1_2 : Claimed_1_2 := comes_1 fun _ _ _ _ _ _ h hF => ⟨h.2.1, hF⟩

end Jvm.Pilot.@@N@@
namespace Jvm.Pilot.@@N@@
open Jvm Jvm.ClassFile Sem Op Lib Jvm.Free Jvm.Stand Jvm.Pilot.@@N@@.Jvm.D
/-! MADE BY PROGRAM (witnessworld.py) out of the Statement's table words and the real class files: 21 classes; the members and pool entries that the words name. The judged class is class 1, her method 2. -/
namespace start1
open Jvm.ClassFile
def u (s : String) : CpInfo := .utf8 (stringToUtf16 s)
/-- a pool by its gaps: so many unusable entries, then the entry; so many at the end -/
def gap : Nat → List CpInfo → List CpInfo
  | 0, r => r
  | n + 1, r => .unusable :: gap n r
def poolList (es : List (Nat × CpInfo)) (last : Nat) : List CpInfo := es.foldr (fun e r => gap e.1 (e.2 :: r)) (gap last [])
def pool (es : List (Nat × CpInfo)) (last : Nat) : Array CpInfo := ⟨poolList es last⟩
def fileOf (pool : Array CpInfo) (this : Nat) (attrs : Array Attribute := #[]) (ms : Array MethodInfo := #[]) (fl : Nat := 33) (sup : Nat := 0) (ifs : Array Nat := #[]) (fds : Array FieldInfo := #[]) : ClassFile where
  minorVersion := 0
  majorVersion := 65
  constantPool := pool
  accessFlags := fl
  thisClass := this
  superClass := sup
  interfaces := ifs
  fields := fds
  methods := ms
  attributes := attrs
def plain (name : String) (sup : Option ClassId) : Class where
  name := name
  kind := .ordinary
  loader := none
  accessFlags := 33
  super := sup
  interfaces := #[]
  cf := none
  fields := #[]
  methods := #[]
  instanceTypes := #[]
  staticTypes := #[]
  resolved := #[]
  callSites := []
  init := .initialized
  statics := none
  mirror := none

def pool0 : Array CpInfo := pool [(5, u "<init>"), (0, u "()V"), (1, .class_ 10), (1, u "java/lang/Object")] 113

def k0c0 : Code := { maxStack := 0, maxLocals := 1, code := object_method_1_code, exceptionTable := #[], attributes := #[] }
def k0m0 : Method := { name := "<init>", desc := "()V", sig := { parameters := [], returnType := none }, accessFlags := 1, code := some k0c0 }
/-- java/lang/Object -/
def k0 : Class := { plain "java/lang/Object" none with
  accessFlags := 33
  interfaces := #[]
  cf := some (fileOf pool0 8 #[] #[{ accessFlags := 1, nameIndex := 5, descriptorIndex := 6, attributes := #[] }] 33 0 #[] #[])
  fields := #[]
  methods := #[k0m0]
  instanceTypes := #[]
  staticTypes := #[]
  resolved := Array.replicate 124 none
  statics := none }

def pool1 : Array CpInfo := pool [(2, .class_ 4), (1, u "java/lang/Object"), (0, u "<init>"), (0, u "()V"), (0, .class_ 8), (0, u "java/lang/String"), (0, .methodref 7 10), (0, .nameAndType 5 11), (0, u "([C)V"), (0, .methodref 13 14), (0, .class_ 15), (0, .nameAndType 16 17), (0, u "com/example/cyclewarden/cyclewarden/site/TransactionIdEqualsPinLaw"), (0, u "make"), (0, u "(ICCC)Ljava/lang/String;"), (0, .class_ 19), (0, u "com/example/cyclewarden/cyclewarden/site/TransactionId"), (0, .methodref 18 21), (0, .nameAndType 5 22), (0, u "(Ljava/lang/String;J)V"), (0, .methodref 18 24), (0, .nameAndType 25 26), (0, u "equals"), (0, u "(Ljava/lang/Object;)Z"), (3, u "law"), (0, u "(IIJJI)Z")] 2

def k1m0 : Method := { name := "<init>", desc := "()V", sig := { parameters := [], returnType := none }, accessFlags := 1, code := none }
def k1c1 : Code := { maxStack := 6, maxLocals := 4, code := method_2_code, exceptionTable := #[], attributes := #[] }
def k1m1 : Method := { name := "make", desc := "(ICCC)Ljava/lang/String;", sig := { parameters := [.int, .char, .char, .char], returnType := some (.object "java/lang/String") }, accessFlags := 10, code := some k1c1 }
def k1c2 : Code := { maxStack := 5, maxLocals := 26, code := code, exceptionTable := #[], attributes := #[] }
def k1m2 : Method := { name := "law", desc := "(IIJJI)Z", sig := { parameters := [.int, .int, .long, .long, .int], returnType := some .boolean }, accessFlags := 9, code := some k1c2 }
/-- com/example/cyclewarden/cyclewarden/site/TransactionIdEqualsPinLaw -/
def k1 : Class := { plain "com/example/cyclewarden/cyclewarden/site/TransactionIdEqualsPinLaw" (some 0) with
  accessFlags := 49
  interfaces := #[]
  cf := some (fileOf pool1 13 #[] #[{ accessFlags := 1, nameIndex := 5, descriptorIndex := 6, attributes := #[] }, { accessFlags := 10, nameIndex := 16, descriptorIndex := 17, attributes := #[] }, { accessFlags := 9, nameIndex := 30, descriptorIndex := 31, attributes := #[] }] 49 2 #[] #[])
  fields := #[]
  methods := #[k1m0, k1m1, k1m2]
  instanceTypes := #[]
  staticTypes := #[]
  resolved := Array.replicate 34 none
  statics := none }

def pool2 : Array CpInfo := pool [(1, .class_ 2), (0, u "java/io/Serializable"), (0, .class_ 4), (0, u "java/lang/Object")] 2

/-- java/io/Serializable -/
def k2 : Class := { plain "java/io/Serializable" (some 0) with
  accessFlags := 1537
  interfaces := #[]
  cf := some (fileOf pool2 1 #[] #[] 1537 3 #[] #[])
  fields := #[]
  methods := #[]
  instanceTypes := #[]
  staticTypes := #[]
  resolved := Array.replicate 7 none
  statics := none }

def pool3 : Array CpInfo := pool [(1, .class_ 2), (0, u "java/lang/Comparable"), (0, .class_ 4), (0, u "java/lang/Object")] 7

/-- java/lang/Comparable -/
def k3 : Class := { plain "java/lang/Comparable" (some 0) with
  accessFlags := 1537
  interfaces := #[]
  cf := some (fileOf pool3 1 #[] #[] 1537 3 #[] #[])
  fields := #[]
  methods := #[]
  instanceTypes := #[]
  staticTypes := #[]
  resolved := Array.replicate 12 none
  statics := none }

def pool4 : Array CpInfo := pool [(2, .class_ 4), (1, u "java/lang/CharSequence"), (42, .class_ 48), (0, u "java/lang/CharSequence$1CodePointIterator"), (10, .class_ 60), (0, u "java/lang/CharSequence$1CharIterator"), (5, .class_ 67), (0, u "java/lang/Object")] 63

/-- java/lang/CharSequence -/
def k4 : Class := { plain "java/lang/CharSequence" (some 0) with
  accessFlags := 1537
  interfaces := #[]
  cf := some (fileOf pool4 2 #[.nestMembers #[47, 59]] #[] 1537 66 #[] #[])
  fields := #[]
  methods := #[]
  instanceTypes := #[]
  staticTypes := #[]
  resolved := Array.replicate 131 none
  statics := none }

def pool5 : Array CpInfo := pool [(1, .class_ 2), (0, u "java/lang/constant/Constable"), (0, .class_ 4), (0, u "java/lang/Object")] 6

/-- java/lang/constant/Constable -/
def k5 : Class := { plain "java/lang/constant/Constable" (some 0) with
  accessFlags := 1537
  interfaces := #[]
  cf := some (fileOf pool5 1 #[] #[] 1537 3 #[] #[])
  fields := #[]
  methods := #[]
  instanceTypes := #[]
  staticTypes := #[]
  resolved := Array.replicate 11 none
  statics := none }

def pool6 : Array CpInfo := pool [(1, .class_ 2), (0, u "java/lang/constant/ConstantDesc"), (0, .class_ 4), (0, u "java/lang/Object")] 32

/-- java/lang/constant/ConstantDesc -/
def k6 : Class := { plain "java/lang/constant/ConstantDesc" (some 0) with
  accessFlags := 1537
  interfaces := #[]
  cf := some (fileOf pool6 1 #[] #[] 1537 3 #[] #[])
  fields := #[]
  methods := #[]
  instanceTypes := #[]
  staticTypes := #[]
  resolved := Array.replicate 37 none
  statics := none }

def pool7 : Array CpInfo := pool [(1, .methodref 2 3), (0, .class_ 4), (0, .nameAndType 5 6), (0, u "java/lang/Object"), (0, u "<init>"), (0, u "()V"), (0, .string 8), (0, u ""), (0, .fieldref 10 11), (0, .class_ 12), (0, .nameAndType 13 14), (0, u "java/lang/String"), (0, u "value"), (0, u "[B"), (0, .fieldref 10 16), (0, .nameAndType 17 18), (0, u "coder"), (0, u "B"), (2, u "hash"), (0, u "I"), (2, u "hashIsZero"), (0, u "Z"), (0, .methodref 10 28), (0, .nameAndType 5 29), (0, u "([CIILjava/lang/Void;)V"), (8, .fieldref 10 39), (0, .nameAndType 40 26), (0, u "COMPACT_STRINGS"), (1, .class_ 44), (1, u "java/lang/StringUTF16"), (0, u "compress"), (1, .methodref 42 48), (0, .nameAndType 49 50), (0, u "coderFromArrayLen"), (0, u "([BI)B"), (56, .class_ 109), (1, u "java/lang/StringLatin1"), (67, .methodref 42 178), (0, .nameAndType 45 179), (0, u "([CII)[B"), (361, .methodref 107 542), (0, .nameAndType 543 544), (0, u "equals"), (0, u "([B[B)Z"), (28, u "(Ljava/lang/Object;)Z"), (1, .class_ 576), (0, u "java/lang/CharSequence"), (22, u "CASE_INSENSITIVE_ORDER"), (0, u "Ljava/util/Comparator;"), (409, u "([C)V"), (90, u "serialPersistentFields"), (0, u "[Ljava/io/ObjectStreamField;"), (0, .class_ 1104), (0, u "java/lang/String$CaseInsensitiveComparator"), (1, .class_ 1107), (0, u "java/io/Serializable"), (0, .class_ 1109), (0, u "java/lang/Comparable"), (0, .class_ 1111), (0, u "java/lang/constant/Constable"), (0, .class_ 1113), (0, u "java/lang/constant/ConstantDesc"), (2, u "serialVersionUID"), (0, u "J"), (3, u "REPL"), (0, u "C"), (2, u "LATIN1"), (1, u "UTF16")] 323

def k7m0 : Method := { name := "<init>", desc := "()V", sig := { parameters := [], returnType := none }, accessFlags := 1, code := none }
def k7c1 : Code := { maxStack := 5, maxLocals := 2, code := jdk_42_method_3_code, exceptionTable := #[], attributes := #[] }
def k7m1 : Method := { name := "<init>", desc := "([C)V", sig := { parameters := [(.array .char)], returnType := none }, accessFlags := 1, code := some k7c1 }
def k7c2 : Code := { maxStack := 2, maxLocals := 3, code := jdk_42_method_66_code, exceptionTable := #[], attributes := #[] }
def k7m2 : Method := { name := "equals", desc := "(Ljava/lang/Object;)Z", sig := { parameters := [(.object "java/lang/Object")], returnType := some .boolean }, accessFlags := 1, code := some k7c2 }
def k7c3 : Code := { maxStack := 4, maxLocals := 6, code := jdk_42_method_149_code, exceptionTable := #[], attributes := #[] }
def k7m3 : Method := { name := "<init>", desc := "([CIILjava/lang/Void;)V", sig := { parameters := [(.array .char), .int, .int, (.object "java/lang/Void")], returnType := none }, accessFlags := 2, code := some k7c3 }
/-- java/lang/String -/
def k7 : Class := { plain "java/lang/String" (some 0) with
  accessFlags := 49
  interfaces := #[2, 3, 4, 5, 6]
  cf := some (fileOf pool7 10 #[.nestMembers #[1103]] #[{ accessFlags := 1, nameIndex := 5, descriptorIndex := 6, attributes := #[] }, { accessFlags := 1, nameIndex := 5, descriptorIndex := 1010, attributes := #[] }, { accessFlags := 1, nameIndex := 543, descriptorIndex := 573, attributes := #[] }, { accessFlags := 2, nameIndex := 5, descriptorIndex := 29, attributes := #[] }] 49 2 #[1106, 1108, 575, 1110, 1112] #[{ accessFlags := 18, nameIndex := 13, descriptorIndex := 14, attributes := #[] }, { accessFlags := 18, nameIndex := 17, descriptorIndex := 18, attributes := #[] }, { accessFlags := 2, nameIndex := 21, descriptorIndex := 22, attributes := #[] }, { accessFlags := 2, nameIndex := 25, descriptorIndex := 26, attributes := #[] }, { accessFlags := 26, nameIndex := 1116, descriptorIndex := 1117, attributes := #[] }, { accessFlags := 24, nameIndex := 40, descriptorIndex := 26, attributes := #[] }, { accessFlags := 26, nameIndex := 1101, descriptorIndex := 1102, attributes := #[] }, { accessFlags := 26, nameIndex := 1121, descriptorIndex := 1122, attributes := #[] }, { accessFlags := 25, nameIndex := 599, descriptorIndex := 600, attributes := #[] }, { accessFlags := 24, nameIndex := 1125, descriptorIndex := 18, attributes := #[] }, { accessFlags := 24, nameIndex := 1127, descriptorIndex := 18, attributes := #[] }])
  fields := #[{ name := "value", type := (.array .byte), accessFlags := 18, slot := 0, constantValue := 0 }, { name := "coder", type := .byte, accessFlags := 18, slot := 1, constantValue := 0 }, { name := "hash", type := .int, accessFlags := 2, slot := 2, constantValue := 0 }, { name := "hashIsZero", type := .boolean, accessFlags := 2, slot := 3, constantValue := 0 }, { name := "serialVersionUID", type := .long, accessFlags := 26, slot := 0, constantValue := 0 }, { name := "COMPACT_STRINGS", type := .boolean, accessFlags := 24, slot := 1, constantValue := 0 }, { name := "serialPersistentFields", type := (.array (.object "java/io/ObjectStreamField")), accessFlags := 26, slot := 2, constantValue := 0 }, { name := "REPL", type := .char, accessFlags := 26, slot := 3, constantValue := 0 }, { name := "CASE_INSENSITIVE_ORDER", type := (.object "java/util/Comparator"), accessFlags := 25, slot := 4, constantValue := 0 }, { name := "LATIN1", type := .byte, accessFlags := 24, slot := 5, constantValue := 0 }, { name := "UTF16", type := .byte, accessFlags := 24, slot := 6, constantValue := 0 }]
  methods := #[k7m0, k7m1, k7m2, k7m3]
  instanceTypes := #[(.array .byte), .byte, .int, .boolean]
  staticTypes := #[.long, .boolean, (.array (.object "java/io/ObjectStreamField")), .char, (.object "java/util/Comparator"), .byte, .byte]
  resolved := Array.replicate 1451 none
  statics := some 0 }

def pool8 : Array CpInfo := pool [(6, .class_ 8), (1, u "java/lang/Object"), (0, u "<init>"), (0, u "()V"), (1, .class_ 14), (1, u "java/lang/StringUTF16"), (31, u "$assertionsDisabled"), (0, u "Z"), (13, u "HI_BYTE_SHIFT"), (0, u "I"), (2, u "LO_BYTE_SHIFT"), (49, .methodref 12 116), (0, .nameAndType 117 118), (0, u "compress"), (0, u "([CI[BII)I"), (3, u "([CII)[B"), (138, u "coderFromArrayLen"), (0, u "([BI)B"), (106, .class_ 371), (1, u "java/lang/StringUTF16$LinesSpliterator"), (58, u "MAX_LENGTH"), (196, .class_ 628), (0, u "java/lang/StringUTF16$CodePointsSpliterator"), (0, .class_ 630), (0, u "java/lang/StringUTF16$CharsSpliterator")] 4

def k8m0 : Method := { name := "<init>", desc := "()V", sig := { parameters := [], returnType := none }, accessFlags := 0, code := none }
def k8c1 : Code := { maxStack := 2, maxLocals := 2, code := jdk_52_method_15_code, exceptionTable := #[], attributes := #[] }
def k8m1 : Method := { name := "coderFromArrayLen", desc := "([BI)B", sig := { parameters := [(.array .byte), .int], returnType := some .byte }, accessFlags := 8, code := some k8c1 }
def k8c2 : Code := { maxStack := 5, maxLocals := 6, code := jdk_52_method_16_code, exceptionTable := #[], attributes := #[] }
def k8m2 : Method := { name := "compress", desc := "([CII)[B", sig := { parameters := [(.array .char), .int, .int], returnType := some (.array .byte) }, accessFlags := 9, code := some k8c2 }
def k8c3 : Code := { maxStack := 3, maxLocals := 7, code := jdk_52_method_21_code, exceptionTable := #[], attributes := #[] }
def k8m3 : Method := { name := "compress", desc := "([CI[BII)I", sig := { parameters := [(.array .char), .int, (.array .byte), .int, .int], returnType := some .int }, accessFlags := 9, code := some k8c3 }
/-- java/lang/StringUTF16 -/
def k8 : Class := { plain "java/lang/StringUTF16" (some 0) with
  accessFlags := 48
  interfaces := #[]
  cf := some (fileOf pool8 12 #[.nestMembers #[627, 629, 369]] #[{ accessFlags := 0, nameIndex := 9, descriptorIndex := 10, attributes := #[] }, { accessFlags := 8, nameIndex := 261, descriptorIndex := 262, attributes := #[] }, { accessFlags := 9, nameIndex := 117, descriptorIndex := 122, attributes := #[] }, { accessFlags := 9, nameIndex := 117, descriptorIndex := 118, attributes := #[] }] 48 6 #[] #[{ accessFlags := 26, nameIndex := 61, descriptorIndex := 62, attributes := #[] }, { accessFlags := 26, nameIndex := 65, descriptorIndex := 62, attributes := #[] }, { accessFlags := 24, nameIndex := 430, descriptorIndex := 62, attributes := #[] }, { accessFlags := 4120, nameIndex := 46, descriptorIndex := 47, attributes := #[] }])
  fields := #[{ name := "HI_BYTE_SHIFT", type := .int, accessFlags := 26, slot := 0, constantValue := 0 }, { name := "LO_BYTE_SHIFT", type := .int, accessFlags := 26, slot := 1, constantValue := 0 }, { name := "MAX_LENGTH", type := .int, accessFlags := 24, slot := 2, constantValue := 0 }, { name := "$assertionsDisabled", type := .boolean, accessFlags := 4120, slot := 3, constantValue := 0 }]
  methods := #[k8m0, k8m1, k8m2, k8m3]
  instanceTypes := #[]
  staticTypes := #[.int, .int, .int, .boolean]
  resolved := Array.replicate 635 none
  statics := none }

def pool9 : Array CpInfo := pool [(1, .methodref 2 3), (0, .class_ 4), (0, .nameAndType 5 6), (0, u "java/lang/Object"), (0, u "<init>"), (0, u "()V"), (0, .class_ 8), (0, u "java/lang/Record")] 13

def k9c0 : Code := { maxStack := 1, maxLocals := 1, code := jdk_30_method_1_code, exceptionTable := #[], attributes := #[] }
def k9m0 : Method := { name := "<init>", desc := "()V", sig := { parameters := [], returnType := none }, accessFlags := 4, code := some k9c0 }
/-- java/lang/Record -/
def k9 : Class := { plain "java/lang/Record" (some 0) with
  accessFlags := 1057
  interfaces := #[]
  cf := some (fileOf pool9 7 #[] #[{ accessFlags := 4, nameIndex := 5, descriptorIndex := 6, attributes := #[] }] 1057 2 #[] #[])
  fields := #[]
  methods := #[k9m0]
  instanceTypes := #[]
  staticTypes := #[]
  resolved := Array.replicate 22 none
  statics := none }

def pool10 : Array CpInfo := pool [(1, .methodref 2 3), (0, .class_ 4), (0, .nameAndType 5 6), (0, u "java/lang/Record"), (0, u "<init>"), (0, u "()V"), (0, .fieldref 8 9), (0, .class_ 10), (0, .nameAndType 11 12), (0, u "com/example/cyclewarden/cyclewarden/site/TransactionId"), (0, u "home"), (0, u "Ljava/lang/String;"), (0, .fieldref 8 14), (0, .nameAndType 15 16), (0, u "start"), (0, u "J"), (12, u "(Ljava/lang/String;J)V"), (9, .methodref 40 41), (0, .class_ 42), (0, .nameAndType 43 44), (0, u "java/lang/String"), (0, u "equals"), (0, u "(Ljava/lang/Object;)Z")] 51

def k10c0 : Code := { maxStack := 3, maxLocals := 4, code := prog_110_method_1_code, exceptionTable := #[], attributes := #[] }
def k10m0 : Method := { name := "<init>", desc := "(Ljava/lang/String;J)V", sig := { parameters := [(.object "java/lang/String"), .long], returnType := none }, accessFlags := 0, code := some k10c0 }
def k10c1 : Code := { maxStack := 4, maxLocals := 3, code := prog_110_method_4_code, exceptionTable := #[], attributes := #[] }
def k10m1 : Method := { name := "equals", desc := "(Ljava/lang/Object;)Z", sig := { parameters := [(.object "java/lang/Object")], returnType := some .boolean }, accessFlags := 1, code := some k10c1 }
/-- com/example/cyclewarden/cyclewarden/site/TransactionId -/
def k10 : Class := { plain "com/example/cyclewarden/cyclewarden/site/TransactionId" (some 9) with
  accessFlags := 48
  interfaces := #[]
  cf := some (fileOf pool10 8 #[] #[{ accessFlags := 0, nameIndex := 5, descriptorIndex := 29, attributes := #[] }, { accessFlags := 1, nameIndex := 43, descriptorIndex := 44, attributes := #[] }] 48 2 #[] #[{ accessFlags := 18, nameIndex := 11, descriptorIndex := 12, attributes := #[] }, { accessFlags := 18, nameIndex := 15, descriptorIndex := 16, attributes := #[] }])
  fields := #[{ name := "home", type := (.object "java/lang/String"), accessFlags := 18, slot := 0, constantValue := 0 }, { name := "start", type := .long, accessFlags := 18, slot := 1, constantValue := 0 }]
  methods := #[k10m0, k10m1]
  instanceTypes := #[(.object "java/lang/String"), .long]
  staticTypes := #[]
  resolved := Array.replicate 96 none
  statics := none }

def pool11 : Array CpInfo := pool [(4, .class_ 6), (1, u "java/lang/Object"), (0, u "<init>"), (0, u "()V"), (5, .class_ 16), (1, u "java/lang/StringLatin1"), (104, u "$assertionsDisabled"), (0, u "Z"), (98, .class_ 223), (1, u "java/lang/StringLatin1$LinesSpliterator"), (57, u "equals"), (0, u "([B[B)Z"), (107, .class_ 391), (0, u "java/lang/StringLatin1$CharsSpliterator")] 3

def k11m0 : Method := { name := "<init>", desc := "()V", sig := { parameters := [], returnType := none }, accessFlags := 0, code := none }
def k11c1 : Code := { maxStack := 3, maxLocals := 3, code := jdk_43_method_13_code, exceptionTable := #[], attributes := #[] }
def k11m1 : Method := { name := "equals", desc := "([B[B)Z", sig := { parameters := [(.array .byte), (.array .byte)], returnType := some .boolean }, accessFlags := 9, code := some k11c1 }
/-- java/lang/StringLatin1 -/
def k11 : Class := { plain "java/lang/StringLatin1" (some 0) with
  accessFlags := 48
  interfaces := #[]
  cf := some (fileOf pool11 14 #[.nestMembers #[390, 221]] #[{ accessFlags := 0, nameIndex := 7, descriptorIndex := 8, attributes := #[] }, { accessFlags := 9, nameIndex := 281, descriptorIndex := 282, attributes := #[] }] 48 4 #[] #[{ accessFlags := 4120, nameIndex := 121, descriptorIndex := 122, attributes := #[] }])
  fields := #[{ name := "$assertionsDisabled", type := .boolean, accessFlags := 4120, slot := 0, constantValue := 0 }]
  methods := #[k11m0, k11m1]
  instanceTypes := #[]
  staticTypes := #[.boolean]
  resolved := Array.replicate 395 none
  statics := none }

def pool12 : Array CpInfo := pool [(2, .class_ 4), (1, u "java/lang/Object"), (0, u "<init>"), (0, u "()V"), (17, .class_ 26), (1, u "jdk/internal/util/Preconditions"), (28, .class_ 56), (0, u "jdk/internal/util/Preconditions$4"), (57, .class_ 115), (0, u "jdk/internal/util/Preconditions$1"), (7, u "SIOOBE_FORMATTER"), (0, u "Ljava/util/function/BiFunction;"), (0, .class_ 126), (0, u "jdk/internal/util/Preconditions$2"), (3, u "AIOOBE_FORMATTER"), (0, .class_ 132), (0, u "jdk/internal/util/Preconditions$3"), (3, u "IOOBE_FORMATTER")] 57

def k12m0 : Method := { name := "<init>", desc := "()V", sig := { parameters := [], returnType := none }, accessFlags := 1, code := none }
/-- jdk/internal/util/Preconditions -/
def k12 : Class := { plain "jdk/internal/util/Preconditions" (some 0) with
  accessFlags := 33
  interfaces := #[]
  cf := some (fileOf pool12 24 #[.nestMembers #[55, 131, 125, 114]] #[{ accessFlags := 1, nameIndex := 5, descriptorIndex := 6, attributes := #[] }] 33 2 #[] #[{ accessFlags := 25, nameIndex := 123, descriptorIndex := 124, attributes := #[] }, { accessFlags := 25, nameIndex := 130, descriptorIndex := 124, attributes := #[] }, { accessFlags := 25, nameIndex := 136, descriptorIndex := 124, attributes := #[] }])
  fields := #[{ name := "SIOOBE_FORMATTER", type := (.object "java/util/function/BiFunction"), accessFlags := 25, slot := 0, constantValue := 0 }, { name := "AIOOBE_FORMATTER", type := (.object "java/util/function/BiFunction"), accessFlags := 25, slot := 1, constantValue := 0 }, { name := "IOOBE_FORMATTER", type := (.object "java/util/function/BiFunction"), accessFlags := 25, slot := 2, constantValue := 0 }]
  methods := #[k12m0]
  instanceTypes := #[]
  staticTypes := #[(.object "java/util/function/BiFunction"), (.object "java/util/function/BiFunction"), (.object "java/util/function/BiFunction")]
  resolved := Array.replicate 194 none
  statics := some 1 }

def pool13 : Array CpInfo := pool [(9, u "<init>"), (6, .class_ 18), (1, u "java/lang/Object"), (0, u "()V"), (1, .class_ 23), (1, u "jdk/internal/util/ArraysSupport"), (0, u "LOG2_ARRAY_LONG_INDEX_SCALE"), (0, u "I"), (2, u "U"), (0, u "Ljdk/internal/misc/Unsafe;"), (8, u "BIG_ENDIAN"), (0, u "Z"), (8, u "LOG2_BYTE_BIT_SIZE"), (4, u "LOG2_ARRAY_INT_INDEX_SCALE"), (54, u "JLA"), (0, u "Ljdk/internal/access/JavaLangAccess;"), (11, u "LOG2_ARRAY_BOOLEAN_INDEX_SCALE"), (9, u "LOG2_ARRAY_BYTE_INDEX_SCALE"), (5, u "LOG2_ARRAY_CHAR_INDEX_SCALE"), (5, u "LOG2_ARRAY_SHORT_INDEX_SCALE"), (18, u "LOG2_ARRAY_FLOAT_INDEX_SCALE"), (24, u "LOG2_ARRAY_DOUBLE_INDEX_SCALE"), (89, u "T_BOOLEAN"), (2, u "T_CHAR"), (1, u "T_FLOAT"), (1, u "T_DOUBLE"), (1, u "T_BYTE"), (1, u "T_SHORT"), (1, u "T_INT"), (1, u "T_LONG"), (1, u "SOFT_MAX_ARRAY_LENGTH")] 83

def k13m0 : Method := { name := "<init>", desc := "()V", sig := { parameters := [], returnType := none }, accessFlags := 2, code := none }
/-- jdk/internal/util/ArraysSupport -/
def k13 : Class := { plain "jdk/internal/util/ArraysSupport" (some 0) with
  accessFlags := 33
  interfaces := #[]
  cf := some (fileOf pool13 21 #[] #[{ accessFlags := 2, nameIndex := 9, descriptorIndex := 19, attributes := #[] }] 33 16 #[] #[{ accessFlags := 24, nameIndex := 28, descriptorIndex := 29, attributes := #[] }, { accessFlags := 26, nameIndex := 38, descriptorIndex := 39, attributes := #[] }, { accessFlags := 25, nameIndex := 121, descriptorIndex := 25, attributes := #[] }, { accessFlags := 25, nameIndex := 131, descriptorIndex := 25, attributes := #[] }, { accessFlags := 25, nameIndex := 137, descriptorIndex := 25, attributes := #[] }, { accessFlags := 25, nameIndex := 143, descriptorIndex := 25, attributes := #[] }, { accessFlags := 25, nameIndex := 53, descriptorIndex := 25, attributes := #[] }, { accessFlags := 25, nameIndex := 24, descriptorIndex := 25, attributes := #[] }, { accessFlags := 25, nameIndex := 162, descriptorIndex := 25, attributes := #[] }, { accessFlags := 25, nameIndex := 187, descriptorIndex := 25, attributes := #[] }, { accessFlags := 26, nameIndex := 48, descriptorIndex := 25, attributes := #[] }, { accessFlags := 25, nameIndex := 277, descriptorIndex := 25, attributes := #[] }, { accessFlags := 25, nameIndex := 280, descriptorIndex := 25, attributes := #[] }, { accessFlags := 25, nameIndex := 282, descriptorIndex := 25, attributes := #[] }, { accessFlags := 25, nameIndex := 284, descriptorIndex := 25, attributes := #[] }, { accessFlags := 25, nameIndex := 286, descriptorIndex := 25, attributes := #[] }, { accessFlags := 25, nameIndex := 288, descriptorIndex := 25, attributes := #[] }, { accessFlags := 25, nameIndex := 290, descriptorIndex := 25, attributes := #[] }, { accessFlags := 25, nameIndex := 292, descriptorIndex := 25, attributes := #[] }, { accessFlags := 26, nameIndex := 108, descriptorIndex := 109, attributes := #[] }, { accessFlags := 25, nameIndex := 294, descriptorIndex := 25, attributes := #[] }])
  fields := #[{ name := "U", type := (.object "jdk/internal/misc/Unsafe"), accessFlags := 24, slot := 0, constantValue := 0 }, { name := "BIG_ENDIAN", type := .boolean, accessFlags := 26, slot := 1, constantValue := 0 }, { name := "LOG2_ARRAY_BOOLEAN_INDEX_SCALE", type := .int, accessFlags := 25, slot := 2, constantValue := 0 }, { name := "LOG2_ARRAY_BYTE_INDEX_SCALE", type := .int, accessFlags := 25, slot := 3, constantValue := 0 }, { name := "LOG2_ARRAY_CHAR_INDEX_SCALE", type := .int, accessFlags := 25, slot := 4, constantValue := 0 }, { name := "LOG2_ARRAY_SHORT_INDEX_SCALE", type := .int, accessFlags := 25, slot := 5, constantValue := 0 }, { name := "LOG2_ARRAY_INT_INDEX_SCALE", type := .int, accessFlags := 25, slot := 6, constantValue := 0 }, { name := "LOG2_ARRAY_LONG_INDEX_SCALE", type := .int, accessFlags := 25, slot := 7, constantValue := 0 }, { name := "LOG2_ARRAY_FLOAT_INDEX_SCALE", type := .int, accessFlags := 25, slot := 8, constantValue := 0 }, { name := "LOG2_ARRAY_DOUBLE_INDEX_SCALE", type := .int, accessFlags := 25, slot := 9, constantValue := 0 }, { name := "LOG2_BYTE_BIT_SIZE", type := .int, accessFlags := 26, slot := 10, constantValue := 0 }, { name := "T_BOOLEAN", type := .int, accessFlags := 25, slot := 11, constantValue := 0 }, { name := "T_CHAR", type := .int, accessFlags := 25, slot := 12, constantValue := 0 }, { name := "T_FLOAT", type := .int, accessFlags := 25, slot := 13, constantValue := 0 }, { name := "T_DOUBLE", type := .int, accessFlags := 25, slot := 14, constantValue := 0 }, { name := "T_BYTE", type := .int, accessFlags := 25, slot := 15, constantValue := 0 }, { name := "T_SHORT", type := .int, accessFlags := 25, slot := 16, constantValue := 0 }, { name := "T_INT", type := .int, accessFlags := 25, slot := 17, constantValue := 0 }, { name := "T_LONG", type := .int, accessFlags := 25, slot := 18, constantValue := 0 }, { name := "JLA", type := (.object "jdk/internal/access/JavaLangAccess"), accessFlags := 26, slot := 19, constantValue := 0 }, { name := "SOFT_MAX_ARRAY_LENGTH", type := .int, accessFlags := 25, slot := 20, constantValue := 0 }]
  methods := #[k13m0]
  instanceTypes := #[]
  staticTypes := #[(.object "jdk/internal/misc/Unsafe"), .boolean, .int, .int, .int, .int, .int, .int, .int, .int, .int, .int, .int, .int, .int, .int, .int, .int, .int, (.object "jdk/internal/access/JavaLangAccess"), .int]
  resolved := Array.replicate 378 none
  statics := none }

def pool14 : Array CpInfo := pool [(1, u "java/lang/Cloneable"), (0, .class_ 1), (0, u "java/lang/Object"), (0, .class_ 3)] 3

/-- java/lang/Cloneable -/
def k14 : Class := { plain "java/lang/Cloneable" (some 0) with
  accessFlags := 1537
  interfaces := #[]
  cf := some (fileOf pool14 2 #[] #[] 1537 4 #[] #[])
  fields := #[]
  methods := #[]
  instanceTypes := #[]
  staticTypes := #[]
  resolved := Array.replicate 8 none
  statics := none }

/-- the primitive byte -/
def k15 : Class := { plain "byte" none with kind := .primitive 'B', accessFlags := 0x411 }
/-- [B -/
def k16 : Class := { plain "[B" (some 0) with kind := .array 15 .byte, interfaces := #[14, 2], accessFlags := 1041 }

/-- the primitive char -/
def k17 : Class := { plain "char" none with kind := .primitive 'C', accessFlags := 0x411 }
/-- [C -/
def k18 : Class := { plain "[C" (some 0) with kind := .array 17 .char, interfaces := #[14, 2], accessFlags := 1041 }

/-- the primitive int -/
def k19 : Class := { plain "int" none with kind := .primitive 'I', accessFlags := 0x411 }
/-- [I -/
def k20 : Class := { plain "[I" (some 0) with kind := .array 19 .int, interfaces := #[14, 2], accessFlags := 1041 }

def heap : Heap := #[{ cls := 7, slots := #[.long 0, .int 1, .null, .int 0, .null, .int 0, .int 0], vm := .statics 7 },
  { cls := 12, slots := #[.null, .null, .null], vm := .statics 12 }]
def classes : Array Class := #[k0, k1, k2, k3, k4, k5, k6, k7, k8, k9, k10, k11, k12, k13, k14, k15, k16, k17, k18, k19, k20]
def interned : List (Array UInt16 × Addr) := []
def slotsUsed : Nat := 10
def theMethod : MethodId := ⟨1, 2⟩
def args0 : Array Value := #[.int 5, .int 9, .long 3, .long 4, .int 2]
def aboutOver (below : List Frame) : State where
  vm := { classes := classes, interned := interned.toArray }
  heap := heap
  slotsUsed := slotsUsed
  threads := #[{ frames := .invoking theMethod args0 :: below }]
def below0 : List Frame := [.native { method := ⟨0, 0⟩, args := #[] }]
def about1 : State := aboutOver below0
def p0 : Program := .bare "" "" ""
def e0 : Env := launch0.env 0 0 0
theorem w_frames : about1.frames = Frame.invoking theMethod args0 :: below0 := rfl
set_option maxRecDepth 65536 in
theorem w_args : argsFit about1.vm theMethod args0 = true := by decide +kernel
set_option maxRecDepth 65536 in
theorem w_heap : heapFits about1 = true := by decide +kernel
set_option maxRecDepth 65536 in
theorem w_runnable : about1.curStatus? = some .runnable := by decide +kernel
set_option maxRecDepth 65536 in
theorem w_alone : about1.alone = true := by decide +kernel
set_option maxRecDepth 65536 in
theorem w_named : about1.methodNamed? x = some theMethod := by decide +kernel
set_option maxRecDepth 65536 in
theorem w_hears : about1.hears theMethod below0 = true := by decide +kernel
set_option maxRecDepth 65536 in
theorem w_ripe : about1.ripe theMethod args0 below0 = true := by decide +kernel
theorem w_running : about1.status = .running := rfl
set_option maxRecDepth 65536 in
theorem w_room : about1.hasRoom e0.platform room_1 = true :=
  launch0.hasRoom_least _ room_1 (by decide +kernel) (by decide +kernel) (by decide +kernel) (by decide +kernel) (by decide +kernel) (by decide +kernel)
theorem allAtoms_all (ts : List Jvm.Cond) (a : Array Jvm.Value) (st : Jvm.State) : (allAtoms ts).before a st = ts.all (fun c => c.before a st) := by
  induction ts with
  | nil => rfl
  | cons c t ih =>
    show (Jvm.Cond.and c (allAtoms t)).before a st = _
    rw [Jvm.Cond.before_and, ih, List.all_cons]
def words1 : List Jvm.Cond := Jvm.Cond.code x code maxLocals ret :: tables_1
/-- a 'code' word, met by the world's own term for the bytes: nothing is compared byte by byte -/
theorem code_word {y : MethodName} {bytes : ByteArray} {mx : Nat} {rt : Option FieldType} {a : Array Value} {s : State} {m : MethodId} {meth : Method} {c : Code} (h1 : s.methodNamed? y = some m) (h2 : s.vm.method? m = some meth) (h3 : meth.code = some c) (h4 : c.code = bytes)
    (h5 : (c.maxLocals == mx && c.exceptionTable.isEmpty && decide (c.maxStack ≤ mostOperands) && decide (meth.sig.returnType = rt) && !meth.locks && decide (parseMethodDescriptor y.desc = some meth.sig)) = true) : (Jvm.Cond.code y bytes mx rt).before a s = true := by
  simp only [Bool.and_eq_true, beq_iff_eq, Bool.not_eq_true', decide_eq_true_eq] at h5
  obtain ⟨⟨⟨⟨⟨g1, g2⟩, g3⟩, g4⟩, g5⟩, g6⟩ := h5
  simp [Cond.before, Cond.holds, Cond.value, h1, h2, h3, h4, g1, g2, g3, g4, g5, g6]
def isCode : Jvm.Cond → Bool
  | .code _ _ _ _ => true
  | _ => false
theorem all_split {L : List Jvm.Cond} {P : Jvm.Cond → Bool} (h1 : L.all (fun c => isCode c || P c) = true) (h2 : ∀ c ∈ L.filter isCode, P c = true) : L.all P = true := by
  refine List.all_eq_true.mpr fun c hc => ?_
  have h := List.all_eq_true.mp h1 c hc
  rcases Bool.eq_false_or_eq_true (isCode c) with hi | hi
  · exact h2 c (List.mem_filter.mpr ⟨hc, hi⟩)
  · simpa [hi] using h
set_option maxRecDepth 65536 in
theorem w_c0 : (Jvm.Cond.code x code maxLocals ret).before args0 about1 = true := code_word (m := ⟨1, 2⟩) (meth := k1m2) (c := k1c2) (by decide +kernel) rfl rfl rfl (by decide +kernel)
set_option maxRecDepth 65536 in
theorem w_c1 : (Jvm.Cond.code ({ cls := "com/example/cyclewarden/cyclewarden/site/TransactionIdEqualsPinLaw", name := "make", desc := "(ICCC)Ljava/lang/String;" } : Jvm.MethodName) method_2_code (4 : Nat) (Option.some (Jvm.ClassFile.FieldType.object "java/lang/String"))).before args0 about1 = true := code_word (m := ⟨1, 1⟩) (meth := k1m1) (c := k1c1) (by decide +kernel) rfl rfl rfl (by decide +kernel)
set_option maxRecDepth 65536 in
theorem w_c2 : (Jvm.Cond.code ({ cls := "java/lang/String", name := "<init>", desc := "([C)V" } : Jvm.MethodName) jdk_42_method_3_code (2 : Nat) (Option.none : Option Jvm.ClassFile.FieldType)).before args0 about1 = true := code_word (m := ⟨7, 1⟩) (meth := k7m1) (c := k7c1) (by decide +kernel) rfl rfl rfl (by decide +kernel)
set_option maxRecDepth 65536 in
theorem w_c3 : (Jvm.Cond.code ({ cls := "java/lang/String", name := "<init>", desc := "([CIILjava/lang/Void;)V" } : Jvm.MethodName) jdk_42_method_149_code (6 : Nat) (Option.none : Option Jvm.ClassFile.FieldType)).before args0 about1 = true := code_word (m := ⟨7, 3⟩) (meth := k7m3) (c := k7c3) (by decide +kernel) rfl rfl rfl (by decide +kernel)
set_option maxRecDepth 65536 in
theorem w_c4 : (Jvm.Cond.code ({ cls := "java/lang/Object", name := "<init>", desc := "()V" } : Jvm.MethodName) object_method_1_code (1 : Nat) (Option.none : Option Jvm.ClassFile.FieldType)).before args0 about1 = true := code_word (m := ⟨0, 0⟩) (meth := k0m0) (c := k0c0) (by decide +kernel) rfl rfl rfl (by decide +kernel)
set_option maxRecDepth 65536 in
theorem w_c5 : (Jvm.Cond.code ({ cls := "java/lang/StringUTF16", name := "compress", desc := "([CII)[B" } : Jvm.MethodName) jdk_52_method_16_code (6 : Nat) (Option.some (Jvm.ClassFile.FieldType.array Jvm.ClassFile.FieldType.byte))).before args0 about1 = true := code_word (m := ⟨8, 2⟩) (meth := k8m2) (c := k8c2) (by decide +kernel) rfl rfl rfl (by decide +kernel)
set_option maxRecDepth 65536 in
theorem w_c6 : (Jvm.Cond.code ({ cls := "java/lang/StringUTF16", name := "compress", desc := "([CI[BII)I" } : Jvm.MethodName) jdk_52_method_21_code (7 : Nat) (Option.some Jvm.ClassFile.FieldType.int)).before args0 about1 = true := code_word (m := ⟨8, 3⟩) (meth := k8m3) (c := k8c3) (by decide +kernel) rfl rfl rfl (by decide +kernel)
set_option maxRecDepth 65536 in
theorem w_c7 : (Jvm.Cond.code ({ cls := "java/lang/StringUTF16", name := "coderFromArrayLen", desc := "([BI)B" } : Jvm.MethodName) jdk_52_method_15_code (2 : Nat) (Option.some Jvm.ClassFile.FieldType.byte)).before args0 about1 = true := code_word (m := ⟨8, 1⟩) (meth := k8m1) (c := k8c1) (by decide +kernel) rfl rfl rfl (by decide +kernel)
set_option maxRecDepth 65536 in
theorem w_c8 : (Jvm.Cond.code ({ cls := "com/example/cyclewarden/cyclewarden/site/TransactionId", name := "<init>", desc := "(Ljava/lang/String;J)V" } : Jvm.MethodName) prog_110_method_1_code (4 : Nat) (Option.none : Option Jvm.ClassFile.FieldType)).before args0 about1 = true := code_word (m := ⟨10, 0⟩) (meth := k10m0) (c := k10c0) (by decide +kernel) rfl rfl rfl (by decide +kernel)
set_option maxRecDepth 65536 in
theorem w_c9 : (Jvm.Cond.code ({ cls := "java/lang/Record", name := "<init>", desc := "()V" } : Jvm.MethodName) jdk_30_method_1_code (1 : Nat) (Option.none : Option Jvm.ClassFile.FieldType)).before args0 about1 = true := code_word (m := ⟨9, 0⟩) (meth := k9m0) (c := k9c0) (by decide +kernel) rfl rfl rfl (by decide +kernel)
set_option maxRecDepth 65536 in
theorem w_c10 : (Jvm.Cond.code ({ cls := "com/example/cyclewarden/cyclewarden/site/TransactionId", name := "equals", desc := "(Ljava/lang/Object;)Z" } : Jvm.MethodName) prog_110_method_4_code (3 : Nat) (Option.some Jvm.ClassFile.FieldType.boolean)).before args0 about1 = true := code_word (m := ⟨10, 1⟩) (meth := k10m1) (c := k10c1) (by decide +kernel) rfl rfl rfl (by decide +kernel)
set_option maxRecDepth 65536 in
theorem w_c11 : (Jvm.Cond.code ({ cls := "java/lang/String", name := "equals", desc := "(Ljava/lang/Object;)Z" } : Jvm.MethodName) jdk_42_method_66_code (3 : Nat) (Option.some Jvm.ClassFile.FieldType.boolean)).before args0 about1 = true := code_word (m := ⟨7, 2⟩) (meth := k7m2) (c := k7c2) (by decide +kernel) rfl rfl rfl (by decide +kernel)
set_option maxRecDepth 65536 in
theorem w_c12 : (Jvm.Cond.code ({ cls := "java/lang/StringLatin1", name := "equals", desc := "([B[B)Z" } : Jvm.MethodName) jdk_43_method_13_code (3 : Nat) (Option.some Jvm.ClassFile.FieldType.boolean)).before args0 about1 = true := code_word (m := ⟨11, 1⟩) (meth := k11m1) (c := k11c1) (by decide +kernel) rfl rfl rfl (by decide +kernel)
def codes1 : List Jvm.Cond := [Jvm.Cond.code x code maxLocals ret, Jvm.Cond.code ({ cls := "com/example/cyclewarden/cyclewarden/site/TransactionIdEqualsPinLaw", name := "make", desc := "(ICCC)Ljava/lang/String;" } : Jvm.MethodName) method_2_code (4 : Nat) (Option.some (Jvm.ClassFile.FieldType.object "java/lang/String")), Jvm.Cond.code ({ cls := "java/lang/String", name := "<init>", desc := "([C)V" } : Jvm.MethodName) jdk_42_method_3_code (2 : Nat) (Option.none : Option Jvm.ClassFile.FieldType), Jvm.Cond.code ({ cls := "java/lang/String", name := "<init>", desc := "([CIILjava/lang/Void;)V" } : Jvm.MethodName) jdk_42_method_149_code (6 : Nat) (Option.none : Option Jvm.ClassFile.FieldType), Jvm.Cond.code ({ cls := "java/lang/Object", name := "<init>", desc := "()V" } : Jvm.MethodName) object_method_1_code (1 : Nat) (Option.none : Option Jvm.ClassFile.FieldType), Jvm.Cond.code ({ cls := "java/lang/StringUTF16", name := "compress", desc := "([CII)[B" } : Jvm.MethodName) jdk_52_method_16_code (6 : Nat) (Option.some (Jvm.ClassFile.FieldType.array Jvm.ClassFile.FieldType.byte)), Jvm.Cond.code ({ cls := "java/lang/StringUTF16", name := "compress", desc := "([CI[BII)I" } : Jvm.MethodName) jdk_52_method_21_code (7 : Nat) (Option.some Jvm.ClassFile.FieldType.int), Jvm.Cond.code ({ cls := "java/lang/StringUTF16", name := "coderFromArrayLen", desc := "([BI)B" } : Jvm.MethodName) jdk_52_method_15_code (2 : Nat) (Option.some Jvm.ClassFile.FieldType.byte), Jvm.Cond.code ({ cls := "com/example/cyclewarden/cyclewarden/site/TransactionId", name := "<init>", desc := "(Ljava/lang/String;J)V" } : Jvm.MethodName) prog_110_method_1_code (4 : Nat) (Option.none : Option Jvm.ClassFile.FieldType), Jvm.Cond.code ({ cls := "java/lang/Record", name := "<init>", desc := "()V" } : Jvm.MethodName) jdk_30_method_1_code (1 : Nat) (Option.none : Option Jvm.ClassFile.FieldType), Jvm.Cond.code ({ cls := "com/example/cyclewarden/cyclewarden/site/TransactionId", name := "equals", desc := "(Ljava/lang/Object;)Z" } : Jvm.MethodName) prog_110_method_4_code (3 : Nat) (Option.some Jvm.ClassFile.FieldType.boolean), Jvm.Cond.code ({ cls := "java/lang/String", name := "equals", desc := "(Ljava/lang/Object;)Z" } : Jvm.MethodName) jdk_42_method_66_code (3 : Nat) (Option.some Jvm.ClassFile.FieldType.boolean), Jvm.Cond.code ({ cls := "java/lang/StringLatin1", name := "equals", desc := "([B[B)Z" } : Jvm.MethodName) jdk_43_method_13_code (3 : Nat) (Option.some Jvm.ClassFile.FieldType.boolean)]
set_option maxRecDepth 65536 in
theorem codes_eq : words1.filter isCode = codes1 := rfl
theorem w_codes : ∀ c ∈ words1.filter isCode, c.before args0 about1 = true := by
  rw [codes_eq]
  intro c hc
  simp only [codes1, List.mem_cons, List.not_mem_nil, or_false] at hc
  rcases hc with rfl | rfl | rfl | rfl | rfl | rfl | rfl | rfl | rfl | rfl | rfl | rfl | rfl
  · exact w_c0
  · exact w_c1
  · exact w_c2
  · exact w_c3
  · exact w_c4
  · exact w_c5
  · exact w_c6
  · exact w_c7
  · exact w_c8
  · exact w_c9
  · exact w_c10
  · exact w_c11
  · exact w_c12
set_option maxRecDepth 65536 in
theorem w_t1 : (words1.take 24).all (fun c => isCode c || c.before args0 about1) = true := by decide +kernel
set_option maxRecDepth 65536 in
theorem w_t2 : ((words1.drop 24).take 24).all (fun c => isCode c || c.before args0 about1) = true := by decide +kernel
set_option maxRecDepth 65536 in
theorem w_t3 : (((words1.drop 24).drop 24).take 24).all (fun c => isCode c || c.before args0 about1) = true := by decide +kernel
set_option maxRecDepth 65536 in
theorem w_t4 : (((words1.drop 24).drop 24).drop 24).all (fun c => isCode c || c.before args0 about1) = true := by decide +kernel
theorem w_tables : (allAtoms (Jvm.Cond.code x code maxLocals ret :: tables_1)).before args0 about1 = true := by
  rw [allAtoms_all]
  show words1.all (fun c => c.before args0 about1) = true
  refine all_split ?_ w_codes
  rw [← List.take_append_drop 24 words1, List.all_append, w_t1, ← List.take_append_drop 24 (words1.drop 24), List.all_append, w_t2, ← List.take_append_drop 24 ((words1.drop 24).drop 24), List.all_append, w_t3, w_t4]
  rfl
set_option maxRecDepth 65536 in
theorem w_rest : rest_1_c.before args0 about1 = true := by decide +kernel
set_option maxRecDepth 65536 in
theorem w_case : (Jvm.Cond.and given_1 narrow_1).before args0 about1 = true := by decide +kernel
set_option maxRecDepth 65536 in
theorem w_consts : constsHeld consts_1 about1 := Jvm.Lit.constsHeldB_iff.mp (by decide +kernel)
theorem w_applies : (headSpec (Jvm.Cond.code x code maxLocals ret :: tables_1) room_1).applies x e0.platform about1 = true :=
  (Spec.applies_iff w_frames).mpr ⟨w_running, w_runnable, w_alone, w_named, w_hears, w_ripe, w_room, w_tables⟩
theorem atStart : AtStart classFile x code maxLocals ret World_1 tables_1 room_1 Calls_1 rest_1 Pre_1 launch0 p0 e0 about1 theMethod args0 below0 :=
  ⟨lists_1, trivial, launch0.admits_env _ _ _, launch0.least_env, fairChoices_fair.cas, fairChoices_fair.clock, w_frames, w_args, w_heap, w_applies, ⟨w_consts, trivial⟩, w_rest, w_case⟩
end start1
theorem witness_1 : WitnessClaimed_1 := ⟨start1.p0, start1.e0, start1.about1, start1.theMethod, start1.args0, start1.below0, start1.atStart⟩
end Jvm.Pilot.@@N@@
