import JvmDerived
import JvmDerived.Pilot.@@N@@Statement
import JvmDerived.Pilot.@@N@@Code
set_option linter.unusedVariables false
set_option linter.unusedSimpArgs false
namespace Jvm.Own
open Sem ClassFile Op Lib Jvm.Stand Jvm.Free Jvm.LawKit Jvm.RoadKit
section Steps
variable {p : Program} {l : Launch} {e : Env} {R : Room} {s : State} {m : MethodId} {args : Array Value} {below : List Frame} {meth : Method} {c : Code} {T t : State} {locs : List Loc} {cells slots : Nat} {pc : Nat} {Ls Ls' : Array Slot} {S : List Value}
theorem iloadN (X : Stand p l e R s m args below meth c T locs cells slots) (hx : p.tables.exec = Jvm.exec) {k : Fin 4} {v : Int32} (hd : decode c.code pc = .ok (.iload_n k, 1)) (hl : Ls[k.val]? = some (.val (.int v))) (hr : Steps p.tables e below (T.setTop (mkF m (pc + 1) Ls (.int v :: S))) t) : Steps p.tables e below (T.setTop (mkF m pc Ls S)) t := XS.iloadN X.here hx rfl hd hl hr
theorem iload (X : Stand p l e R s m args below meth c T locs cells slots) (hx : p.tables.exec = Jvm.exec) {k : Nat} {v : Int32} (hd : decode c.code pc = .ok (.iload k, 2)) (hl : Ls[k]? = some (.val (.int v))) (hr : Steps p.tables e below (T.setTop (mkF m (pc + 2) Ls (.int v :: S))) t) : Steps p.tables e below (T.setTop (mkF m pc Ls S)) t := XS.iload X.here hx rfl hd hl hr
theorem istoreN (X : Stand p l e R s m args below meth c T locs cells slots) (hx : p.tables.exec = Jvm.exec) {k : Fin 4} {v : Int32} (Ls' : Array Slot) (hd : decode c.code pc = .ok (.istore_n k, 1)) (hl : storeLocals Ls k.val (.int v) = some Ls') (hr : Steps p.tables e below (T.setTop (mkF m (pc + 1) Ls' S)) t) : Steps p.tables e below (T.setTop (mkF m pc Ls (.int v :: S))) t := XS.istoreN X.here hx rfl hd rfl hl hr
theorem istore (X : Stand p l e R s m args below meth c T locs cells slots) (hx : p.tables.exec = Jvm.exec) {k : Nat} {v : Int32} (Ls' : Array Slot) (hd : decode c.code pc = .ok (.istore k, 2)) (hl : storeLocals Ls k (.int v) = some Ls') (hr : Steps p.tables e below (T.setTop (mkF m (pc + 2) Ls' S)) t) : Steps p.tables e below (T.setTop (mkF m pc Ls (.int v :: S))) t := XS.istore X.here hx rfl hd rfl hl hr
theorem lloadN (X : Stand p l e R s m args below meth c T locs cells slots) (hx : p.tables.exec = Jvm.exec) {k : Fin 4} {v : Int64} (hd : decode c.code pc = .ok (.lload_n k, 1)) (hl : Ls[k.val]? = some (.val (.long v))) (hr : Steps p.tables e below (T.setTop (mkF m (pc + 1) Ls (.long v :: S))) t) : Steps p.tables e below (T.setTop (mkF m pc Ls S)) t := XS.lloadN X.here hx rfl hd hl hr
theorem lload (X : Stand p l e R s m args below meth c T locs cells slots) (hx : p.tables.exec = Jvm.exec) {k : Nat} {v : Int64} (hd : decode c.code pc = .ok (.lload k, 2)) (hl : Ls[k]? = some (.val (.long v))) (hr : Steps p.tables e below (T.setTop (mkF m (pc + 2) Ls (.long v :: S))) t) : Steps p.tables e below (T.setTop (mkF m pc Ls S)) t := XS.lload X.here hx rfl hd hl hr
theorem lstoreN (X : Stand p l e R s m args below meth c T locs cells slots) (hx : p.tables.exec = Jvm.exec) {k : Fin 4} {v : Int64} (Ls' : Array Slot) (hd : decode c.code pc = .ok (.lstore_n k, 1)) (hl : storeLocals Ls k.val (.long v) = some Ls') (hr : Steps p.tables e below (T.setTop (mkF m (pc + 1) Ls' S)) t) : Steps p.tables e below (T.setTop (mkF m pc Ls (.long v :: S))) t := XS.lstoreN X.here hx rfl hd rfl hl hr
theorem lstore (X : Stand p l e R s m args below meth c T locs cells slots) (hx : p.tables.exec = Jvm.exec) {k : Nat} {v : Int64} (Ls' : Array Slot) (hd : decode c.code pc = .ok (.lstore k, 2)) (hl : storeLocals Ls k (.long v) = some Ls') (hr : Steps p.tables e below (T.setTop (mkF m (pc + 2) Ls' S)) t) : Steps p.tables e below (T.setTop (mkF m pc Ls (.long v :: S))) t := XS.lstore X.here hx rfl hd rfl hl hr
theorem aloadN (X : Stand p l e R s m args below meth c T locs cells slots) (hx : p.tables.exec = Jvm.exec) {k : Fin 4} {v : Value} (hd : decode c.code pc = .ok (.aload_n k, 1)) (hl : Ls[k.val]? = some (.val v)) (hv : v.isRef = true) (hr : Steps p.tables e below (T.setTop (mkF m (pc + 1) Ls (v :: S))) t) : Steps p.tables e below (T.setTop (mkF m pc Ls S)) t := XS.aloadN X.here hx rfl hd hl hv hr
theorem aload (X : Stand p l e R s m args below meth c T locs cells slots) (hx : p.tables.exec = Jvm.exec) {k : Nat} {v : Value} (hd : decode c.code pc = .ok (.aload k, 2)) (hl : Ls[k]? = some (.val v)) (hv : v.isRef = true) (hr : Steps p.tables e below (T.setTop (mkF m (pc + 2) Ls (v :: S))) t) : Steps p.tables e below (T.setTop (mkF m pc Ls S)) t := XS.aload X.here hx rfl hd hl hv hr
theorem astoreN (X : Stand p l e R s m args below meth c T locs cells slots) (hx : p.tables.exec = Jvm.exec) {k : Fin 4} {v : Value} (Ls' : Array Slot) (hd : decode c.code pc = .ok (.astore_n k, 1)) (hv : v.isRef = true) (hl : storeLocals Ls k.val v = some Ls') (hr : Steps p.tables e below (T.setTop (mkF m (pc + 1) Ls' S)) t) : Steps p.tables e below (T.setTop (mkF m pc Ls (v :: S))) t := XS.astoreN X.here hx rfl hd rfl hv hl hr
theorem astore (X : Stand p l e R s m args below meth c T locs cells slots) (hx : p.tables.exec = Jvm.exec) {k : Nat} {v : Value} (Ls' : Array Slot) (hd : decode c.code pc = .ok (.astore k, 2)) (hv : v.isRef = true) (hl : storeLocals Ls k v = some Ls') (hr : Steps p.tables e below (T.setTop (mkF m (pc + 2) Ls' S)) t) : Steps p.tables e below (T.setTop (mkF m pc Ls (v :: S))) t := XS.astore X.here hx rfl hd rfl hv hl hr
theorem iconst (X : Stand p l e R s m args below meth c T locs cells slots) (hx : p.tables.exec = Jvm.exec) {i : Int} (v : Int32) (hd : decode c.code pc = .ok (.iconst i, 1)) (hv : Int32.ofInt i = v) (hr : Steps p.tables e below (T.setTop (mkF m (pc + 1) Ls (.int v :: S))) t) : Steps p.tables e below (T.setTop (mkF m pc Ls S)) t := XS.iconst X.here hx rfl hd (hv ▸ hr)
theorem bipush (X : Stand p l e R s m args below meth c T locs cells slots) (hx : p.tables.exec = Jvm.exec) {i : Int} (v : Int32) (hd : decode c.code pc = .ok (.bipush i, 2)) (hv : (Int8.ofInt i).toInt32 = v) (hr : Steps p.tables e below (T.setTop (mkF m (pc + 2) Ls (.int v :: S))) t) : Steps p.tables e below (T.setTop (mkF m pc Ls S)) t := XS.bipush X.here hx rfl hd (hv ▸ hr)
theorem sipush (X : Stand p l e R s m args below meth c T locs cells slots) (hx : p.tables.exec = Jvm.exec) {i : Int} (v : Int32) (hd : decode c.code pc = .ok (.sipush i, 3)) (hv : (Int16.ofInt i).toInt32 = v) (hr : Steps p.tables e below (T.setTop (mkF m (pc + 3) Ls (.int v :: S))) t) : Steps p.tables e below (T.setTop (mkF m pc Ls S)) t := XS.sipush X.here hx rfl hd (hv ▸ hr)
theorem lconst (X : Stand p l e R s m args below meth c T locs cells slots) (hx : p.tables.exec = Jvm.exec) {k : Fin 2} (v : Int64) (hd : decode c.code pc = .ok (.lconst k, 1)) (hv : Int64.ofNat k = v) (hr : Steps p.tables e below (T.setTop (mkF m (pc + 1) Ls (.long v :: S))) t) : Steps p.tables e below (T.setTop (mkF m pc Ls S)) t := XS.lconst X.here hx rfl hd (hv ▸ hr)
theorem aconstNull (X : Stand p l e R s m args below meth c T locs cells slots) (hx : p.tables.exec = Jvm.exec)  (hd : decode c.code pc = .ok (.aconst_null, 1)) (hr : Steps p.tables e below (T.setTop (mkF m (pc + 1) Ls (.null :: S))) t) : Steps p.tables e below (T.setTop (mkF m pc Ls S)) t := XS.aconstNull X.here hx rfl hd hr
theorem iadd (X : Stand p l e R s m args below meth c T locs cells slots) (hx : p.tables.exec = Jvm.exec) {x y : Int32} (hd : decode c.code pc = .ok (.iadd, 1)) (hr : Steps p.tables e below (T.setTop (mkF m (pc + 1) Ls (.int (x + y) :: S))) t) : Steps p.tables e below (T.setTop (mkF m pc Ls (.int y :: .int x :: S))) t := XS.iadd X.here hx rfl hd rfl hr
theorem isub (X : Stand p l e R s m args below meth c T locs cells slots) (hx : p.tables.exec = Jvm.exec) {x y : Int32} (hd : decode c.code pc = .ok (.isub, 1)) (hr : Steps p.tables e below (T.setTop (mkF m (pc + 1) Ls (.int (x - y) :: S))) t) : Steps p.tables e below (T.setTop (mkF m pc Ls (.int y :: .int x :: S))) t := XS.isub X.here hx rfl hd rfl hr
theorem iand (X : Stand p l e R s m args below meth c T locs cells slots) (hx : p.tables.exec = Jvm.exec) {x y : Int32} (hd : decode c.code pc = .ok (.iand, 1)) (hr : Steps p.tables e below (T.setTop (mkF m (pc + 1) Ls (.int (x &&& y) :: S))) t) : Steps p.tables e below (T.setTop (mkF m pc Ls (.int y :: .int x :: S))) t := XS.iand X.here hx rfl hd rfl hr
theorem ior (X : Stand p l e R s m args below meth c T locs cells slots) (hx : p.tables.exec = Jvm.exec) {x y : Int32} (hd : decode c.code pc = .ok (.ior, 1)) (hr : Steps p.tables e below (T.setTop (mkF m (pc + 1) Ls (.int (x ||| y) :: S))) t) : Steps p.tables e below (T.setTop (mkF m pc Ls (.int y :: .int x :: S))) t := XS.ior X.here hx rfl hd rfl hr
theorem ishl (X : Stand p l e R s m args below meth c T locs cells slots) (hx : p.tables.exec = Jvm.exec) {x y : Int32} (hd : decode c.code pc = .ok (.ishl, 1)) (hr : Steps p.tables e below (T.setTop (mkF m (pc + 1) Ls (.int (x <<< (y &&& 31)) :: S))) t) : Steps p.tables e below (T.setTop (mkF m pc Ls (.int y :: .int x :: S))) t := XS.ishl X.here hx rfl hd rfl hr
theorem ishr (X : Stand p l e R s m args below meth c T locs cells slots) (hx : p.tables.exec = Jvm.exec) {x y : Int32} (hd : decode c.code pc = .ok (.ishr, 1)) (hr : Steps p.tables e below (T.setTop (mkF m (pc + 1) Ls (.int (x >>> (y &&& 31)) :: S))) t) : Steps p.tables e below (T.setTop (mkF m pc Ls (.int y :: .int x :: S))) t := XS.ishr X.here hx rfl hd rfl hr
theorem iushr (X : Stand p l e R s m args below meth c T locs cells slots) (hx : p.tables.exec = Jvm.exec) {x y : Int32} (hd : decode c.code pc = .ok (.iushr, 1)) (hr : Steps p.tables e below (T.setTop (mkF m (pc + 1) Ls (.int ((x.toUInt32 >>> (y &&& 31).toUInt32).toInt32) :: S))) t) : Steps p.tables e below (T.setTop (mkF m pc Ls (.int y :: .int x :: S))) t := XS.iushr X.here hx rfl hd rfl hr
theorem land (X : Stand p l e R s m args below meth c T locs cells slots) (hx : p.tables.exec = Jvm.exec) {x y : Int64} (hd : decode c.code pc = .ok (.land, 1)) (hr : Steps p.tables e below (T.setTop (mkF m (pc + 1) Ls (.long (x &&& y) :: S))) t) : Steps p.tables e below (T.setTop (mkF m pc Ls (.long y :: .long x :: S))) t := XS.land X.here hx rfl hd rfl hr
theorem lor (X : Stand p l e R s m args below meth c T locs cells slots) (hx : p.tables.exec = Jvm.exec) {x y : Int64} (hd : decode c.code pc = .ok (.lor, 1)) (hr : Steps p.tables e below (T.setTop (mkF m (pc + 1) Ls (.long (x ||| y) :: S))) t) : Steps p.tables e below (T.setTop (mkF m pc Ls (.long y :: .long x :: S))) t := XS.lor X.here hx rfl hd rfl hr
theorem lxor (X : Stand p l e R s m args below meth c T locs cells slots) (hx : p.tables.exec = Jvm.exec) {x y : Int64} (hd : decode c.code pc = .ok (.lxor, 1)) (hr : Steps p.tables e below (T.setTop (mkF m (pc + 1) Ls (.long (x ^^^ y) :: S))) t) : Steps p.tables e below (T.setTop (mkF m pc Ls (.long y :: .long x :: S))) t := XS.lxor X.here hx rfl hd rfl hr
theorem lshl (X : Stand p l e R s m args below meth c T locs cells slots) (hx : p.tables.exec = Jvm.exec) {x : Int64} {y : Int32} (hd : decode c.code pc = .ok (.lshl, 1)) (hr : Steps p.tables e below (T.setTop (mkF m (pc + 1) Ls (.long (x <<< (y &&& 0x3f).toInt64) :: S))) t) : Steps p.tables e below (T.setTop (mkF m pc Ls (.int y :: .long x :: S))) t := XS.lshl X.here hx rfl hd rfl hr
theorem lushr (X : Stand p l e R s m args below meth c T locs cells slots) (hx : p.tables.exec = Jvm.exec) {x : Int64} {y : Int32} (hd : decode c.code pc = .ok (.lushr, 1)) (hr : Steps p.tables e below (T.setTop (mkF m (pc + 1) Ls (.long ((x.toUInt64 >>> (y &&& 0x3f).toInt64.toUInt64).toInt64) :: S))) t) : Steps p.tables e below (T.setTop (mkF m pc Ls (.int y :: .long x :: S))) t := XS.lushr X.here hx rfl hd rfl hr
theorem irem (X : Stand p l e R s m args below meth c T locs cells slots) (hx : p.tables.exec = Jvm.exec) {x y : Int32} (hd : decode c.code pc = .ok (.irem, 1)) (hy : y ≠ 0) (hr : Steps p.tables e below (T.setTop (mkF m (pc + 1) Ls (.int (x % y) :: S))) t) : Steps p.tables e below (T.setTop (mkF m pc Ls (.int y :: .int x :: S))) t := iremM X hx rfl hd rfl hy hr
theorem i2b (X : Stand p l e R s m args below meth c T locs cells slots) (hx : p.tables.exec = Jvm.exec) {x : Int32} (hd : decode c.code pc = .ok (.i2b, 1)) (hr : Steps p.tables e below (T.setTop (mkF m (pc + 1) Ls (.int (x.toInt8.toInt32) :: S))) t) : Steps p.tables e below (T.setTop (mkF m pc Ls (.int x :: S))) t := XS.i2b X.here hx rfl hd rfl hr
theorem i2c (X : Stand p l e R s m args below meth c T locs cells slots) (hx : p.tables.exec = Jvm.exec) {x : Int32} (hd : decode c.code pc = .ok (.i2c, 1)) (hr : Steps p.tables e below (T.setTop (mkF m (pc + 1) Ls (.int (x.toUInt32.toUInt16.toUInt32.toInt32) :: S))) t) : Steps p.tables e below (T.setTop (mkF m pc Ls (.int x :: S))) t := XS.i2c X.here hx rfl hd rfl hr
theorem i2l (X : Stand p l e R s m args below meth c T locs cells slots) (hx : p.tables.exec = Jvm.exec) {x : Int32} (hd : decode c.code pc = .ok (.i2l, 1)) (hr : Steps p.tables e below (T.setTop (mkF m (pc + 1) Ls (.long (x.toInt64) :: S))) t) : Steps p.tables e below (T.setTop (mkF m pc Ls (.int x :: S))) t := XS.i2l X.here hx rfl hd rfl hr
theorem l2i (X : Stand p l e R s m args below meth c T locs cells slots) (hx : p.tables.exec = Jvm.exec) {x : Int64} (hd : decode c.code pc = .ok (.l2i, 1)) (hr : Steps p.tables e below (T.setTop (mkF m (pc + 1) Ls (.int (x.toInt32) :: S))) t) : Steps p.tables e below (T.setTop (mkF m pc Ls (.long x :: S))) t := XS.l2i X.here hx rfl hd rfl hr
theorem iinc (X : Stand p l e R s m args below meth c T locs cells slots) (hx : p.tables.exec = Jvm.exec) {k : Nat} {cst : Int} {x : Int32} (v : Int32) (Ls' : Array Slot) (hd : decode c.code pc = .ok (.iinc k cst, 3)) (hl : Ls[k]? = some (.val (.int x))) (hv : x + Int32.ofInt cst = v) (hl' : storeLocals Ls k (.int v) = some Ls') (hr : Steps p.tables e below (T.setTop (mkF m (pc + 3) Ls' S)) t) : Steps p.tables e below (T.setTop (mkF m pc Ls S)) t := XS.iinc X.here hx rfl hd hl (hv ▸ hl') hr
theorem dup (X : Stand p l e R s m args below meth c T locs cells slots) (hx : p.tables.exec = Jvm.exec) {v : Value} (hd : decode c.code pc = .ok (.dup, 1)) (hc : v.category = 1) (hr : Steps p.tables e below (T.setTop (mkF m (pc + 1) Ls (v :: v :: S))) t) : Steps p.tables e below (T.setTop (mkF m pc Ls (v :: S))) t := XS.dup X.here hx rfl hd rfl hc hr
theorem dupX1 (X : Stand p l e R s m args below meth c T locs cells slots) (hx : p.tables.exec = Jvm.exec) {v w : Value} (hd : decode c.code pc = .ok (.dup_x1, 1)) (hc : v.category = 1) (hc2 : w.category = 1) (hr : Steps p.tables e below (T.setTop (mkF m (pc + 1) Ls (v :: w :: v :: S))) t) : Steps p.tables e below (T.setTop (mkF m pc Ls (v :: w :: S))) t := XS.dupX1 X.here hx rfl hd rfl hc hc2 hr
theorem pop (X : Stand p l e R s m args below meth c T locs cells slots) (hx : p.tables.exec = Jvm.exec) {v : Value} (hd : decode c.code pc = .ok (.pop, 1)) (hc : v.category = 1) (hr : Steps p.tables e below (T.setTop (mkF m (pc + 1) Ls S)) t) : Steps p.tables e below (T.setTop (mkF m pc Ls (v :: S))) t := XS.pop X.here hx rfl hd rfl hc hr
theorem goto (X : Stand p l e R s m args below meth c T locs cells slots) (hx : p.tables.exec = Jvm.exec) {o : Int} (pc' : Nat) (hd : decode c.code pc = .ok (.goto o, 3)) (ho : 0 ≤ (pc : Int) + o) (hp : ((pc : Int) + o).toNat = pc') (hr : Steps p.tables e below (T.setTop (mkF m pc' Ls S)) t) : Steps p.tables e below (T.setTop (mkF m pc Ls S)) t := XS.goto X.here hx rfl rfl hd ho hp hr
theorem ifYes (X : Stand p l e R s m args below meth c T locs cells slots) (hx : p.tables.exec = Jvm.exec) {cd : ClassFile.Cond} {o : Int} {x : Int32} (pc' : Nat) (hd : decode c.code pc = .ok (.ifCond cd o, 3)) (hc : ifCond.holds cd x = true) (ho : 0 ≤ (pc : Int) + o) (hp : ((pc : Int) + o).toNat = pc') (hr : Steps p.tables e below (T.setTop (mkF m pc' Ls S)) t) : Steps p.tables e below (T.setTop (mkF m pc Ls (.int x :: S))) t := XS.ifYes X.here hx rfl rfl hd rfl hc ho hp hr
theorem ifNo (X : Stand p l e R s m args below meth c T locs cells slots) (hx : p.tables.exec = Jvm.exec) {cd : ClassFile.Cond} {o : Int} {x : Int32} (hd : decode c.code pc = .ok (.ifCond cd o, 3)) (hc : ifCond.holds cd x = false) (hr : Steps p.tables e below (T.setTop (mkF m (pc + 3) Ls S)) t) : Steps p.tables e below (T.setTop (mkF m pc Ls (.int x :: S))) t := XS.ifNo X.here hx rfl hd rfl hc hr
theorem icmpYes (X : Stand p l e R s m args below meth c T locs cells slots) (hx : p.tables.exec = Jvm.exec) {cd : ClassFile.Cond} {o : Int} {x y : Int32} (pc' : Nat) (hd : decode c.code pc = .ok (.if_icmp cd o, 3)) (hc : if_icmp.holds cd x y = true) (ho : 0 ≤ (pc : Int) + o) (hp : ((pc : Int) + o).toNat = pc') (hr : Steps p.tables e below (T.setTop (mkF m pc' Ls S)) t) : Steps p.tables e below (T.setTop (mkF m pc Ls (.int y :: .int x :: S))) t := XS.icmpYes X.here hx rfl rfl hd rfl hc ho hp hr
theorem icmpNo (X : Stand p l e R s m args below meth c T locs cells slots) (hx : p.tables.exec = Jvm.exec) {cd : ClassFile.Cond} {o : Int} {x y : Int32} (hd : decode c.code pc = .ok (.if_icmp cd o, 3)) (hc : if_icmp.holds cd x y = false) (hr : Steps p.tables e below (T.setTop (mkF m (pc + 3) Ls S)) t) : Steps p.tables e below (T.setTop (mkF m pc Ls (.int y :: .int x :: S))) t := XS.icmpNo X.here hx rfl hd rfl hc hr
theorem lcmp (X : Stand p l e R s m args below meth c T locs cells slots) (hx : p.tables.exec = Jvm.exec) {x y : Int64} (hd : decode c.code pc = .ok (.lcmp, 1)) (hr : Steps p.tables e below (T.setTop (mkF m (pc + 1) Ls (.int (lcmpW x y) :: S))) t) : Steps p.tables e below (T.setTop (mkF m pc Ls (.long y :: .long x :: S))) t := XS.lcmp X.here hx rfl hd rfl hr
theorem ifnonnullYes (X : Stand p l e R s m args below meth c T locs cells slots) (hx : p.tables.exec = Jvm.exec) {o : Int} {b : Addr} (pc' : Nat) (hd : decode c.code pc = .ok (.ifnonnull o, 3)) (ho : 0 ≤ (pc : Int) + o) (hp : ((pc : Int) + o).toNat = pc') (hr : Steps p.tables e below (T.setTop (mkF m pc' Ls S)) t) : Steps p.tables e below (T.setTop (mkF m pc Ls (.ref b :: S))) t := XS.ifnonnullYes X.here hx rfl rfl hd rfl ho hp hr
theorem ldc2J (X : Stand p l e R s m args below meth c T locs cells slots) (hx : p.tables.exec = Jvm.exec) {Z : State} {a0 : Array Value} {own : String} {index : Nat} (v : Int64) (hZ : Z.Warmed39 s.vm) (hown : s.vm.findClass own = some m.cls) (w : (Cond.constantLong own index v).before a0 Z = true) (hd : decode c.code pc = .ok (.ldc2_w index, 3)) (hr : Steps p.tables e below (T.setTop (mkF m (pc + 3) Ls (.long v :: S))) t) : Steps p.tables e below (T.setTop (mkF m pc Ls S)) t := Jvm.Stand.ldc2J (g := mkF m pc Ls S) X hx hown (mv hZ w) rfl hd hr
theorem caload (X : Stand p l e R s m args below meth c T locs cells slots) (hx : p.tables.exec = Jvm.exec) {Z : State} {h : Heap} {a : Addr} {cl : Cell} {j : Int32} (v : Value) (hZ : Z.Warmed39 s.vm) (eT : T.heap = h) (A : Arr Z h a cl .char) (hin : ¬ (j < 0 ∨ cl.slots.size ≤ j.toNatClampNeg)) (hat : cl.slots[j.toNatClampNeg]? = some v) (hd : decode c.code pc = .ok (.caload, 1)) (hr : Steps p.tables e below (T.setTop (mkF m (pc + 1) Ls (v :: S))) t) : Steps p.tables e below (T.setTop (mkF m pc Ls (.int j :: .ref a :: S))) t := X.caload hx (j := j) (v := v) (by rw [eT]; exact A.1) (State.isArrayOf_alike hZ.alike A.2.1) A.2.2 hin hat (g := mkF m pc Ls (.int j :: .ref a :: S)) rfl rfl hd _ hr
theorem baload (X : Stand p l e R s m args below meth c T locs cells slots) (hx : p.tables.exec = Jvm.exec) {Z : State} {h : Heap} {a : Addr} {cl : Cell} {j : Int32} (v : Value) (hZ : Z.Warmed39 s.vm) (eT : T.heap = h) (A : Arr Z h a cl .byte) (hin : ¬ (j < 0 ∨ cl.slots.size ≤ j.toNatClampNeg)) (hat : cl.slots[j.toNatClampNeg]? = some v) (hd : decode c.code pc = .ok (.baload, 1)) (hr : Steps p.tables e below (T.setTop (mkF m (pc + 1) Ls (v :: S))) t) : Steps p.tables e below (T.setTop (mkF m pc Ls (.int j :: .ref a :: S))) t := X.baloadBytes hx (j := j) (v := v) (by rw [eT]; exact A.1) (State.isArrayOf_alike hZ.alike A.2.1) A.2.2 hin hat (g := mkF m pc Ls (.int j :: .ref a :: S)) rfl rfl hd _ hr
theorem arraylength (X : Stand p l e R s m args below meth c T locs cells slots) (hx : p.tables.exec = Jvm.exec) {Z : State} {h : Heap} {a : Addr} {cl : Cell} {ty : FieldType} (n : Int32) (hZ : Z.Warmed39 s.vm) (eT : T.heap = h) (A : Arr Z h a cl ty) (hn : cl.slots.size.toInt32 = n) (hd : decode c.code pc = .ok (.arraylength, 1)) (hr : Steps p.tables e below (T.setTop (mkF m (pc + 1) Ls (.int n :: S))) t) : Steps p.tables e below (T.setTop (mkF m pc Ls (.ref a :: S))) t := X.arraylength hx (cell := cl) (by rw [eT]; exact A.1) (State.isArrayOf_alike hZ.alike A.2.1) (g := mkF m pc Ls (.ref a :: S)) rfl rfl hd _ (hn ▸ hr)
end Steps
/-! what a body is said to leave -/
def Con (l : Launch) (Z : State) (y : MethodName) (bytes : ByteArray) (maxL : Nat) (ret : Option FieldType) (rm : Room) (as' : Array Value) (h0 : Heap) (Q : Option Value → Heap → List Loc → Prop) : Prop :=
  ∀ ws : List Jvm.Cond, MetFree l y (head1 (Jvm.Cond.code y bytes maxL ret :: ws) rm) (fun a U => a = as' ∧ Z.Warmed39 U.vm ∧ U.heap = h0) (fun _ _ _ _ _ => True) (fun _ U o U' => ∃ v L, o = .returned v ∧ Q v U'.heap L ∧ FrameEnd U o U' L rm.cells rm.slots)
abbrev Pure (v : Value) (h0 : Heap) (v' : Option Value) (h : Heap) (L : List Loc) : Prop := v' = some v ∧ L = [] ∧ h = h0
abbrev Law1 (h0 : Heap) (v : Option Value) (h : Heap) (L : List Loc) : Prop := v = some (.int 1) ∧ Fr h0.size L
theorem Con.mono {l : Launch} {Z : State} {y : MethodName} {bytes : ByteArray} {maxL : Nat} {ret : Option FieldType} {rm : Room} {as' : Array Value} {h0 : Heap} {Q Q' : Option Value → Heap → List Loc → Prop} (hM : Con l Z y bytes maxL ret rm as' h0 Q) (hQ : ∀ v h L, Q v h L → Q' v h L) : Con l Z y bytes maxL ret rm as' h0 Q' := by
  intro ws p e ha hc hk s m args below hf happ hP hK
  obtain ⟨n, o, h1, h2, h3, v, L, h4, h5, h6⟩ := hM ws p e ha hc hk s m args below hf happ hP hK
  exact ⟨n, o, h1, h2, h3, v, L, h4, hQ _ _ _ h5, h6⟩
theorem Con.law {l : Launch} {Z : State} {y : MethodName} {bytes : ByteArray} {maxL : Nat} {ret : Option FieldType} {rm : Room} {as' : Array Value} {h0 : Heap} {v : Value} (hM : Con l Z y bytes maxL ret rm as' h0 (Pure v h0)) (e : v = .int 1) : Con l Z y bytes maxL ret rm as' h0 (Law1 h0) :=
  hM.mono fun _ _ _ ⟨h1, h2, _⟩ => ⟨by rw [h1, e], by rw [h2]; exact Fr.nil _⟩
abbrev Fin (p : Program) (e : Env) (below : List Frame) (B0 s : State) (C D : Nat) (Q : Option Value → Heap → List Loc → Prop) : Prop := ∃ s₂ o, Steps p.tables e below B0 s₂ ∧ s₂.status = .running ∧ Ended s₂ below o ∧ ∃ v L, o = .returned v ∧ Q v s₂.heap L ∧ FrameEnd s o s₂ L C D
section Ends
variable {p : Program} {l : Launch} {e : Env} {R : Room} {s : State} {m : MethodId} {args : Array Value} {below : List Frame} {meth : Method} {c : Code} {T B0 : State} {locs : List Loc} {cells slots C D : Nat} {pc : Nat} {Ls : Array Slot} {rest : List Value} {Q : Option Value → Heap → List Loc → Prop}
theorem retI (X : Stand p l e R s m args below meth c T locs cells slots) (hx : p.tables.exec = Jvm.exec) {z : Int32} (hret : meth.sig.returnType = some .int) (hd : decode c.code pc = .ok (.ireturn, 1)) {fs : List Frame}
    (hl : ∀ (f : JFrame) (acts : List Action), f.method = m → f.locked = none → f.entered = [] → (doReturn e (T.setTop f) acts (some (.int z))).1 = T.setFrames fs) : Steps p.tables e below (T.setTop (mkF m pc Ls (.int z :: rest))) (T.setFrames fs) :=
  retOut X hx hret rfl (Or.inl ⟨rfl, Or.inl rfl, z, rfl⟩) hd hl
theorem finI (X : Stand p l e R s m args below meth c T locs cells slots) (hx : p.tables.exec = Jvm.exec) (hlk : meth.locks = false) (hret : meth.sig.returnType = some .int) {z : Int32} (hd : decode c.code pc = .ok (.ireturn, 1))
    (K : ∀ t, Steps p.tables e below (T.setTop (mkF m pc Ls (.int z :: rest))) t → Steps p.tables e below B0 t) (hC : cells ≤ C) (hD : slots ≤ D) (hQ : Q (some (.int z)) T.heap locs) :
    Fin p e below B0 s C D Q := by
  obtain ⟨fs, hr, hrun, hended, hW, hsame⟩ := X.leave (v := some (.int z)) (fun h => by rw [hret] at h; cases h) hlk
  exact ⟨_, _, K _ (retI X hx hret hd hr), hrun, hended, _, _, rfl, hQ, ⟨_, rfl⟩, hW, hsame.mono hC hD⟩
theorem finN (X : Stand p l e R s m args below meth c T locs cells slots) (hx : p.tables.exec = Jvm.exec) (hlk : meth.locks = false) {ty : FieldType} (hret : meth.sig.returnType = some ty) (ht : ty = .boolean ∨ ty = .byte ∨ ty = .char ∨ ty = .short) {z : Int32} (hd : decode c.code pc = .ok (.ireturn, 1))
    (K : ∀ t, Steps p.tables e below (T.setTop (mkF m pc Ls (.int z :: rest))) t → Steps p.tables e below B0 t) (hC : cells ≤ C) (hD : slots ≤ D) (hQ : Q (some (.int (nar ty z))) T.heap locs) :
    Fin p e below B0 s C D Q := by
  obtain ⟨fs, hr, hrun, hended, hW, hsame⟩ := X.leave (v := some (.int (nar ty z))) (fun h => by rw [hret] at h; cases h) hlk
  exact ⟨_, _, K _ (retN X hx hret ht hd hr), hrun, hended, _, _, rfl, hQ, ⟨_, rfl⟩, hW, hsame.mono hC hD⟩
theorem finJ (X : Stand p l e R s m args below meth c T locs cells slots) (hx : p.tables.exec = Jvm.exec) (hlk : meth.locks = false) (hret : meth.sig.returnType = some .long) {z : Int64} (hd : decode c.code pc = .ok (.lreturn, 1))
    (K : ∀ t, Steps p.tables e below (T.setTop (mkF m pc Ls (.long z :: rest))) t → Steps p.tables e below B0 t) (hC : cells ≤ C) (hD : slots ≤ D) (hQ : Q (some (.long z)) T.heap locs) :
    Fin p e below B0 s C D Q := by
  obtain ⟨fs, hr, hrun, hended, hW, hsame⟩ := X.leave (v := some (.long z)) (fun h => by rw [hret] at h; cases h) hlk
  exact ⟨_, _, K _ (retOut X hx hret rfl (Or.inr (Or.inl ⟨rfl, rfl, z, rfl⟩)) hd hr), hrun, hended, _, _, rfl, hQ, ⟨_, rfl⟩, hW, hsame.mono hC hD⟩
theorem narrow_ref {ty : FieldType} {v : Value} (ht : ty.isReference = true) (hv : v.isRef = true) : narrow ty v = v := by
  cases ty <;> first | (cases ht; done) | (cases v <;> first | rfl | (cases hv; done))
theorem finA (X : Stand p l e R s m args below meth c T locs cells slots) (hx : p.tables.exec = Jvm.exec) (hlk : meth.locks = false) {ty : FieldType} (hret : meth.sig.returnType = some ty) (ht : ty.isReference = true) {v : Value} (hv : v.isRef = true) (hd : decode c.code pc = .ok (.areturn, 1))
    (K : ∀ t, Steps p.tables e below (T.setTop (mkF m pc Ls (v :: rest))) t → Steps p.tables e below B0 t) (hC : cells ≤ C) (hD : slots ≤ D) (hQ : Q (some v) T.heap locs) :
    Fin p e below B0 s C D Q := by
  obtain ⟨fs, hr, hrun, hended, hW, hsame⟩ := X.leave (v := some v) (fun h => by rw [hret] at h; cases h) hlk
  exact ⟨_, _, K _ (retOut X hx hret (narrow_ref ht hv) (Or.inr (Or.inr (Or.inr (Or.inr ⟨rfl, ht, hv⟩)))) hd hr), hrun, hended, _, _, rfl, hQ, ⟨_, rfl⟩, hW, hsame.mono hC hD⟩
theorem finV (X : Stand p l e R s m args below meth c T locs cells slots) (hx : p.tables.exec = Jvm.exec) (hlk : meth.locks = false) (hret : meth.sig.returnType = none) (hd : decode c.code pc = .ok (.return_, 1)) 
    (K : ∀ t, Steps p.tables e below (T.setTop (mkF m pc Ls [])) t → Steps p.tables e below B0 t) (hC : cells ≤ C) (hD : slots ≤ D) (hQ : Q none T.heap locs) :
    Fin p e below B0 s C D Q := by
  obtain ⟨fs, hr, hrun, hended, hW, hsame⟩ := X.leave (v := none) (fun _ => rfl) hlk
  exact ⟨_, _, K _ (X.returnOut hx hret hd hr), hrun, hended, _, _, rfl, hQ, ⟨_, rfl⟩, hW, hsame.mono hC hD⟩
end Ends
section Calls
variable {p : Program} {l : Launch} {e : Env} {R : Room} {s : State} {m : MethodId} {args : Array Value} {below : List Frame} {meth : Method} {c : Code} {T : State} {locs : List Loc} {cells slots : Nat} {pc : Nat} {Ls : Array Slot} {Z : State} {a0 : Array Value} {h : Heap}
theorem callC (X : Stand p l e R s m args below meth c T locs cells slots) (hx : p.tables.exec = Jvm.exec) (hZ : Z.Warmed39 s.vm) (eT : T.heap = h) {own : String} {index : Nat} {y : MethodName} {bytes : ByteArray} {maxL : Nat} {ret : Option FieldType} {rm : Room} {Q : Option Value → Heap → List Loc → Prop}
    (argsL rest : List Value) (hM : Con l Z y bytes maxL ret rm argsL.toArray h Q) (hown : s.vm.findClass own = some m.cls) (w1 : (Cond.methodLink own index y).before a0 Z = true) (w2 : (Cond.static y).before a0 Z = true) (w3 : (Cond.initialized y.cls).before a0 Z = true) (w4 : (Cond.code y bytes maxL ret).before a0 Z = true)
    (hy : y.cls ≠ "java/lang/invoke/MethodHandle" ∧ y.cls ≠ "java/lang/invoke/VarHandle") (W : Nat) (hf : rm.frames + 1 ≤ R.frames) (hl : W + (maxL + 11) + rm.locals ≤ R.locals) (hcR : cells + rm.cells ≤ R.cells) (hsR : slots + rm.slots ≤ R.slots) (hsz : Ls.size = c.maxLocals)
    {S : List Value} (hlen : ∀ sig, parseMethodDescriptor y.desc = some sig → argsL.length = sig.parameters.length) (hS : S = argsL.reverse ++ rest) (hW : (rest.map fun v => v.category).sum ≤ W) (hd : decode c.code pc = .ok (.invokestatic index, 3)) :
    ∃ (T' : State) (v : Option Value) (L : List Loc), Stand p l e R s m args below meth c T' (locs ++ L) (cells + rm.cells) (slots + rm.slots) ∧ Q v T'.heap L ∧ ∀ t, Steps p.tables e below (T'.setTop (mkF m (pc + 3) Ls (v.toList ++ rest))) t → Steps p.tables e below (T.setTop (mkF m pc Ls S)) t := by
  obtain ⟨v, _, ⟨T', L', k', n'⟩, -, X', ⟨L, hQ, l', y', z'⟩, st⟩ := Jvm.LawKit.callS X hx (y := y) hown (mvT hZ w1) (mvT hZ w2) (mvT hZ w3) (mvT hZ w4) hy (backOf (W := W) (hM []) hZ w4 w3 hf hl) (g := mkF m pc Ls S) rfl hsz (argsL := argsL) (rest := rest) hlen hS (by show 2 * 0 + _ ≤ _; rw [Nat.mul_zero, Nat.zero_add]; exact hW) hd (fun _ _ => ⟨rfl, eT, hcR, hsR⟩)
  dsimp only [Pt.U, Pt.locs, Pt.cells, Pt.slots] at X' l' y' z' st hQ
  subst l' y' z'
  exact ⟨T', v, L, X', hQ, st⟩
theorem callP (X : Stand p l e R s m args below meth c T locs cells slots) (hx : p.tables.exec = Jvm.exec) (hZ : Z.Warmed39 s.vm) (eT : T.heap = h) {own : String} {index : Nat} {y : MethodName} {bytes : ByteArray} {maxL : Nat} {ret : Option FieldType} {rm : Room} {v : Value}
    (argsL rest : List Value) (hM : Con l Z y bytes maxL ret rm argsL.toArray h (Pure v h)) (hown : s.vm.findClass own = some m.cls) (w1 : (Cond.methodLink own index y).before a0 Z = true) (w2 : (Cond.static y).before a0 Z = true) (w3 : (Cond.initialized y.cls).before a0 Z = true) (w4 : (Cond.code y bytes maxL ret).before a0 Z = true)
    (hy : y.cls ≠ "java/lang/invoke/MethodHandle" ∧ y.cls ≠ "java/lang/invoke/VarHandle") (W : Nat) (hrc : rm.cells = 0) (hrs : rm.slots = 0) (hf : rm.frames + 1 ≤ R.frames) (hl : W + (maxL + 11) + rm.locals ≤ R.locals) (hcR : cells ≤ R.cells) (hsR : slots ≤ R.slots) (hsz : Ls.size = c.maxLocals)
    {S : List Value} (hlen : ∀ sig, parseMethodDescriptor y.desc = some sig → argsL.length = sig.parameters.length) (hS : S = argsL.reverse ++ rest) (hW : (rest.map fun v => v.category).sum ≤ W) (hd : decode c.code pc = .ok (.invokestatic index, 3)) :
    ∃ T' : State, Stand p l e R s m args below meth c T' locs cells slots ∧ T'.heap = h ∧ ∀ t, Steps p.tables e below (T'.setTop (mkF m (pc + 3) Ls (v :: rest))) t → Steps p.tables e below (T.setTop (mkF m pc Ls S)) t := by
  obtain ⟨T', v', L, X', ⟨rfl, rfl, hh⟩, st⟩ := callC X hx hZ eT argsL rest hM hown w1 w2 w3 w4 hy W hf hl (by rw [hrc]; exact hcR) (by rw [hrs]; exact hsR) hsz hlen hS hW hd
  rw [hrc, hrs, List.append_nil] at X'
  exact ⟨T', X', hh, st⟩
theorem getS (X : Stand p l e R s m args below meth c T locs cells slots) (hx : p.tables.exec = Jvm.exec) (hZ : Z.Warmed39 s.vm) (eT : T.heap = h) {own R0 O n d host : String} {index : Nat} (hown : s.vm.findClass own = some m.cls) (w : (Cond.fieldLink own index R0 n d).before a0 Z = true ∨ (Cond.fieldLinkNest own index R0 n d host).before a0 Z = true) (via : Via Z R0 O n d) {v : Value} (F : Sta Z h O n d v) {S : List Value} (hd : decode c.code pc = .ok (.getstatic index, 3)) :
    ∃ T' : State, Stand p l e R s m args below meth c T' locs cells slots ∧ T'.heap = h ∧ ∀ t, Steps p.tables e below (T'.setTop (mkF m (pc + 3) Ls (v :: S))) t → Steps p.tables e below (T.setTop (mkF m pc Ls S)) t := getS2 (g := mkF m pc Ls S) X hx hZ hown w via eT F rfl hd
theorem getF (X : Stand p l e R s m args below meth c T locs cells slots) (hx : p.tables.exec = Jvm.exec) (hZ : Z.Warmed39 s.vm) (eT : T.heap = h) {own R0 O n d host : String} {index : Nat} (hown : s.vm.findClass own = some m.cls) (w : (Cond.fieldLink own index R0 n d).before a0 Z = true ∨ (Cond.fieldLinkNest own index R0 n d host).before a0 Z = true) (via : Via Z R0 O n d) {a : Addr} {v : Value} (F : Fld Z h a O n d v) {S : List Value} (hd : decode c.code pc = .ok (.getfield index, 3)) :
    ∃ T' : State, Stand p l e R s m args below meth c T' locs cells slots ∧ T'.heap = h ∧ ∀ t, Steps p.tables e below (T'.setTop (mkF m (pc + 3) Ls (v :: S))) t → Steps p.tables e below (T.setTop (mkF m pc Ls (.ref a :: S))) t := Jvm.RoadKit.getF (g := mkF m pc Ls (.ref a :: S)) X hx hZ hown w via eT F rfl rfl hd
end Calls
end Jvm.Own
namespace Jvm.Own
open Sem ClassFile Op Lib Jvm.Stand Jvm.Free Jvm.LawKit Jvm.RoadKit
theorem Ext.refl (h : Heap) : Ext h h := ⟨Nat.le_refl _, fun _ _ q => q⟩
theorem Ext.trans {h0 h h' : Heap} (A : Ext h0 h) (B : Ext h h') : Ext h0 h' := ⟨Nat.le_trans A.1 B.1, fun a c q => B.2 a c (A.2 a c q)⟩
theorem Ext.keep {h0 h h' : Heap} {ws : List Addr} (A : Ext h0 h) (K : Keep h h' ws) (q : ∀ x ∈ ws, h0.size ≤ x) : Ext h0 h' := ⟨Nat.le_trans A.1 K.1, fun a c r => K.2.1 a c (A.2 a c r) fun z => absurd (Array.getElem?_eq_some_iff.mp r).1 (Nat.not_lt.mpr (q a z))⟩
theorem Ext.wr {h0 h h' : Heap} {a : Addr} {sl : Nat} {v : Value} (A : Ext h0 h) (W : Wr h h' a sl v) (q : h0.size ≤ a) : Ext h0 h' := Ext.keep A (Keep.of_wr W) fun x hx => by cases List.mem_singleton.mp hx; exact q
theorem sta_keep {Z : State} {h h' : Heap} {C n d K : String} {v : Value} {x : Addr} (F : Sta Z h C n d v) (Kp : Keep h h' [x]) (E : Exa Z h x K) : Sta Z h' C n d v := by
  obtain ⟨cf, i, k, f, st, cell, h1, h2, h3, h4, h5, h6, h7⟩ := F
  refine ⟨cf, i, k, f, st, cell, h1, h2, h3, h4, Kp.2.1 st cell h5 fun hm => ?_, h6, h7⟩
  cases List.mem_singleton.mp hm
  obtain ⟨c2, _, g1, -, -, g4, -⟩ := E
  cases h5.symm.trans g1
  rw [h6] at g4; cases g4
def CA (Z : State) (h : Heap) (a : Addr) (ty : FieldType) (xs : List Int32) : Prop := ∃ k, Arv Z h a k ty (Int32.ofNat xs.length) (xs.map Value.int) (.int 0) ∧ xs.length < 2 ^ 31
theorem CA.ext {Z : State} {h h' : Heap} {a : Addr} {ty : FieldType} {xs : List Int32} (F : CA Z h a ty xs) (E : Ext h h') : CA Z h' a ty xs := by obtain ⟨k, V, q⟩ := F; exact ⟨k, V.ext E, q⟩
theorem CA.keep {Z : State} {h h' : Heap} {a : Addr} {ty : FieldType} {xs : List Int32} {ws : List Addr} (F : CA Z h a ty xs) (K : Keep h h' ws) (n : a ∉ ws) : CA Z h' a ty xs := by obtain ⟨k, V, q⟩ := F; exact ⟨k, V.keep K n, q⟩
theorem CA.other {Z : State} {h h' : Heap} {a b : Addr} {ty : FieldType} {xs : List Int32} {sl : Nat} {v : Value} (F : CA Z h b ty xs) (W : Wr h h' a sl v) (n : b ≠ a) : CA Z h' b ty xs := by obtain ⟨k, V, q⟩ := F; exact ⟨k, V.other W n, q⟩
theorem CA.lt {Z : State} {h : Heap} {a : Addr} {ty : FieldType} {xs : List Int32} (F : CA Z h a ty xs) : a < h.size := by obtain ⟨k, V, q⟩ := F; exact V.lt
theorem ofNat_clamp {n : Nat} (h : n < 2 ^ 31) : (Int32.ofNat n).toNatClampNeg = n := by
  show (Int32.ofNat n).toInt.toNat = n
  rw [Int32.toInt_ofNat_small h]; rfl
theorem CA.len {Z : State} {h : Heap} {a : Addr} {ty : FieldType} {xs : List Int32} (F : CA Z h a ty xs) : ∃ cl, Arr Z h a cl ty ∧ cl.slots.size.toInt32 = Int32.ofNat xs.length := by
  obtain ⟨k, ⟨cl, A, -, S, M, -⟩, q⟩ := F
  exact ⟨cl, A, len_of S M⟩
theorem CA.get {Z : State} {h : Heap} {a : Addr} {ty : FieldType} {xs : List Int32} (F : CA Z h a ty xs) {j : Int32} (h0 : ¬ j < 0) (h1 : j.toNatClampNeg < xs.length) : ∃ cl, Arr Z h a cl ty ∧ ¬ (j < 0 ∨ cl.slots.size ≤ j.toNatClampNeg) ∧ cl.slots[j.toNatClampNeg]? = some (.int (xs.getD j.toNatClampNeg 0)) := by
  obtain ⟨k, ⟨cl, A, -, S, M, H, -⟩, q⟩ := F
  rw [ofNat_clamp q] at S
  refine ⟨cl, A, fun z => z.elim h0 fun z => by omega, ?_⟩
  rw [H _ (by omega)]
  simp [h1]
def LA (Z : State) (h : Heap) (a : Addr) (xs : List Int64) : Prop := ∃ k, Arv Z h a k .long (Int32.ofNat xs.length) (xs.map Value.long) (.long 0) ∧ xs.length < 2 ^ 31
theorem LA.ext {Z : State} {h h' : Heap} {a : Addr} {xs : List Int64} (F : LA Z h a xs) (E : Ext h h') : LA Z h' a xs := by obtain ⟨k, V, q⟩ := F; exact ⟨k, V.ext E, q⟩
theorem LA.keep {Z : State} {h h' : Heap} {a : Addr} {xs : List Int64} {ws : List Addr} (F : LA Z h a xs) (K : Keep h h' ws) (n : a ∉ ws) : LA Z h' a xs := by obtain ⟨k, V, q⟩ := F; exact ⟨k, V.keep K n, q⟩
theorem LA.other {Z : State} {h h' : Heap} {a b : Addr} {xs : List Int64} {sl : Nat} {v : Value} (F : LA Z h b xs) (W : Wr h h' a sl v) (n : b ≠ a) : LA Z h' b xs := by obtain ⟨k, V, q⟩ := F; exact ⟨k, V.other W n, q⟩
theorem LA.lt {Z : State} {h : Heap} {a : Addr} {xs : List Int64} (F : LA Z h a xs) : a < h.size := by obtain ⟨k, V, q⟩ := F; exact V.lt
section Heap
variable {p : Program} {l : Launch} {e : Env} {R : Room} {s : State} {m : MethodId} {args : Array Value} {below : List Frame} {meth : Method} {c : Code} {T : State} {locs : List Loc} {cells slots : Nat} {pc : Nat} {Ls : Array Slot} {S : List Value} {Z : State} {a0 : Array Value} {h : Heap}
theorem newO (X : Stand p l e R s m args below meth c T locs cells slots) (hx : p.tables.exec = Jvm.exec) (hZ : Z.Warmed39 s.vm) (eT : T.heap = h) {own C : String} {index n : Nat} (hown : s.vm.findClass own = some m.cls) (w : (Cond.classLink own index C).before a0 Z = true) (wi : (Cond.instantiable C n).before a0 Z = true) (wz : (Cond.initialized C).before a0 Z = true)
    (hd : decode c.code pc = .ok (.new index, 3)) (hc : cells + 1 ≤ R.cells) (hl : slots + n ≤ R.slots) :
    ∃ (T' : State) (h' : Heap) (b : Addr), Stand p l e R s m args below meth c T' locs (cells + 1) (slots + n) ∧ T'.heap = h' ∧ Ext h h' ∧ b = h.size ∧ Exa Z h' b C ∧ (∀ {O nm d : String} {ty : FieldType}, Laid Z a0 C O nm d → parseFieldDescriptor d = some ty → Fld Z h' b O nm d (defaultValue ty)) ∧
      ∀ t, Steps p.tables e below (T'.setTop (mkF m (pc + 3) Ls (.ref b :: S))) t → Steps p.tables e below (T.setTop (mkF m pc Ls S)) t := by
  obtain ⟨T', h', X', e', E, A, D, -, st⟩ := Jvm.RoadKit.newO X hx hZ hown w wi wz eT (g := mkF m pc Ls S) rfl hd hc hl
  exact ⟨T', h', _, X', e', E, rfl, A, D, st⟩
theorem newA (X : Stand p l e R s m args below meth c T locs cells slots) (hx : p.tables.exec = Jvm.exec) (hZ : Z.Warmed39 s.vm) (eT : T.heap = h) {aty : ArrayType} (ty : FieldType) (hty : newarray.typeOf aty = ty) (hdv : defaultValue ty = .int 0) (w : (Cond.arrayClass ty).before a0 Z = true)
    {z : Int32} (n : Nat) (hz : z = Int32.ofNat n) (hn : n < 2 ^ 26) (hd : decode c.code pc = .ok (.newarray aty, 2)) (hc : cells + 1 ≤ R.cells) (hl : slots + n ≤ R.slots) :
    ∃ (T' : State) (h' : Heap) (b : Addr), Stand p l e R s m args below meth c T' locs (cells + 1) (slots + n) ∧ T'.heap = h' ∧ Ext h h' ∧ b = h.size ∧ CA Z h' b ty (List.replicate n 0) ∧
      ∀ t, Steps p.tables e below (T'.setTop (mkF m (pc + 2) Ls (.ref b :: S))) t → Steps p.tables e below (T.setTop (mkF m pc Ls (.int z :: S))) t := by
  subst hty hz
  have q0 : ¬ Int32.ofNat n < 0 := Int32.ofNat_not_neg (show n < 2 ^ 31 by omega)
  have q1 : (Int32.ofNat n).toNatClampNeg = n := ofNat_clamp (by omega)
  obtain ⟨T', h', k, X', e', E, A, st⟩ := newP X hx hZ w eT (g := mkF m pc Ls (.int (Int32.ofNat n) :: S)) rfl hd rfl q0 (cap := n) (Nat.le_of_eq q1) (by omega) hc hl
  refine ⟨T', h', _, X', e', E, rfl, ⟨k, ?_, by simp; omega⟩, st⟩
  have V := Arv.new A q0
  rw [hdv] at V
  rw [List.length_replicate, List.map_replicate]
  exact V.pad (pad_rep [] (.int 0) n)
theorem stc (X : Stand p l e R s m args below meth c T locs cells slots) (hx : p.tables.exec = Jvm.exec) (hZ : Z.Warmed39 s.vm) (eT : T.heap = h) {a : Addr} {xs : List Int32} (F : CA Z h a .char xs) {j x : Int32} (i : Nat) (hi : j.toNatClampNeg = i) (h0 : ¬ j < 0) (h1 : i < xs.length) (hd : decode c.code pc = .ok (.castore, 1)) :
    ∃ (T' : State) (h' : Heap) (L' : List Loc), Stand p l e R s m args below meth c T' L' cells slots ∧ T'.heap = h' ∧ (∀ n0, Fr n0 locs → n0 ≤ a → Fr n0 L') ∧ Wr h h' a i (.int (nar .char x)) ∧ CA Z h' a .char (xs.set i (nar .char x)) ∧
      ∀ t, Steps p.tables e below (T'.setTop (mkF m (pc + 1) Ls S)) t → Steps p.tables e below (T.setTop (mkF m pc Ls (.int x :: .int j :: .ref a :: S))) t := by
  subst hi
  obtain ⟨k, ⟨cl, A, q1, Sz, M, H, G⟩, q⟩ := F
  have Sz' := Sz
  rw [ofNat_clamp q] at Sz'
  obtain ⟨T', h', X', e', W, st⟩ := stC X hx hZ eT A (j := j) (x := x) (fun z => z.elim h0 fun z => by omega) (g := mkF m pc Ls (.int x :: .int j :: .ref a :: S)) rfl rfl hd
  refine ⟨T', h', _, X', e', fun n0 N g => Fr.snoc X' N g, W, ⟨k, ?_, by simpa using q⟩, st⟩
  have V := Arv.set A q1 Sz M H G (fits_nar_char x) W j.toNatClampNeg rfl (by simpa using h1)
  rw [List.length_set, List.map_set]
  exact V
theorem stb (X : Stand p l e R s m args below meth c T locs cells slots) (hx : p.tables.exec = Jvm.exec) (hZ : Z.Warmed39 s.vm) (eT : T.heap = h) {a : Addr} {xs : List Int32} (F : CA Z h a .byte xs) {j x : Int32} (i : Nat) (hi : j.toNatClampNeg = i) (h0 : ¬ j < 0) (h1 : i < xs.length) (hd : decode c.code pc = .ok (.bastore, 1)) :
    ∃ (T' : State) (h' : Heap) (L' : List Loc), Stand p l e R s m args below meth c T' L' cells slots ∧ T'.heap = h' ∧ (∀ n0, Fr n0 locs → n0 ≤ a → Fr n0 L') ∧ Wr h h' a i (.int (nar .byte x)) ∧ CA Z h' a .byte (xs.set i (nar .byte x)) ∧
      ∀ t, Steps p.tables e below (T'.setTop (mkF m (pc + 1) Ls S)) t → Steps p.tables e below (T.setTop (mkF m pc Ls (.int x :: .int j :: .ref a :: S))) t := by
  subst hi
  obtain ⟨k, ⟨cl, A, q1, Sz, M, H, G⟩, q⟩ := F
  have Sz' := Sz
  rw [ofNat_clamp q] at Sz'
  obtain ⟨T', h', X', e', W, st⟩ := stB X hx hZ eT A (j := j) (x := x) (fun z => z.elim h0 fun z => by omega) (g := mkF m pc Ls (.int x :: .int j :: .ref a :: S)) rfl rfl hd
  refine ⟨T', h', _, X', e', fun n0 N g => Fr.snoc X' N g, W, ⟨k, ?_, by simpa using q⟩, st⟩
  have V := Arv.set A q1 Sz M H G (fits_nar_byte x) W j.toNatClampNeg rfl (by simpa using h1)
  rw [List.length_set, List.map_set]
  exact V
theorem cal (X : Stand p l e R s m args below meth c T locs cells slots) (hx : p.tables.exec = Jvm.exec) (hZ : Z.Warmed39 s.vm) (eT : T.heap = h) {a : Addr} {xs : List Int32} (F : CA Z h a .char xs) {j : Int32} (v : Int32) (h0 : ¬ j < 0) (h1 : j.toNatClampNeg < xs.length) (hv : xs.getD j.toNatClampNeg 0 = v) (hd : decode c.code pc = .ok (.caload, 1)) {t : State}
    (hr : Steps p.tables e below (T.setTop (mkF m (pc + 1) Ls (.int v :: S))) t) : Steps p.tables e below (T.setTop (mkF m pc Ls (.int j :: .ref a :: S))) t := by
  obtain ⟨cl, A, q1, q2⟩ := F.get h0 h1
  rw [hv] at q2
  exact caload X hx (.int v) hZ eT A q1 q2 hd hr
theorem putF (X : Stand p l e R s m args below meth c T locs cells slots) (hx : p.tables.exec = Jvm.exec) (hZ : Z.Warmed39 s.vm) (eT : T.heap = h) {own R0 O n d host C : String} {index kk : Nat} {ty : FieldType} (hown : s.vm.findClass own = some m.cls) (w : (Cond.fieldLink own index R0 n d).before a0 Z = true ∨ (Cond.fieldLinkNest own index R0 n d host).before a0 Z = true) (via : Via Z R0 O n d)
    {a : Addr} {v old : Value} (F : Fld Z h a O n d old) (E : Exa Z h a C) (L : (Cond.lays C O n d).before a0 Z = true ∨ ((Cond.laysFinal C O n d).before a0 Z = true ∧ own = O ∧ meth.name = "<init>")) (wi : (Cond.instantiable C kk).before a0 Z = true)
    (hty : parseFieldDescriptor d = some ty) (hn : narrow ty v = v) (hf : fits ty v = true) (hd : decode c.code pc = .ok (.putfield index, 3)) :
    ∃ (T' : State) (h' : Heap) (L' : List Loc), Stand p l e R s m args below meth c T' L' cells slots ∧ T'.heap = h' ∧ (∀ n0, Fr n0 locs → n0 ≤ a → Fr n0 L') ∧ Wr h h' a (Jvm.RoadKit.slotOf Z O n d) v ∧ Fld Z h' a O n d v ∧
      ∀ t, Steps p.tables e below (T'.setTop (mkF m (pc + 3) Ls S)) t → Steps p.tables e below (T.setTop (mkF m pc Ls (v :: .ref a :: S))) t := by
  obtain ⟨T', h', X', e', W, st⟩ := Jvm.RoadKit.putF X hx hZ hown w via eT F E L wi hty hn hf (g := mkF m pc Ls (v :: .ref a :: S)) rfl rfl hd
  exact ⟨T', h', _, X', e', fun n0 N g => Fr.snoc X' N g, W, F.same W, st⟩
theorem initO (X : Stand p l e R s m args below meth c T locs cells slots) (hx : p.tables.exec = Jvm.exec) (hZ : Z.Warmed39 s.vm) (eT : T.heap = h) {own : String} {idx : Nat} (hown : s.vm.findClass own = some m.cls) (w1 : (Cond.methodLink own idx Lib.objectInit).before a0 Z = true) (w2 : (Cond.instanceMethod Lib.objectInit).before a0 Z = true)
    (w3 : (Cond.code Lib.objectInit ⟨#[0xb1]⟩ 1 none).before a0 Z = true) (hsz : Ls.size = c.maxLocals) {a : Addr} (hd : decode c.code pc = .ok (.invokespecial idx, 3)) (hf : 1 ≤ R.frames) (W : Nat) (hW : (S.map fun v => v.category).sum ≤ W) (hl : W + 12 ≤ R.locals) :
    ∃ T' : State, Stand p l e R s m args below meth c T' locs cells slots ∧ T'.heap = h ∧ ∀ t, Steps p.tables e below (T'.setTop (mkF m (pc + 3) Ls S)) t → Steps p.tables e below (T.setTop (mkF m pc Ls (.ref a :: S))) t :=
  Jvm.RoadKit.initO X hx hZ hown w1 w2 w3 eT (g := mkF m pc Ls (.ref a :: S)) rfl hsz rfl hd hf (W := W) (by show 2 * 0 + _ ≤ _; rw [Nat.mul_zero, Nat.zero_add]; exact hW) hl
theorem callIB (X : Stand p l e R s m args below meth c T locs cells slots) (hx : p.tables.exec = Jvm.exec) (hZ : Z.Warmed39 s.vm) (eT : T.heap = h) {own : String} {index : Nat} {y : MethodName} {bytes : ByteArray} {maxL : Nat} {rc rs : Nat} {Q : Option Value → Heap → List Loc → Prop} (hy1 : y.name = "<init>")
    (a : Addr) (argsL rest : List Value) (W : Nat) (hB : Back l R p e below s args y 3 W (fun A b => b = (Value.ref a :: argsL).toArray ∧ A.U.heap = h ∧ A.cells + rc ≤ R.cells ∧ A.slots + rs ≤ R.slots) (fun A _ v B => ∃ L, Q v B.U.heap L ∧ B.locs = A.locs ++ L ∧ B.cells = A.cells + rc ∧ B.slots = A.slots + rs))
    (hown : s.vm.findClass own = some m.cls) (w1 : (Cond.methodLink own index y).before a0 Z = true) (w2 : (Cond.instanceMethod y).before a0 Z = true) (w4 : (Cond.code y bytes maxL none).before a0 Z = true)
    (hy : y.cls ≠ "java/lang/invoke/MethodHandle" ∧ y.cls ≠ "java/lang/invoke/VarHandle") (hcR : cells + rc ≤ R.cells) (hsR : slots + rs ≤ R.slots) (hsz : Ls.size = c.maxLocals)
    {S : List Value} (hlen : ∀ sig, parseMethodDescriptor y.desc = some sig → argsL.length = sig.parameters.length) (hS : S = argsL.reverse ++ .ref a :: rest) (hW : (rest.map fun v => v.category).sum ≤ W) (hd : decode c.code pc = .ok (.invokespecial index, 3)) :
    ∃ (T' : State) (h' : Heap) (v : Option Value) (L M : List Loc), Stand p l e R s m args below meth c T' M (cells + rc) (slots + rs) ∧ T'.heap = h' ∧ (∀ n0, Fr n0 locs → Fr n0 L → Fr n0 M) ∧ Q v h' L ∧ ∀ t, Steps p.tables e below (T'.setTop (mkF m (pc + 3) Ls (v.toList ++ rest))) t → Steps p.tables e below (T.setTop (mkF m pc Ls S)) t := by
  obtain ⟨v, _, ⟨T', L', k', n'⟩, -, X', ⟨L, hQ, l', y', z'⟩, st⟩ := X.specialBack hx (y := y) hy1 hown (mvT hZ w1) (mvT hZ w2) (mvT hZ w4) hy hB (g := mkF m pc Ls S) rfl hsz (Steps.refl _) (a := a) (argsL := argsL) (rest := rest) hlen hS (by show 2 * 0 + _ ≤ _; rw [Nat.mul_zero, Nat.zero_add]; exact hW) hd (fun _ _ => ⟨rfl, eT, hcR, hsR⟩)
  dsimp only [Pt.U, Pt.locs, Pt.cells, Pt.slots] at X' l' y' z' st hQ
  subst l' y' z'
  exact ⟨T', _, v, L, _, X', rfl, fun n0 A B => Fr.app A B, hQ, fun t k => st.trans k⟩
theorem callI (X : Stand p l e R s m args below meth c T locs cells slots) (hx : p.tables.exec = Jvm.exec) (hZ : Z.Warmed39 s.vm) (eT : T.heap = h) {own : String} {index : Nat} {y : MethodName} {bytes : ByteArray} {maxL : Nat} {rm : Room} {Q : Option Value → Heap → List Loc → Prop} (hy1 : y.name = "<init>")
    (a : Addr) (argsL rest : List Value) (hM : Con l Z y bytes maxL none rm (Value.ref a :: argsL).toArray h Q)
    (hown : s.vm.findClass own = some m.cls) (w1 : (Cond.methodLink own index y).before a0 Z = true) (w2 : (Cond.instanceMethod y).before a0 Z = true) (w3 : (Cond.initialized y.cls).before a0 Z = true) (w4 : (Cond.code y bytes maxL none).before a0 Z = true)
    (hy : y.cls ≠ "java/lang/invoke/MethodHandle" ∧ y.cls ≠ "java/lang/invoke/VarHandle") (W : Nat) (hf : rm.frames + 1 ≤ R.frames) (hl : W + (maxL + 11) + rm.locals ≤ R.locals) (hcR : cells + rm.cells ≤ R.cells) (hsR : slots + rm.slots ≤ R.slots) (hsz : Ls.size = c.maxLocals)
    {S : List Value} (hlen : ∀ sig, parseMethodDescriptor y.desc = some sig → argsL.length = sig.parameters.length) (hS : S = argsL.reverse ++ .ref a :: rest) (hW : (rest.map fun v => v.category).sum ≤ W) (hd : decode c.code pc = .ok (.invokespecial index, 3)) :
    ∃ (T' : State) (h' : Heap) (v : Option Value) (L M : List Loc), Stand p l e R s m args below meth c T' M (cells + rm.cells) (slots + rm.slots) ∧ T'.heap = h' ∧ (∀ n0, Fr n0 locs → Fr n0 L → Fr n0 M) ∧ Q v h' L ∧ ∀ t, Steps p.tables e below (T'.setTop (mkF m (pc + 3) Ls (v.toList ++ rest))) t → Steps p.tables e below (T.setTop (mkF m pc Ls S)) t :=
  callIB X hx hZ eT hy1 a argsL rest W (backOf (W := W) (hM []) hZ w4 w3 hf hl) hown w1 w2 w4 hy hcR hsR hsz hlen hS hW hd
theorem callH (X : Stand p l e R s m args below meth c T locs cells slots) (hx : p.tables.exec = Jvm.exec) (hZ : Z.Warmed39 s.vm) (eT : T.heap = h) {own : String} {index : Nat} {y : MethodName} {bytes : ByteArray} {maxL : Nat} {ret : Option FieldType} {rm : Room} {Q : Option Value → Heap → List Loc → Prop}
    (argsL rest : List Value) (hM : Con l Z y bytes maxL ret rm argsL.toArray h Q) (hown : s.vm.findClass own = some m.cls) (w1 : (Cond.methodLink own index y).before a0 Z = true) (w2 : (Cond.static y).before a0 Z = true) (w3 : (Cond.initialized y.cls).before a0 Z = true) (w4 : (Cond.code y bytes maxL ret).before a0 Z = true)
    (hy : y.cls ≠ "java/lang/invoke/MethodHandle" ∧ y.cls ≠ "java/lang/invoke/VarHandle") (W : Nat) (hf : rm.frames + 1 ≤ R.frames) (hl : W + (maxL + 11) + rm.locals ≤ R.locals) (hcR : cells + rm.cells ≤ R.cells) (hsR : slots + rm.slots ≤ R.slots) (hsz : Ls.size = c.maxLocals)
    {S : List Value} (hlen : ∀ sig, parseMethodDescriptor y.desc = some sig → argsL.length = sig.parameters.length) (hS : S = argsL.reverse ++ rest) (hW : (rest.map fun v => v.category).sum ≤ W) (hd : decode c.code pc = .ok (.invokestatic index, 3)) :
    ∃ (T' : State) (h' : Heap) (v : Option Value) (L M : List Loc), Stand p l e R s m args below meth c T' M (cells + rm.cells) (slots + rm.slots) ∧ T'.heap = h' ∧ (∀ n0, Fr n0 locs → Fr n0 L → Fr n0 M) ∧ Q v h' L ∧ ∀ t, Steps p.tables e below (T'.setTop (mkF m (pc + 3) Ls (v.toList ++ rest))) t → Steps p.tables e below (T.setTop (mkF m pc Ls S)) t := by
  obtain ⟨T', v, L, X', hQ, st⟩ := callC X hx hZ eT argsL rest hM hown w1 w2 w3 w4 hy W hf hl hcR hsR hsz hlen hS hW hd
  exact ⟨T', _, v, L, _, X', rfl, fun n0 A B => Fr.app A B, hQ, st⟩
end Heap
end Jvm.Own
namespace Jvm.Own
open Sem ClassFile Op Lib Bundle Jvm.Stand Jvm.Free Jvm.LawKit Jvm.RoadKit
abbrev To (p : Program) (e : Env) (below : List Frame) (B T : State) (f : JFrame) : Prop := ∀ t, Steps p.tables e below (T.setTop f) t → Steps p.tables e below B t
section More
variable {p : Program} {l : Launch} {e : Env} {R : Room} {s : State} {m : MethodId} {args : Array Value} {below : List Frame} {meth : Method} {c : Code} {T : State} {locs : List Loc} {cells slots : Nat} {pc : Nat} {Ls : Array Slot} {Z : State} {a0 : Array Value} {h : Heap}
theorem moreX (X : Stand p l e R s m args below meth c T locs cells slots) {cells' slots' : Nat} (hc : cells ≤ cells') (hs : slots ≤ slots') : Stand p l e R s m args below meth c T locs cells' slots' := { X with same := X.same.mono hc hs }
theorem declOf {y : MethodName} {bytes : ByteArray} {maxL : Nat} {ret : Option FieldType} (w4 : (Cond.instanceMethod y).before a0 Z = true) (w6 : (Cond.code y bytes maxL ret).before a0 Z = true) : (Cond.declares y).before a0 Z = true := by
  obtain ⟨mk, methM, hnamed, hmethM, hstM, habM⟩ := Cond.instanceMethod_spec w4
  obtain ⟨m2, cM, q1, -, -, -, -, -, -, hsig⟩ := Cond.code_spec hnamed w6
  cases hmethM.symm.trans q1
  simp [Cond.before, Cond.holds, Cond.value, hnamed, hmethM, hstM, hsig]
theorem nfOf {K : String} {y y0 : MethodName} (hc : y0.cls = y.cls) (w : (Cond.selects K y0 y0).before a0 Z = true) : NotFace Z y := fun r0 h0 => by
  obtain ⟨c2, r2, m2, q1, q2, q3, q4, kP, hkP, hkPi⟩ := Cond.selects_spec w
  have e1 := findClass_of_methodNamed h0
  have e2 := findClass_of_methodNamed q3
  rw [hc] at e2
  have e3 : r0.cls = m2.cls := Option.some.inj (e1.symm.trans e2)
  exact ⟨kP, by rw [e3]; exact hkP, hkPi⟩
theorem sameOf {y : MethodName} (w4 : (Cond.instanceMethod y).before a0 Z = true) (hnf : NotFace Z y) (hy : y.cls ≠ "java/lang/invoke/MethodHandle" ∧ y.cls ≠ "java/lang/invoke/VarHandle") : (Cond.sameMethod y.cls y.cls y.name y.desc).before a0 Z = true := by
  obtain ⟨mk, methM, hnamed, hmethM, hstM, habM⟩ := Cond.instanceMethod_spec w4
  have hf := State.methodFound?_of_named hnamed hy
  have hc := findClass_of_methodNamed hnamed
  obtain ⟨kr, hk, hi⟩ := hnf mk hnamed
  have hn : Z.methodNamed? ⟨y.cls, y.name, y.desc⟩ = some mk := hnamed
  simp [Cond.before, Cond.holds, Cond.value, hc, hf, hn, hk, hi]
theorem callVH (X : Stand p l e R s m args below meth c T locs cells slots) (hx : p.tables.exec = Jvm.exec) (hZ : Z.Warmed39 s.vm) (eT : T.heap = h) {own K K0 : String} {index : Nat} {y z y0 : MethodName} {bytes : ByteArray} {maxL : Nat} {ret : Option FieldType} {rm : Room} {Q : Option Value → Heap → List Loc → Prop}
    (b : Addr) (argsL rest : List Value) (hM : Con l Z z bytes maxL ret rm (Value.ref b :: argsL).toArray h Q) (hown : s.vm.findClass own = some m.cls) (E : Exa Z h b K) (w1 : (Cond.methodLink own index y).before a0 Z = true) (w2 : (Cond.declares y).before a0 Z = true) (w0 : (Cond.selects K0 y0 y0).before a0 Z = true) (hc0 : y0.cls = y.cls) (w3 : (Cond.selects K y z).before a0 Z = true) (w4 : (Cond.instanceMethod z).before a0 Z = true) (w5 : (Cond.initialized z.cls).before a0 Z = true) (w6 : (Cond.code z bytes maxL ret).before a0 Z = true)
    (hy : y.cls ≠ "java/lang/invoke/MethodHandle" ∧ y.cls ≠ "java/lang/invoke/VarHandle") (W : Nat) (hf : rm.frames + 1 ≤ R.frames) (hl : W + (maxL + 11) + rm.locals ≤ R.locals) (hcR : cells + rm.cells ≤ R.cells) (hsR : slots + rm.slots ≤ R.slots) (hsz : Ls.size = c.maxLocals)
    {S : List Value} (hlen : ∀ sig, parseMethodDescriptor y.desc = some sig → argsL.length = sig.parameters.length) (hS : S = argsL.reverse ++ .ref b :: rest) (hW : (rest.map fun v => v.category).sum ≤ W) (hd : decode c.code pc = .ok (.invokevirtual index, 3)) :
    ∃ (T' : State) (h' : Heap) (v : Option Value) (L M : List Loc), Stand p l e R s m args below meth c T' M (cells + rm.cells) (slots + rm.slots) ∧ T'.heap = h' ∧ (∀ n0, Fr n0 locs → Fr n0 L → Fr n0 M) ∧ Q v h' L ∧ ∀ t, Steps p.tables e below (T'.setTop (mkF m (pc + 3) Ls (v.toList ++ rest))) t → Steps p.tables e below (T.setTop (mkF m pc Ls S)) t := by
  obtain ⟨cB, kB, q1, q2, q3⟩ := isOf hZ eT E
  obtain ⟨v, _, ⟨T', L', k', n'⟩, -, X', ⟨L, hQ, l', y', z'⟩, st⟩ := X.virtualBack hx (y := y) (z := z) hown (mvT hZ w1) (mvT hZ w2) (nfOf (a0 := #[]) hc0 (mvT hZ w0)) (mvT hZ w3) (mvT hZ w4) hy (backOf (W := W) (hM []) hZ w6 w5 hf hl) q1 q3 (g := mkF m pc Ls S) rfl hsz (Steps.refl _) (argsL := argsL) (rest := rest) hlen hS (by show 2 * 0 + _ ≤ _; rw [Nat.mul_zero, Nat.zero_add]; exact hW) hd (fun _ _ => ⟨rfl, eT, hcR, hsR⟩)
  dsimp only [Pt.U, Pt.locs, Pt.cells, Pt.slots] at X' l' y' z' st hQ
  subst l' y' z'
  exact ⟨T', _, v, L, _, X', rfl, fun n0 A B => Fr.app A B, hQ, fun t k => st.trans k⟩
theorem callSH (X : Stand p l e R s m args below meth c T locs cells slots) (hx : p.tables.exec = Jvm.exec) (hZ : Z.Warmed39 s.vm) (eT : T.heap = h) {own K K0 : String} {index : Nat} {y y0 : MethodName} {bytes : ByteArray} {maxL : Nat} {ret : Option FieldType} {rm : Room} {Q : Option Value → Heap → List Loc → Prop}
    (b : Addr) (argsL rest : List Value) (hM : Con l Z y bytes maxL ret rm (Value.ref b :: argsL).toArray h Q) (hown : s.vm.findClass own = some m.cls) (E : Exa Z h b K) (w1 : (Cond.methodLink own index y).before a0 Z = true) (w2 : (Cond.superclass own y.cls).before a0 Z = true) (w0 : (Cond.selects K0 y0 y0).before a0 Z = true) (hc0 : y0.cls = y.cls) (w4 : (Cond.instanceMethod y).before a0 Z = true) (w5 : (Cond.initialized y.cls).before a0 Z = true) (w6 : (Cond.code y bytes maxL ret).before a0 Z = true)
    (hn : y.name ≠ "<init>") (hy : y.cls ≠ "java/lang/invoke/MethodHandle" ∧ y.cls ≠ "java/lang/invoke/VarHandle") (W : Nat) (hf : rm.frames + 1 ≤ R.frames) (hl : W + (maxL + 11) + rm.locals ≤ R.locals) (hcR : cells + rm.cells ≤ R.cells) (hsR : slots + rm.slots ≤ R.slots) (hsz : Ls.size = c.maxLocals)
    {S : List Value} (hlen : ∀ sig, parseMethodDescriptor y.desc = some sig → argsL.length = sig.parameters.length) (hS : S = argsL.reverse ++ .ref b :: rest) (hW : (rest.map fun v => v.category).sum ≤ W) (hd : decode c.code pc = .ok (.invokespecial index, 3)) :
    ∃ (T' : State) (h' : Heap) (v : Option Value) (L M : List Loc), Stand p l e R s m args below meth c T' M (cells + rm.cells) (slots + rm.slots) ∧ T'.heap = h' ∧ (∀ n0, Fr n0 locs → Fr n0 L → Fr n0 M) ∧ Q v h' L ∧ ∀ t, Steps p.tables e below (T'.setTop (mkF m (pc + 3) Ls (v.toList ++ rest))) t → Steps p.tables e below (T.setTop (mkF m pc Ls S)) t := by
  obtain ⟨v, _, ⟨T', L', k', n'⟩, -, X', ⟨L, hQ, l', y', z'⟩, st⟩ := superBack X hx hZ hown w1 (sameOf w4 (nfOf hc0 w0) hy) w4 w2 hn (backOf (W := W) (hM []) hZ w6 w5 hf hl) eT (Ins.self E) (g := mkF m pc Ls S) rfl hsz w6 (argsL := argsL) (rest := rest) hlen hS (by show 2 * 0 + _ ≤ _; rw [Nat.mul_zero, Nat.zero_add]; exact hW) hd (fun _ _ => ⟨rfl, eT, hcR, hsR⟩)
  dsimp only [Pt.U, Pt.locs, Pt.cells, Pt.slots] at X' l' y' z' st hQ
  subst l' y' z'
  exact ⟨T', _, v, L, _, X', rfl, fun n0 A B => Fr.app A B, hQ, fun t k => st.trans k⟩
theorem callVHO (X : Stand p l e R s m args below meth c T locs cells slots) (hx : p.tables.exec = Jvm.exec) (hZ : Z.Warmed39 s.vm) (eT : T.heap = h) {own K K0 : String} {index : Nat} {y z y0 : MethodName} {bytes : ByteArray} {maxL : Nat} {ret : Option FieldType} {rm : Room} {ov : Option Value}
    (b : Addr) (argsL rest : List Value) (hM : Con l Z z bytes maxL ret rm (Value.ref b :: argsL).toArray h (fun v h' L => v = ov ∧ L = [] ∧ h' = h)) (hown : s.vm.findClass own = some m.cls) (E : Exa Z h b K) (w1 : (Cond.methodLink own index y).before a0 Z = true) (w2 : (Cond.declares y).before a0 Z = true) (w0 : (Cond.selects K0 y0 y0).before a0 Z = true) (hc0 : y0.cls = y.cls) (w3 : (Cond.selects K y z).before a0 Z = true) (w4 : (Cond.instanceMethod z).before a0 Z = true) (w5 : (Cond.initialized z.cls).before a0 Z = true) (w6 : (Cond.code z bytes maxL ret).before a0 Z = true)
    (hy : y.cls ≠ "java/lang/invoke/MethodHandle" ∧ y.cls ≠ "java/lang/invoke/VarHandle") (W : Nat) (hrc : rm.cells = 0) (hrs : rm.slots = 0) (hf : rm.frames + 1 ≤ R.frames) (hl : W + (maxL + 11) + rm.locals ≤ R.locals) (hcR : cells ≤ R.cells) (hsR : slots ≤ R.slots) (hsz : Ls.size = c.maxLocals)
    {S : List Value} (hlen : ∀ sig, parseMethodDescriptor y.desc = some sig → argsL.length = sig.parameters.length) (hS : S = argsL.reverse ++ .ref b :: rest) (hW : (rest.map fun v => v.category).sum ≤ W) (hd : decode c.code pc = .ok (.invokevirtual index, 3)) :
    ∃ T' : State, Stand p l e R s m args below meth c T' locs cells slots ∧ T'.heap = h ∧ ∀ t, Steps p.tables e below (T'.setTop (mkF m (pc + 3) Ls (ov.toList ++ rest))) t → Steps p.tables e below (T.setTop (mkF m pc Ls S)) t := by
  obtain ⟨cB, kB, q1, q2, q3⟩ := isOf hZ eT E
  obtain ⟨v, _, ⟨T', L', k', n'⟩, -, X', ⟨L, ⟨hv, hL, hh⟩, l', y', z'⟩, st⟩ := X.virtualBack hx (y := y) (z := z) hown (mvT hZ w1) (mvT hZ w2) (nfOf (a0 := #[]) hc0 (mvT hZ w0)) (mvT hZ w3) (mvT hZ w4) hy (backOf (W := W) (Q := fun v h' L => v = ov ∧ L = [] ∧ h' = h) (hM []) hZ w6 w5 hf hl) q1 q3 (g := mkF m pc Ls S) rfl hsz (Steps.refl _) (argsL := argsL) (rest := rest) hlen hS (by show 2 * 0 + _ ≤ _; rw [Nat.mul_zero, Nat.zero_add]; exact hW) hd (fun _ _ => ⟨rfl, eT, by rw [hrc]; exact hcR, by rw [hrs]; exact hsR⟩)
  dsimp only [Pt.U, Pt.locs, Pt.cells, Pt.slots] at X' l' y' z' st hh
  subst hv hL l' y' z'
  rw [hrc, hrs, List.append_nil] at X'
  exact ⟨T', X', hh, fun t k => st.trans k⟩
theorem callSHO (X : Stand p l e R s m args below meth c T locs cells slots) (hx : p.tables.exec = Jvm.exec) (hZ : Z.Warmed39 s.vm) (eT : T.heap = h) {own K K0 : String} {index : Nat} {y y0 : MethodName} {bytes : ByteArray} {maxL : Nat} {ret : Option FieldType} {rm : Room} {ov : Option Value}
    (b : Addr) (argsL rest : List Value) (hM : Con l Z y bytes maxL ret rm (Value.ref b :: argsL).toArray h (fun v h' L => v = ov ∧ L = [] ∧ h' = h)) (hown : s.vm.findClass own = some m.cls) (E : Exa Z h b K) (w1 : (Cond.methodLink own index y).before a0 Z = true) (w2 : (Cond.superclass own y.cls).before a0 Z = true) (w0 : (Cond.selects K0 y0 y0).before a0 Z = true) (hc0 : y0.cls = y.cls) (w4 : (Cond.instanceMethod y).before a0 Z = true) (w5 : (Cond.initialized y.cls).before a0 Z = true) (w6 : (Cond.code y bytes maxL ret).before a0 Z = true)
    (hn : y.name ≠ "<init>") (hy : y.cls ≠ "java/lang/invoke/MethodHandle" ∧ y.cls ≠ "java/lang/invoke/VarHandle") (W : Nat) (hrc : rm.cells = 0) (hrs : rm.slots = 0) (hf : rm.frames + 1 ≤ R.frames) (hl : W + (maxL + 11) + rm.locals ≤ R.locals) (hcR : cells ≤ R.cells) (hsR : slots ≤ R.slots) (hsz : Ls.size = c.maxLocals)
    {S : List Value} (hlen : ∀ sig, parseMethodDescriptor y.desc = some sig → argsL.length = sig.parameters.length) (hS : S = argsL.reverse ++ .ref b :: rest) (hW : (rest.map fun v => v.category).sum ≤ W) (hd : decode c.code pc = .ok (.invokespecial index, 3)) :
    ∃ T' : State, Stand p l e R s m args below meth c T' locs cells slots ∧ T'.heap = h ∧ ∀ t, Steps p.tables e below (T'.setTop (mkF m (pc + 3) Ls (ov.toList ++ rest))) t → Steps p.tables e below (T.setTop (mkF m pc Ls S)) t := by
  obtain ⟨v, _, ⟨T', L', k', n'⟩, -, X', ⟨L, ⟨hv, hL, hh⟩, l', y', z'⟩, st⟩ := superBack X hx hZ hown w1 (sameOf w4 (nfOf hc0 w0) hy) w4 w2 hn (backOf (W := W) (Q := fun v h' L => v = ov ∧ L = [] ∧ h' = h) (hM []) hZ w6 w5 hf hl) eT (Ins.self E) (g := mkF m pc Ls S) rfl hsz w6 (argsL := argsL) (rest := rest) hlen hS (by show 2 * 0 + _ ≤ _; rw [Nat.mul_zero, Nat.zero_add]; exact hW) hd (fun _ _ => ⟨rfl, eT, by rw [hrc]; exact hcR, by rw [hrs]; exact hsR⟩)
  dsimp only [Pt.U, Pt.locs, Pt.cells, Pt.slots] at X' l' y' z' st hh
  subst hv hL l' y' z'
  rw [hrc, hrs, List.append_nil] at X'
  exact ⟨T', X', hh, fun t k => st.trans k⟩
def NS (h : Heap) (x : Addr) : Prop := ∀ c : Cell, h[x]? = some c → c.vm.isStatics = false
theorem ns_exa {x : Addr} {K : String} (E : Exa Z h x K) : NS h x := fun c hc => by
  obtain ⟨c2, _, g1, -, -, g4, -⟩ := E
  cases hc.symm.trans g1
  first | exact g4 | (rw [g4]; rfl)
theorem ns_ca {x : Addr} {ty : FieldType} {xs : List Int32} (F : CA Z h x ty xs) : NS h x := fun c hc => by
  obtain ⟨_, ⟨cl, A, -⟩, -⟩ := F
  cases hc.symm.trans A.1
  have q := A.2.1.1
  cases hv : c.vm <;> first | rfl | exact absurd hv (q _)
theorem sta_keepG {h' : Heap} {C n d : String} {v : Value} {ws : List Addr} (F : Sta Z h C n d v) (Kp : Keep h h' ws) (q : ∀ x ∈ ws, NS h x) : Sta Z h' C n d v := by
  obtain ⟨cf, i, k, f, st, cell, h1, h2, h3, h4, h5, h6, h7⟩ := F
  exact ⟨cf, i, k, f, st, cell, h1, h2, h3, h4, Kp.2.1 st cell h5 (fun hm => by have := q st hm cell h5; rw [h6] at this; cases this), h6, h7⟩
theorem callPO (X : Stand p l e R s m args below meth c T locs cells slots) (hx : p.tables.exec = Jvm.exec) (hZ : Z.Warmed39 s.vm) (eT : T.heap = h) {own : String} {index : Nat} {y : MethodName} {bytes : ByteArray} {maxL : Nat} {ret : Option FieldType} {rm : Room} {ov : Option Value}
    (argsL rest : List Value) (hM : Con l Z y bytes maxL ret rm argsL.toArray h (fun v h' L => v = ov ∧ L = [] ∧ h' = h)) (hown : s.vm.findClass own = some m.cls) (w1 : (Cond.methodLink own index y).before a0 Z = true) (w2 : (Cond.static y).before a0 Z = true) (w3 : (Cond.initialized y.cls).before a0 Z = true) (w4 : (Cond.code y bytes maxL ret).before a0 Z = true)
    (hy : y.cls ≠ "java/lang/invoke/MethodHandle" ∧ y.cls ≠ "java/lang/invoke/VarHandle") (W : Nat) (hrc : rm.cells = 0) (hrs : rm.slots = 0) (hf : rm.frames + 1 ≤ R.frames) (hl : W + (maxL + 11) + rm.locals ≤ R.locals) (hcR : cells ≤ R.cells) (hsR : slots ≤ R.slots) (hsz : Ls.size = c.maxLocals)
    {S : List Value} (hlen : ∀ sig, parseMethodDescriptor y.desc = some sig → argsL.length = sig.parameters.length) (hS : S = argsL.reverse ++ rest) (hW : (rest.map fun v => v.category).sum ≤ W) (hd : decode c.code pc = .ok (.invokestatic index, 3)) :
    ∃ T' : State, Stand p l e R s m args below meth c T' locs cells slots ∧ T'.heap = h ∧ ∀ t, Steps p.tables e below (T'.setTop (mkF m (pc + 3) Ls (ov.toList ++ rest))) t → Steps p.tables e below (T.setTop (mkF m pc Ls S)) t := by
  obtain ⟨T', v', L, X', ⟨rfl, rfl, hh⟩, st⟩ := callC X hx hZ eT argsL rest hM hown w1 w2 w3 w4 hy W hf hl (by rw [hrc]; exact hcR) (by rw [hrs]; exact hsR) hsz hlen hS hW hd
  rw [hrc, hrs, List.append_nil] at X'
  exact ⟨T', X', hh, st⟩
theorem stSelf {l : Array Slot} {i : Nat} {v : Value} {o : Slot} (hold : l[i]? = some o) (ho : One o) : storeLocals l i v = storeSelf l i v := by
  rcases ho with rfl | ⟨w, rfl, hw⟩
  · simp [storeLocals, hold]
  · simp [storeLocals, hold, hw]
theorem bal (X : Stand p l e R s m args below meth c T locs cells slots) (hx : p.tables.exec = Jvm.exec) (hZ : Z.Warmed39 s.vm) (eT : T.heap = h) {S : List Value} {a : Addr} {xs : List Int32} (F : CA Z h a .byte xs) {j : Int32} (v : Int32) (h0 : ¬ j < 0) (h1 : j.toNatClampNeg < xs.length) (hv : xs.getD j.toNatClampNeg 0 = v) (hd : decode c.code pc = .ok (.baload, 1)) {t : State}
    (hr : Steps p.tables e below (T.setTop (mkF m (pc + 1) Ls (.int v :: S))) t) : Steps p.tables e below (T.setTop (mkF m pc Ls (.int j :: .ref a :: S))) t := by
  obtain ⟨cl, A, q1, q2⟩ := F.get h0 h1
  rw [hv] at q2
  exact baload X hx (.int v) hZ eT A q1 q2 hd hr
theorem cpL {ys zs : List Int32} {j n : Nat} (h5 : j + n ≤ ys.length) (hz : zs.length = n) : (ys.take j ++ zs ++ ys.drop (j + n)).length = ys.length := by
  simp only [List.length_append, List.length_take, List.length_drop, hz]; omega
theorem cpC (X : Stand p l e R s m args below meth c T locs cells slots) (hx : p.tables.exec = Jvm.exec) (hZ : Z.Warmed39 s.vm) (eT : T.heap = h) {own : String} {index : Nat} (hown : s.vm.findClass own = some m.cls)
    (w1 : (Cond.methodLink own index Jvm.Stand.acN).before a0 Z = true) (w2 : (Cond.native Jvm.Stand.acN).before a0 Z = true) (w3 : (Cond.static Jvm.Stand.acN).before a0 Z = true) (w4 : (Cond.initialized "java/lang/System").before a0 Z = true)
    {a b : Addr} {ty : FieldType} (hr : refKind ty = false) {xs ys : List Int32} (A : CA Z h a ty xs) (B : CA Z h b ty ys) {sp dp nn : Int32} (i j n : Nat) (hi : sp = Int32.ofNat i) (hj : dp = Int32.ofNat j) (hn : nn = Int32.ofNat n) (h4 : i + n ≤ xs.length) (h5 : j + n ≤ ys.length) {n0 : Nat} (N : Fr n0 locs) (ge : n0 ≤ b)
    (rest : List Value) (W : Nat) (hf : 1 ≤ R.frames) (hlo : W + (nativeFrameWords "java/lang/System" "arraycopy" 5 + 11) ≤ R.locals) (hsz : Ls.size = c.maxLocals) (hW : (rest.map fun v => v.category).sum ≤ W) (hd : decode c.code pc = .ok (.invokestatic index, 3)) :
    ∃ (T' : State) (h' : Heap) (L : List Loc), Stand p l e R s m args below meth c T' L cells slots ∧ T'.heap = h' ∧ Fr n0 L ∧ Keep h h' [b] ∧ CA Z h' b ty (ys.take j ++ (xs.drop i).take n ++ ys.drop (j + n)) ∧
      ∀ t, Steps p.tables e below (T'.setTop (mkF m (pc + 3) Ls rest)) t → Steps p.tables e below (T.setTop (mkF m pc Ls (.int nn :: .int dp :: .ref b :: .int sp :: .ref a :: rest))) t := by
  subst hi hj hn
  obtain ⟨ka, A, qa⟩ := A
  obtain ⟨kb, B, qb⟩ := B
  have ci : (Int32.ofNat i).toNatClampNeg = i := ofNat_clamp (by omega)
  have cj : (Int32.ofNat j).toNatClampNeg = j := ofNat_clamp (by omega)
  have cn : (Int32.ofNat n).toNatClampNeg = n := ofNat_clamp (by omega)
  have us : (List.range n).map (fun q => (xs.map Value.int).getD (i + q) (.int 0)) = ((xs.drop i).take n).map Value.int := by
    apply List.ext_getElem
    · simp; omega
    · intro q q1 q2
      simp only [List.length_map, List.length_range] at q1
      have hq : i + q < xs.length := by omega
      simp [hq]
  obtain ⟨T', h', L, X', e', N', K, V, st⟩ := cpA X hx hZ hown w1 w2 w3 w4 eT (us := ((xs.drop i).take n).map Value.int) A B (Or.inl ⟨rfl, hr⟩) (Int32.ofNat_not_neg (by omega)) (Int32.ofNat_not_neg (by omega)) (Int32.ofNat_not_neg (by omega)) (by rw [ci, cn, ofNat_clamp qa]; omega) (by rw [cj, cn, ofNat_clamp qb]; omega) (by rw [ci, cn]; exact us.symm) (by rw [cj, cn, List.length_map]; omega) N ge (g := mkF m pc Ls (.int (Int32.ofNat n) :: .int (Int32.ofNat j) :: .ref b :: .int (Int32.ofNat i) :: .ref a :: rest)) rfl hsz rfl hd hf (W := W) (by show 2 * 0 + _ ≤ _; rw [Nat.mul_zero, Nat.zero_add]; exact hW) hlo
  have hz : ((xs.drop i).take n).length = n := by rw [List.length_take, List.length_drop]; omega
  rw [cj, cn] at V
  refine ⟨T', h', L, X', e', N', K, ⟨kb, ?_, by rw [cpL h5 hz]; exact qb⟩, st⟩
  rw [cpL h5 hz]
  simpa only [List.map_append, List.map_take, List.map_drop] using V
end More
end Jvm.Own
namespace Jvm.Own
open Sem ClassFile Op Lib Bundle Jvm.Stand Jvm.Free Jvm.LawKit Jvm.RoadKit
def ConH (l : Launch) (Z : State) (EL : List (String × Nat)) (y : MethodName) (bytes : ByteArray) (maxL : Nat) (ret : Option FieldType) (rm : Room) (as' : Array Value) (h0 : Heap) (Q : Option Value → Heap → List Loc → Prop) : Prop :=
  ∀ ws : List Jvm.Cond, MetFree l y (head1 (Jvm.Cond.code y bytes maxL ret :: ws) rm) (fun a U => a = as' ∧ Z.Warmed39 U.vm ∧ U.heap = h0 ∧ CHv Z EL U.vm h0) (fun _ _ _ _ _ => True) (fun _ U o U' => ∃ v L, o = .returned v ∧ Q v U'.heap L ∧ CHr Z EL U.vm U.heap U'.vm U'.heap ∧ ReturnedEndW U o U' L rm.cells rm.slots)
abbrev FinH (p : Program) (e : Env) (below : List Frame) (B0 s Z : State) (EL : List (String × Nat)) (C D : Nat) (Q : Option Value → Heap → List Loc → Prop) : Prop := ∃ s₂ o, Steps p.tables e below B0 s₂ ∧ s₂.status = .running ∧ Ended s₂ below o ∧ ∃ v L, o = .returned v ∧ Q v s₂.heap L ∧ CHr Z EL s.vm s.heap s₂.vm s₂.heap ∧ ReturnedEndW s o s₂ L C D
def Wd (s Z : State) (EL : List (String × Nat)) (own : String) (k : ClassId) (vm : Vm) (h : Heap) : Prop := (∃ n, s.Since vm n ∧ n ≤ h.size) ∧ Z.Warmed39 vm ∧ vm.findClass own = some k ∧ CHr Z EL s.vm s.heap vm h
section Wd
variable {s Z : State} {EL : List (String × Nat)} {own : String} {k : ClassId} {vm : Vm} {h h' : Heap}
theorem Wd.hZ (D : Wd s Z EL own k vm h) : Z.Warmed39 (s.setVm vm).vm := D.2.1
theorem Wd.hown (D : Wd s Z EL own k vm h) : (s.setVm vm).vm.findClass own = some k := D.2.2.1
theorem Wd.H (D : Wd s Z EL own k vm h) : CHv Z EL vm h := D.2.2.2.1
theorem Wd.start (hZ : Z.Warmed39 s.vm) (hown : s.vm.findClass own = some k) (H : CHv Z EL s.vm s.heap) : Wd s Z EL own k s.vm s.heap := ⟨⟨0, (State.WarmedH.refl s).since 0, Nat.zero_le _⟩, hZ, hown, CHr.refl H⟩
theorem Wd.on (D : Wd s Z EL own k vm h) (A : CHr Z EL vm h vm h') : Wd s Z EL own k vm h' := by
  obtain ⟨⟨n, d1, d2⟩, d3, d4, d5⟩ := D
  exact ⟨⟨n, d1, Nat.le_trans d2 A.2.1⟩, d3, d4, d5.trans A⟩
theorem Wd.ext (D : Wd s Z EL own k vm h) (E : Ext h h') : Wd s Z EL own k vm h' := D.on (CHr.ext E D.H)
theorem Wd.wr {a : Addr} {sl : Nat} {v : Value} (D : Wd s Z EL own k vm h) (W : Wr h h' a sl v) (S : Safe Z EL vm h a) : Wd s Z EL own k vm h' := D.on (CHr.wr W S D.H)
theorem Wd.keep {ws : List Addr} (D : Wd s Z EL own k vm h) (K : Keep h h' ws) (S : ∀ x ∈ ws, Safe Z EL vm h x) : Wd s Z EL own k vm h' := D.on (CHr.keep K S D.H)
end Wd
theorem safe_null {Z : State} {EL : List (String × Nat)} {vm : Vm} {h : Heap} {x : Addr} (hal : Z.vm.Alike vm) (E : Exa Z h x "java/lang/String") (F : Fld Z h x "java/lang/String" "value" "[B" .null) : Safe Z EL vm h x := fun B => by
  obtain ⟨p, hp, u, a, hb, q, hqa, FS, hy⟩ := B
  obtain ⟨cS, ⟨⟨s1, s2, s3, ⟨cv, kv, iv, s4, s4'⟩, ⟨cc, kc, ic, s5, s5'⟩, s6, s7, s8, s9, s10, s11, s12, s13, s14, s15, s16⟩, hfS, hcS⟩, ⟨kS, k1, k2, k3⟩, hB, hbyt⟩ := FS
  obtain ⟨cell, cf, k, i, f, f1, f2, f3, f4, f5, f6, f7⟩ := F
  rcases hy with rfl | rfl
  · have e1 : cell = q.sC := Option.some.inj (f1.symm.trans s1)
    subst e1
    obtain ⟨kv', z4⟩ := ff_back (U := Wst Z vm h) hal s4
    cases z4.symm.trans f2
    cases s8.symm.trans f7
  · have e1 : cell = q.SA := Option.some.inj (f1.symm.trans s10)
    obtain ⟨cE, kE, g1, g2, g3, g4, g5⟩ := E
    have e2 : cE = q.SA := Option.some.inj (g1.symm.trans s10)
    subst e2
    have hBZ : Z.vm.findClass "[B" = some q.SA.cls := by rw [← hal.findClass]; exact hB
    obtain ⟨ka, ha1, ha2⟩ := Vm.findClass_spec g2
    obtain ⟨kb, hb1, hb2⟩ := Vm.findClass_spec hBZ
    cases ha1.symm.trans hb1
    exact absurd (ha2.symm.trans hb2) (by decide)
theorem CA.safe {Z : State} {EL : List (String × Nat)} {vm : Vm} {h : Heap} {a : Addr} {ty : FieldType} {xs : List Int32} (hal : Z.vm.Alike vm) (F : CA Z h a ty xs) (ht : ty ≠ .byte) : Safe Z EL vm h a := by obtain ⟨k, V, -⟩ := F; exact Safe.arv hal V ht
section WEnds
variable {p : Program} {l : Launch} {e : Env} {R : Room} {s : State} {m : MethodId} {args : Array Value} {below : List Frame} {meth : Method} {c : Code} {T : State} {locs : List Loc} {cells slots : Nat} {pc : Nat} {Ls : Array Slot} {Z : State} {a0 : Array Value} {h : Heap} {vm0 : Vm} {EL : List (String × Nat)} {own : String} {B0 : State} {C D : Nat} {rest : List Value} {Q : Option Value → Heap → List Loc → Prop} {k : ClassId}
theorem endW (X : Stand p l e R (s.setVm vm0) m args below meth c T locs cells slots) (hEL : EW Z a0 EL) (eT : T.heap = h) (W : Wd s Z EL own k vm0 h) {v : Option Value} {fs : List Frame} (hW : (s.setVm vm0).WarmedH (T.setFrames fs).vm) (hs : (s.setVm vm0).sameButNew ({ T.setFrames fs with vm := (s.setVm vm0).vm } : State) locs cells slots) (hC : cells ≤ C) (hD : slots ≤ D) :
    CHr Z EL s.vm s.heap (T.setFrames fs).vm (T.setFrames fs).heap ∧ ReturnedEndW s (.returned v) (T.setFrames fs) locs C D := by
  obtain ⟨⟨n, d1, d2⟩, d3, d4, d5⟩ := W
  subst eT
  have q := d1.ended (U := T.setFrames fs) hW d2 hs
  exact ⟨d5.trans (show CHr Z EL vm0 T.heap T.vm T.heap from CHv.at X d3 hEL d5.1), ⟨_, rfl⟩, q.1, q.2.1, q.2.2.mono hC hD⟩
theorem finHN (X : Stand p l e R (s.setVm vm0) m args below meth c T locs cells slots) (hx : p.tables.exec = Jvm.exec) (hEL : EW Z a0 EL) (eT : T.heap = h) (W : Wd s Z EL own k vm0 h) (hlk : meth.locks = false) {ty : FieldType} (hret : meth.sig.returnType = some ty) (ht : ty = .boolean ∨ ty = .byte ∨ ty = .char ∨ ty = .short) {z : Int32} (hd : decode c.code pc = .ok (.ireturn, 1))
    (K : ∀ t, Steps p.tables e below (T.setTop (mkF m pc Ls (.int z :: rest))) t → Steps p.tables e below B0 t) (hC : cells ≤ C) (hD : slots ≤ D) (hQ : Q (some (.int (nar ty z))) T.heap locs) : FinH p e below B0 s Z EL C D Q := by
  obtain ⟨fs, hr, hrun, hended, hW, hsame⟩ := X.leave (v := some (.int (nar ty z))) (fun h => by rw [hret] at h; cases h) hlk
  obtain ⟨r1, r2⟩ := endW X hEL eT W (v := some (.int (nar ty z))) hW hsame hC hD
  exact ⟨_, _, K _ (retN X hx hret ht hd hr), hrun, hended, _, _, rfl, hQ, r1, r2⟩
theorem finHA (X : Stand p l e R (s.setVm vm0) m args below meth c T locs cells slots) (hx : p.tables.exec = Jvm.exec) (hEL : EW Z a0 EL) (eT : T.heap = h) (W : Wd s Z EL own k vm0 h) (hlk : meth.locks = false) {ty : FieldType} (hret : meth.sig.returnType = some ty) (ht : ty.isReference = true) {v : Value} (hv : v.isRef = true) (hd : decode c.code pc = .ok (.areturn, 1))
    (K : ∀ t, Steps p.tables e below (T.setTop (mkF m pc Ls (v :: rest))) t → Steps p.tables e below B0 t) (hC : cells ≤ C) (hD : slots ≤ D) (hQ : Q (some v) T.heap locs) : FinH p e below B0 s Z EL C D Q := by
  obtain ⟨fs, hr, hrun, hended, hW, hsame⟩ := X.leave (v := some v) (fun h => by rw [hret] at h; cases h) hlk
  obtain ⟨r1, r2⟩ := endW X hEL eT W (v := some v) hW hsame hC hD
  exact ⟨_, _, K _ (retOut X hx hret (narrow_ref ht hv) (Or.inr (Or.inr (Or.inr (Or.inr ⟨rfl, ht, hv⟩)))) hd hr), hrun, hended, _, _, rfl, hQ, r1, r2⟩
theorem finHV (X : Stand p l e R (s.setVm vm0) m args below meth c T locs cells slots) (hx : p.tables.exec = Jvm.exec) (hEL : EW Z a0 EL) (eT : T.heap = h) (W : Wd s Z EL own k vm0 h) (hlk : meth.locks = false) (hret : meth.sig.returnType = none) (hd : decode c.code pc = .ok (.return_, 1))
    (K : ∀ t, Steps p.tables e below (T.setTop (mkF m pc Ls ([]))) t → Steps p.tables e below B0 t) (hC : cells ≤ C) (hD : slots ≤ D) (hQ : Q (none) T.heap locs) : FinH p e below B0 s Z EL C D Q := by
  obtain ⟨fs, hr, hrun, hended, hW, hsame⟩ := X.leave (v := none) (fun _ => rfl) hlk
  obtain ⟨r1, r2⟩ := endW X hEL eT W (v := none) hW hsame hC hD
  exact ⟨_, _, K _ (X.returnOut hx hret hd hr), hrun, hended, _, _, rfl, hQ, r1, r2⟩
end WEnds
section WCalls
variable {p : Program} {l : Launch} {e : Env} {R : Room} {s : State} {m : MethodId} {args : Array Value} {below : List Frame} {meth : Method} {c : Code} {T : State} {locs : List Loc} {cells slots : Nat} {pc : Nat} {Ls : Array Slot} {Z : State} {a0 : Array Value} {h : Heap} {vm0 : Vm} {EL : List (String × Nat)} {own : String}
theorem Wd.back {vm1 : Vm} {n1 : Nat} {h' : Heap} {k : ClassId} (W : Wd s Z EL own k vm0 h) (hS : (s.setVm vm0).Since vm1 h'.size) (hg : h.size ≤ h'.size) (A : CHr Z EL vm0 h vm1 h') : Wd s Z EL own k vm1 h' := by
  obtain ⟨⟨n, d1, d2⟩, d3, d4, d5⟩ := W
  exact ⟨⟨h'.size, d1.trans hS (Nat.le_trans d2 hg), Nat.le_refl _⟩, State.Warmed39.trans (t := s.setVm vm0) d3 hS.1, (hS.1.alike.findClass _ _).trans d4, d5.trans A⟩
theorem callHW (X : Stand p l e R (s.setVm vm0) m args below meth c T locs cells slots) (hx : p.tables.exec = Jvm.exec) (hEL : EW Z a0 EL) (Wd0 : Wd s Z EL own m.cls vm0 h) (eT : T.heap = h) {index : Nat} {y : MethodName} {bytes : ByteArray} {maxL : Nat} {ret : Option FieldType} {rm : Room} {Q : Option Value → Heap → List Loc → Prop}
    (argsL rest : List Value) (hM : ConH l Z EL y bytes maxL ret rm argsL.toArray h Q) (w1 : (Cond.methodLink own index y).before a0 Z = true) (w2 : (Cond.static y).before a0 Z = true) (w3 : (Cond.initialized y.cls).before a0 Z = true) (w4 : (Cond.code y bytes maxL ret).before a0 Z = true)
    (hy : y.cls ≠ "java/lang/invoke/MethodHandle" ∧ y.cls ≠ "java/lang/invoke/VarHandle") (W : Nat) (hf : rm.frames + 1 ≤ R.frames) (hl : W + (maxL + 11) + rm.locals ≤ R.locals) (hcR : cells + rm.cells ≤ R.cells) (hsR : slots + rm.slots ≤ R.slots) (hsz : Ls.size = c.maxLocals)
    {S : List Value} (hlen : ∀ sig, parseMethodDescriptor y.desc = some sig → argsL.length = sig.parameters.length) (hS : S = argsL.reverse ++ rest) (hW : (rest.map fun v => v.category).sum ≤ W) (hd : decode c.code pc = .ok (.invokestatic index, 3)) :
    ∃ (vm1 : Vm) (T' : State) (h' : Heap) (v : Option Value) (L M : List Loc), Stand p l e R (s.setVm vm1) m args below meth c T' M (cells + rm.cells) (slots + rm.slots) ∧ T'.heap = h' ∧ Wd s Z EL own m.cls vm1 h' ∧ h.size ≤ h'.size ∧ (∀ n0, Fr n0 locs → Fr n0 L → Fr n0 M) ∧ Q v h' L ∧ ∀ t, Steps p.tables e below (T'.setTop (mkF m (pc + 3) Ls (v.toList ++ rest))) t → Steps p.tables e below (T.setTop (mkF m pc Ls S)) t := by
  subst eT
  obtain ⟨v, _, ⟨T', L', k', n'⟩, -, X', hS', hg, ⟨L, hQ, l', y', z', hC⟩, st⟩ := callSS X hx (y := y) Wd0.hown (mvT Wd0.hZ w1) (mvT Wd0.hZ w2) (mvT Wd0.hZ w3) (mvT Wd0.hZ w4) hy (backOfSH (W := W) (hM []) Wd0.2.1 w4 w3 hf hl hEL Wd0.H) (g := mkF m pc Ls S) rfl hsz (argsL := argsL) (rest := rest) hlen hS (by show 2 * 0 + _ ≤ _; rw [Nat.mul_zero, Nat.zero_add]; exact hW) hd (fun _ _ => ⟨rfl, rfl, hcR, hsR⟩)
  dsimp only [Pt.U, Pt.locs, Pt.cells, Pt.slots] at X' l' y' z' st hQ hS' hg hC
  subst l' y' z'
  exact ⟨T'.vm, T', _, v, L, _, X', rfl, Wd.back (n1 := 0) Wd0 hS' hg hC, hg, fun n0 A B => Fr.app A B, hQ, fun t k => st.trans k⟩
theorem callIW (X : Stand p l e R (s.setVm vm0) m args below meth c T locs cells slots) (hx : p.tables.exec = Jvm.exec) (hEL : EW Z a0 EL) (Wd0 : Wd s Z EL own m.cls vm0 h) (eT : T.heap = h) {index : Nat} {y : MethodName} {bytes : ByteArray} {maxL : Nat} {rm : Room} {Q : Option Value → Heap → List Loc → Prop} (hy1 : y.name = "<init>")
    (a : Addr) (argsL rest : List Value) (hM : ConH l Z EL y bytes maxL none rm (Value.ref a :: argsL).toArray h Q) (w1 : (Cond.methodLink own index y).before a0 Z = true) (w2 : (Cond.instanceMethod y).before a0 Z = true) (w3 : (Cond.initialized y.cls).before a0 Z = true) (w4 : (Cond.code y bytes maxL none).before a0 Z = true)
    (hy : y.cls ≠ "java/lang/invoke/MethodHandle" ∧ y.cls ≠ "java/lang/invoke/VarHandle") (W : Nat) (hf : rm.frames + 1 ≤ R.frames) (hl : W + (maxL + 11) + rm.locals ≤ R.locals) (hcR : cells + rm.cells ≤ R.cells) (hsR : slots + rm.slots ≤ R.slots) (hsz : Ls.size = c.maxLocals)
    {S : List Value} (hlen : ∀ sig, parseMethodDescriptor y.desc = some sig → argsL.length = sig.parameters.length) (hS : S = argsL.reverse ++ .ref a :: rest) (hW : (rest.map fun v => v.category).sum ≤ W) (hd : decode c.code pc = .ok (.invokespecial index, 3)) :
    ∃ (vm1 : Vm) (T' : State) (h' : Heap) (v : Option Value) (L M : List Loc), Stand p l e R (s.setVm vm1) m args below meth c T' M (cells + rm.cells) (slots + rm.slots) ∧ T'.heap = h' ∧ Wd s Z EL own m.cls vm1 h' ∧ h.size ≤ h'.size ∧ (∀ n0, Fr n0 locs → Fr n0 L → Fr n0 M) ∧ Q v h' L ∧ ∀ t, Steps p.tables e below (T'.setTop (mkF m (pc + 3) Ls (v.toList ++ rest))) t → Steps p.tables e below (T.setTop (mkF m pc Ls S)) t := by
  subst eT
  obtain ⟨v, _, ⟨T', L', k', n'⟩, -, X', hS', hg, ⟨L, hQ, l', y', z', hC⟩, st⟩ := X.specialBackS hx (y := y) hy1 Wd0.hown (mvT Wd0.hZ w1) (mvT Wd0.hZ w2) (mvT Wd0.hZ w4) hy (backOfSH (W := W) (hM []) Wd0.2.1 w4 w3 hf hl hEL Wd0.H) (g := mkF m pc Ls S) rfl hsz (Steps.refl _) (a := a) (argsL := argsL) (rest := rest) hlen hS (by show 2 * 0 + _ ≤ _; rw [Nat.mul_zero, Nat.zero_add]; exact hW) hd (fun _ _ => ⟨rfl, rfl, hcR, hsR⟩)
  dsimp only [Pt.U, Pt.locs, Pt.cells, Pt.slots] at X' l' y' z' st hQ hS' hg hC
  subst l' y' z'
  exact ⟨T'.vm, T', _, v, L, _, X', rfl, Wd.back (n1 := 0) Wd0 hS' hg hC, hg, fun n0 A B => Fr.app A B, hQ, fun t k => st.trans k⟩
theorem ldcT (X : Stand p l e R (s.setVm vm0) m args below meth c T locs cells slots) (hx : p.tables.exec = Jvm.exec) (hEL : EW Z a0 EL) (Wd0 : Wd s Z EL own m.cls vm0 h) (eT : T.heap = h) {index : Nat} (text : String) (w : (Cond.stringLink own index text).before a0 Z = true) (wS : ∀ a ∈ Bundle.stringAtoms, a.before a0 Z = true) (hmem : (own, index) ∈ EL)
    (cs : List Int32) (ht : ∀ c ∈ text.toList, c.toNat < 256) (hcs : text.toList.map (fun c => Value.int (Jvm.Lit.byteI c.toNat.toUInt16)) = (cs.map fun c => c.toInt8.toInt32).map Value.int) (n : Nat) (hn : 4 * text.toList.length ≤ n) (hbig : n ≤ 536870912) (hlen : cs.length < 2 ^ 31) (hc : cells + 2 ≤ R.cells) (hl : slots + (n + 4) ≤ R.slots) {S : List Value} (hd : decode c.code pc = .ok (.ldc index, 2)) :
    ∃ (vm1 : Vm) (T' : State) (h' : Heap) (a b : Addr) (k : ClassId), Stand p l e R (s.setVm vm1) m args below meth c T' locs (cells + 2) (slots + (n + 4)) ∧ T'.heap = h' ∧ Ext h h' ∧ Wd s Z EL own m.cls vm1 h' ∧ (∀ x, x < h.size → Safe Z EL vm0 h x → Safe Z EL vm1 h' x) ∧ Exa Z h' a "java/lang/String" ∧ Fld Z h' a "java/lang/String" "value" "[B" (.ref b) ∧ Fld Z h' a "java/lang/String" "coder" "B" (.int 0) ∧ Arv Z h' b k .byte (Int32.ofNat cs.length) ((cs.map fun c => c.toInt8.toInt32).map Value.int) (.int 0) ∧ (∀ x, Safe Z EL vm1 h' x → x ≠ a ∧ x ≠ b) ∧
      ∀ t, Steps p.tables e below (T'.setTop (mkF m (pc + 2) Ls (.ref a :: S))) t → Steps p.tables e below (T.setTop (mkF m pc Ls S)) t := by
  obtain ⟨⟨k0, d1, d2⟩, d3, d4, d5⟩ := Wd0
  obtain ⟨a, T', h', k1, b, k, X', e', E, hS, hk, hW, hf, r1, r2, r3, r4, -, -, hC, -, hne, st⟩ := ldcCH X hx d3 d4 w wS eT d1 d2 hEL hmem d5.1 (vs := (cs.map fun c => c.toInt8.toInt32).map Value.int) (z := Int32.ofNat cs.length) ⟨ht, hcs⟩ (Int32.ofNat_not_neg hlen) (by rw [ofNat_clamp hlen]; simp) (g := mkF m pc Ls S) rfl hd hn hbig hc hl
  exact ⟨T'.vm, T', h', a, b, k, X', e', E, ⟨⟨k1, hS, hk⟩, hW, hf, d5.trans hC⟩, fun x q r => hC.safe q r, r1, r3, r2, r4, hne, st⟩
end WCalls
end Jvm.Own
/- laws to paste: Road.backV (cut by pick.py; bodies as the Statement names them) -/
namespace Jvm.Pilot.@@N@@
namespace StrChars
open Jvm Sem ClassFile Op Lib Jvm.Stand Jvm.Free.XT Jvm.Free.ALB Jvm.Free.JM Jvm.Free
open Jvm.Lib.Cold (StaticIs)
/-- a char array whose places are chars -/
def Ch (a : Addr) (A : Cell) (U : State) : Prop := Arr .char a A U ∧ Typed .char A
theorem Ch.mv {a : Addr} {A : Cell} {U U' : State} (h : Ch a A U) (hal : U.vm.Alike U'.vm) (hh : U'.heap = U.heap) : Ch a A U' := ⟨h.1.mv hal hh, h.2⟩
theorem Ch.keep {a : Addr} {A : Cell} {U U' : State} (h : Ch a A U) (hal : U.vm.Alike U'.vm) (hk : U'.heap[a]? = some A) : Ch a A U' := ⟨h.1.keep hal hk, h.2⟩
/-- what place i of a char[]'s cell holds -/
def cv (A : Cell) (i : Nat) : Int32 := match A.slots[i]? with | some (.int x) => x | _ => 0
theorem Ch.get {a : Addr} {A : Cell} {U : State} (h : Ch a A U) {i : Nat} (hi : i < A.slots.size) : A.slots[i]? = some (.int (cv A i)) := by
  have e := Array.getElem?_eq_getElem hi
  have f := h.2 i _ e
  unfold cv; rw [e]
  generalize A.slots[i] = v at f
  cases v <;> simp [fits] at f ⊢
/-- the byte that i2b leaves of a char -/
def lo8 (x : Int32) : Int32 := x.toInt8.toInt32
theorem fits_lo8 (y : Int32) : fits .byte (.int (lo8 y)) = true := by
  have h1 := y.toInt8.le_toInt
  have h2 := y.toInt8.toInt_lt
  simp only [lo8, fits, Bool.and_eq_true, decide_eq_true_eq, Int32.le_iff_toInt_le, Int8.toInt_toInt32, show (-128 : Int32).toInt = -128 from by decide, show (127 : Int32).toInt = 127 from by decide]
  omega
/-- A' is A but that each place j of lo .. hi - 1 holds f j -/
def Laid (A A' : Cell) (lo hi : Nat) (f : Nat → Value) : Prop := A'.cls = A.cls ∧ A'.vm = A.vm ∧ A'.slots.size = A.slots.size ∧ ∀ i, A'.slots[i]? = if lo ≤ i ∧ i < hi then some (f i) else A.slots[i]?
theorem Laid.zero (A : Cell) (lo : Nat) (f : Nat → Value) : Laid A A lo (lo + 0) f := ⟨rfl, rfl, rfl, fun i => by rw [if_neg (by omega)]⟩
theorem Laid.step {A Ak : Cell} {lo k : Nat} {f : Nat → Value} {v : Value} (h : Laid A Ak lo k f) (hlo : lo ≤ k) (hk : k < Ak.slots.size) (hv : v = f k) : Laid A (Ak.setSlot k v) lo (k + 1) f := by
  refine ⟨h.1, h.2.1, by simpa [Cell.setSlot] using h.2.2.1, fun i => ?_⟩
  by_cases e : k = i
  · subst e; rw [Cell.slots_setSlot_self v hk, if_pos (by omega), hv]
  · rw [Cell.slots_setSlot_ne v e, h.2.2.2 i]
    by_cases q : lo ≤ i ∧ i < k
    · rw [if_pos q, if_pos (by omega)]
    · rw [if_neg q, if_neg (by omega)]
def U16 : String := "java/lang/StringUTF16"
namespace Cmp5
def yN : MethodName := ⟨"java/lang/StringUTF16", "compress", "([CI[BII)I"⟩
abbrev yB : ByteArray := jdk_52_method_21_code
theorem d0 : decode yB 0 = .ok (.iconst 0, 1) := by decide +kernel
theorem d1 : decode yB 1 = .ok (.istore 5, 2) := by decide +kernel
theorem d3 : decode yB 3 = .ok (.iload 5, 2) := by decide +kernel
theorem d5 : decode yB 5 = .ok (.iload 4, 2) := by decide +kernel
theorem d7 : decode yB 7 = .ok (.if_icmp (.ge) 37, 3) := by decide +kernel
theorem d10 : decode yB 10 = .ok (.aload_n 0, 1) := by decide +kernel
theorem d11 : decode yB 11 = .ok (.iload_n 1, 1) := by decide +kernel
theorem d12 : decode yB 12 = .ok (.caload, 1) := by decide +kernel
theorem d13 : decode yB 13 = .ok (.istore 6, 2) := by decide +kernel
theorem d15 : decode yB 15 = .ok (.iload 6, 2) := by decide +kernel
theorem d17 : decode yB 17 = .ok (.sipush 255, 3) := by decide +kernel
theorem d20 : decode yB 20 = .ok (.if_icmp (.le) 6, 3) := by decide +kernel
theorem d26 : decode yB 26 = .ok (.aload_n 2, 1) := by decide +kernel
theorem d27 : decode yB 27 = .ok (.iload_n 3, 1) := by decide +kernel
theorem d28 : decode yB 28 = .ok (.iload 6, 2) := by decide +kernel
theorem d30 : decode yB 30 = .ok (.i2b, 1) := by decide +kernel
theorem d31 : decode yB 31 = .ok (.bastore, 1) := by decide +kernel
theorem d32 : decode yB 32 = .ok (.iinc 1 1, 3) := by decide +kernel
theorem d35 : decode yB 35 = .ok (.iinc 3 1, 3) := by decide +kernel
theorem d38 : decode yB 38 = .ok (.iinc 5 1, 3) := by decide +kernel
theorem d41 : decode yB 41 = .ok (.goto (-38), 3) := by decide +kernel
theorem d44 : decode yB 44 = .ok (.iload 4, 2) := by decide +kernel
theorem d46 : decode yB 46 = .ok (.ireturn, 1) := by decide +kernel
def site : List Cond := []
def tab : Cond := tabOf yN yB 7 (some .int) site
def P (b : Addr) (A : Cell) (d : Addr) (B : Cell) (o q len : Nat) (args : Array Value) (s : State) : Prop := args = #[.ref b, .int (Int32.ofNat o), .ref d, .int (Int32.ofNat q), .int (Int32.ofNat len)] ∧ Ch b A s ∧ Arr .byte d B s ∧ b ≠ d ∧ o + len ≤ A.slots.size ∧ q + len ≤ B.slots.size ∧ ∀ i, i < len → ¬ 255 < cv A (o + i)
def E (b : Addr) (A : Cell) (d : Addr) (B : Cell) (o q len : Nat) (r : Option Value) (s u : State) : Prop := r = some (.int (Int32.ofNat len)) ∧ ∃ B', Put d B' s u ∧ Laid B B' q (q + len) (fun j => Value.int (lo8 (cv A (o + (j - q)))))
/-- no char of the range above 255: len; the places written hold each char's low byte -/
theorem law (l : Launch) (b : Addr) (A : Cell) (d : Addr) (B : Cell) (o q len : Nat) : Law l yN 5 5 0 0 yB 7 (some .int) site (P b A d B o q len) (E b A d B o q len) (copyLocs d q len) 0 0 := by
  refine Law.of_walk (plainFor_of_name (by decide +kernel)) (by decide +kernel) (by decide +kernel) (by decide) (fun _ _ h => by rw [h.1]; rfl) (fun _ U U' hal hh h => ⟨h.1, h.2.1.mv hal hh, h.2.2.1.mv hal hh, h.2.2.2⟩) (fun r U U' V V' h1 hal h2 h => ⟨h.1, h.2.elim fun B' q => ⟨B', q.1.mv h1 h2, q.2⟩⟩) ?_
  intro p e s m args below meth c s₁ X0 hexec hbytes hml hret hlk hnm hown hh0 W hP
  obtain ⟨rfl, hA, hB, hne, l1, l2, hp⟩ := hP
  have c1 : Steps p.tables e below (s₁.setTop (entryFrame m #[.ref b, .int (Int32.ofNat o), .ref d, .int (Int32.ofNat q), .int (Int32.ofNat len)] 7)) (s₁.setTop (mkF m 0 #[.val (.ref b), .val (.int (Int32.ofNat o)), .val (.ref d), .val (.int (Int32.ofNat q)), .val (.int (Int32.ofNat len)), .unset, .unset] [])) := entry rfl
  have hA0 := hA.1.mv X0.warmed.alike hh0
  have hB0 := hB.mv X0.warmed.alike hh0
  have a31 := hA.1.2.2.2
  have c2 : Steps p.tables e below (s₁.setTop (entryFrame m #[.ref b, .int (Int32.ofNat o), .ref d, .int (Int32.ofNat q), .int (Int32.ofNat len)] 7)) (s₁.setTop (mkF m 3 #[.val (.ref b), .val (.int (Int32.ofNat o)), .val (.ref d), .val (.int (Int32.ofNat q)), .val (.int (Int32.ofNat len)), .val (.int 0), .unset] [])) := c1.trans (by
    refine iconstV X0.here hexec rfl 0 (hb hbytes d0) (by decide) ?_
    refine XS.istore X0.here hexec rfl (hb hbytes d1) rfl rfl ?_
    exact Steps.refl _)
  have loop : ∀ (r i : Nat), i + r = len → ∀ (z : Slot), (z = .unset ∨ ∃ w, z = .val w ∧ w.category = 1) → ∀ (Tl : State) (Bk : Cell), Stand p l e { frames := 0, locals := 0, cells := 0, slots := 0 } s m #[.ref b, .int (Int32.ofNat o), .ref d, .int (Int32.ofNat q), .int (Int32.ofNat len)] below meth c Tl ([] ++ copyLocs d q i) 0 0 → Put d Bk s₁ Tl → Laid B Bk q (q + i) (fun j => Value.int (lo8 (cv A (o + (j - q))))) →
      Steps p.tables e below (s₁.setTop (entryFrame m #[.ref b, .int (Int32.ofNat o), .ref d, .int (Int32.ofNat q), .int (Int32.ofNat len)] 7)) (Tl.setTop (mkF m 3 #[.val (.ref b), .val (.int (Int32.ofNat (o + i))), .val (.ref d), .val (.int (Int32.ofNat (q + i))), .val (.int (Int32.ofNat len)), .val (.int (Int32.ofNat i)), z] [])) → ∃ (T' : State) (B' : Cell) (z' : Slot), Stand p l e { frames := 0, locals := 0, cells := 0, slots := 0 } s m #[.ref b, .int (Int32.ofNat o), .ref d, .int (Int32.ofNat q), .int (Int32.ofNat len)] below meth c T' ([] ++ copyLocs d q len) 0 0 ∧ Put d B' s₁ T' ∧ Laid B B' q (q + len) (fun j => Value.int (lo8 (cv A (o + (j - q))))) ∧
      Steps p.tables e below (s₁.setTop (entryFrame m #[.ref b, .int (Int32.ofNat o), .ref d, .int (Int32.ofNat q), .int (Int32.ofNat len)] 7)) (T'.setTop (mkF m 3 #[.val (.ref b), .val (.int (Int32.ofNat (o + len))), .val (.ref d), .val (.int (Int32.ofNat (q + len))), .val (.int (Int32.ofNat len)), .val (.int (Int32.ofNat len)), z'] [])) := by
    intro r
    induction r with
    | zero =>
      intro i hi z hz Tl Bk Xl pl fl cl
      have hil : i = len := by omega
      rw [hil] at Xl fl cl
      exact ⟨Tl, Bk, z, Xl, pl, fl, cl⟩
    | succ r ih =>
      intro i hi z hz Tl Bk Xl pl fl cl
      have all := X0.warmed.alike.symm.trans Xl.warmed.alike
      have hAl := hA0.keep all (pl.other hne hA0.1)
      have hBk := hB0.like all pl.1 fl.1 fl.2.1 fl.2.2.1
      have hlt : q + i < Bk.slots.size := by rw [fl.2.2.1]; omega
      have c3 : Steps p.tables e below (s₁.setTop (entryFrame m #[.ref b, .int (Int32.ofNat o), .ref d, .int (Int32.ofNat q), .int (Int32.ofNat len)] 7)) (Tl.setTop (mkF m 12 #[.val (.ref b), .val (.int (Int32.ofNat (o + i))), .val (.ref d), .val (.int (Int32.ofNat (q + i))), .val (.int (Int32.ofNat len)), .val (.int (Int32.ofNat i)), z] [.int (Int32.ofNat (o + i)), .ref b])) := cl.trans (by
        refine XS.iload Xl.here hexec rfl (hb hbytes d3) rfl ?_
        refine XS.iload Xl.here hexec rfl (hb hbytes d5) rfl ?_
        refine XS.icmpNo Xl.here hexec rfl (hb hbytes d7) rfl (ii_ge_f (lt32 (by omega) (by omega))) ?_
        refine XS.aloadN Xl.here hexec rfl (hb hbytes d10) rfl rfl ?_
        refine XS.iloadN Xl.here hexec rfl (hb hbytes d11) rfl ?_
        exact Steps.refl _)
      have c4 : Steps p.tables e below (s₁.setTop (entryFrame m #[.ref b, .int (Int32.ofNat o), .ref d, .int (Int32.ofNat q), .int (Int32.ofNat len)] 7)) (Tl.setTop (mkF m 13 #[.val (.ref b), .val (.int (Int32.ofNat (o + i))), .val (.ref d), .val (.int (Int32.ofNat (q + i))), .val (.int (Int32.ofNat len)), .val (.int (Int32.ofNat i)), z] [.int (cv A (o + i))])) := c3.trans (by
        refine Xl.aget hexec hAl rfl (hA.get (i := o + i) (by omega)) rfl rfl (hb hbytes d12) ?_
        exact Steps.refl _)
      have c5 : Steps p.tables e below (s₁.setTop (entryFrame m #[.ref b, .int (Int32.ofNat o), .ref d, .int (Int32.ofNat q), .int (Int32.ofNat len)] 7)) (Tl.setTop (mkF m 15 #[.val (.ref b), .val (.int (Int32.ofNat (o + i))), .val (.ref d), .val (.int (Int32.ofNat (q + i))), .val (.int (Int32.ofNat len)), .val (.int (Int32.ofNat i)), .val (.int (cv A (o + i)))] [])) := c4.trans (by
        refine XS.istoreS Xl.here hexec rfl (hb hbytes d13) rfl rfl hz ?_
        exact Steps.refl _)
      have c6 : Steps p.tables e below (s₁.setTop (entryFrame m #[.ref b, .int (Int32.ofNat o), .ref d, .int (Int32.ofNat q), .int (Int32.ofNat len)] 7)) (Tl.setTop (mkF m 31 #[.val (.ref b), .val (.int (Int32.ofNat (o + i))), .val (.ref d), .val (.int (Int32.ofNat (q + i))), .val (.int (Int32.ofNat len)), .val (.int (Int32.ofNat i)), .val (.int (cv A (o + i)))] [.int (lo8 (cv A (o + i))), .int (Int32.ofNat (q + i)), .ref d])) := c5.trans (by
        refine XS.iload Xl.here hexec rfl (hb hbytes d15) rfl ?_
        refine sipushV Xl.here hexec rfl 255 (hb hbytes d17) (by decide) ?_
        refine XS.icmpYes Xl.here hexec rfl (pc0 := 20) rfl (hb hbytes d20) rfl (ii_le_t (hp i (by omega))) (by decide) rfl ?_
        refine XS.aloadN Xl.here hexec rfl (hb hbytes d26) rfl rfl ?_
        refine XS.iloadN Xl.here hexec rfl (hb hbytes d27) rfl ?_
        refine XS.iload Xl.here hexec rfl (hb hbytes d28) rfl ?_
        refine i2b Xl.here hexec rfl (hb hbytes d30) rfl ?_
        exact Steps.refl _)
      obtain ⟨T7, X7, p7, st7⟩ := Xl.aput hexec hBk rfl hlt rfl (fits_lo8 (cv A (o + i))) (g := (mkF m 31 #[.val (.ref b), .val (.int (Int32.ofNat (o + i))), .val (.ref d), .val (.int (Int32.ofNat (q + i))), .val (.int (Int32.ofNat len)), .val (.int (Int32.ofNat i)), .val (.int (cv A (o + i)))] [.int (lo8 (cv A (o + i))), .int (Int32.ofNat (q + i)), .ref d])) rfl (rest := []) rfl (hb hbytes d31)
      have c8 : Steps p.tables e below (s₁.setTop (entryFrame m #[.ref b, .int (Int32.ofNat o), .ref d, .int (Int32.ofNat q), .int (Int32.ofNat len)] 7)) (T7.setTop (mkF m 32 #[.val (.ref b), .val (.int (Int32.ofNat (o + i))), .val (.ref d), .val (.int (Int32.ofNat (q + i))), .val (.int (Int32.ofNat len)), .val (.int (Int32.ofNat i)), .val (.int (cv A (o + i)))] [])) := c6.trans (st7 _ (Steps.refl _))
      have c9 : Steps p.tables e below (s₁.setTop (entryFrame m #[.ref b, .int (Int32.ofNat o), .ref d, .int (Int32.ofNat q), .int (Int32.ofNat len)] 7)) (T7.setTop (mkF m 3 #[.val (.ref b), .val (.int (Int32.ofNat (o + i) + 1)), .val (.ref d), .val (.int (Int32.ofNat (q + i) + 1)), .val (.int (Int32.ofNat len)), .val (.int (Int32.ofNat i + 1)), .val (.int (cv A (o + i)))] [])) := c8.trans (by
        refine iincV X7.here hexec rfl 1 (hb hbytes d32) (by decide) rfl rfl ?_
        refine iincV X7.here hexec rfl 1 (hb hbytes d35) (by decide) rfl rfl ?_
        refine iincV X7.here hexec rfl 1 (hb hbytes d38) (by decide) rfl rfl ?_
        refine XS.goto X7.here hexec rfl (pc0 := 41) rfl (hb hbytes d41) (by decide) rfl ?_
        exact Steps.refl _)
      have c10 : Steps p.tables e below (s₁.setTop (entryFrame m #[.ref b, .int (Int32.ofNat o), .ref d, .int (Int32.ofNat q), .int (Int32.ofNat len)] 7)) (T7.setTop (mkF m 3 #[.val (.ref b), .val (.int (Int32.ofNat (o + (i + 1)))), .val (.ref d), .val (.int (Int32.ofNat (q + (i + 1)))), .val (.int (Int32.ofNat len)), .val (.int (Int32.ofNat (i + 1))), .val (.int (cv A (o + i)))] [])) := by
        have := c9
        rw [succ32, succ32, succ32] at this
        exact this
      exact ih (i + 1) (by omega) _ (Or.inr ⟨_, rfl, rfl⟩) T7 _ (by rw [copyLocs_step, ← List.append_assoc]; exact X7) (pl.trans p7) (fl.step (by omega) hlt (by simp)) c10
  obtain ⟨T9, B9, z9, X9, p9, f9, g9⟩ := loop len 0 (by omega) .unset (Or.inl rfl) s₁ B (by simpa [copyLocs] using X0) ⟨hB0.1, fun _ _ => rfl, rfl⟩ (Laid.zero _ _ _) c2
  have c11 : Steps p.tables e below (s₁.setTop (entryFrame m #[.ref b, .int (Int32.ofNat o), .ref d, .int (Int32.ofNat q), .int (Int32.ofNat len)] 7)) (T9.setTop (mkF m 46 #[.val (.ref b), .val (.int (Int32.ofNat (o + len))), .val (.ref d), .val (.int (Int32.ofNat (q + len))), .val (.int (Int32.ofNat len)), .val (.int (Int32.ofNat len)), z9] [.int (Int32.ofNat len)])) := g9.trans (by
    refine XS.iload X9.here hexec rfl (hb hbytes d3) rfl ?_
    refine XS.iload X9.here hexec rfl (hb hbytes d5) rfl ?_
    refine XS.icmpYes X9.here hexec rfl (pc0 := 7) rfl (hb hbytes d7) rfl (ii_ge_t (nlt32 (by omega) (Nat.le_refl _))) (by decide) rfl ?_
    refine XS.iload X9.here hexec rfl (hb hbytes d44) rfl ?_
    exact Steps.refl _)
  exact ⟨T9, some (.int (Int32.ofNat len)), _, _, _, X9, by simp, rfl, rfl, (fun h => by cases h), ⟨rfl, B9, p9.from hh0, f9⟩, fun fs hl => c11.trans (X9.ireturnOut hexec hret rfl (Or.inl rfl) (hb hbytes d46) hl)⟩
end Cmp5
namespace Cmp3
def yN : MethodName := ⟨"java/lang/StringUTF16", "compress", "([CII)[B"⟩
abbrev yB : ByteArray := jdk_52_method_16_code
theorem d0 : decode yB 0 = .ok (.iload_n 2, 1) := by decide +kernel
theorem d1 : decode yB 1 = .ok (.newarray .byte, 2) := by decide +kernel
theorem d3 : decode yB 3 = .ok (.astore_n 3, 1) := by decide +kernel
theorem d4 : decode yB 4 = .ok (.aload_n 0, 1) := by decide +kernel
theorem d5 : decode yB 5 = .ok (.iload_n 1, 1) := by decide +kernel
theorem d6 : decode yB 6 = .ok (.aload_n 3, 1) := by decide +kernel
theorem d7 : decode yB 7 = .ok (.iconst 0, 1) := by decide +kernel
theorem d8 : decode yB 8 = .ok (.iload_n 2, 1) := by decide +kernel
theorem d9 : decode yB 9 = .ok (.invokestatic 115, 3) := by decide +kernel
theorem d12 : decode yB 12 = .ok (.istore 4, 2) := by decide +kernel
theorem d14 : decode yB 14 = .ok (.iload 4, 2) := by decide +kernel
theorem d16 : decode yB 16 = .ok (.iload_n 2, 1) := by decide +kernel
theorem d17 : decode yB 17 = .ok (.if_icmp (.eq) 40, 3) := by decide +kernel
theorem d57 : decode yB 57 = .ok (.aload_n 3, 1) := by decide +kernel
theorem d58 : decode yB 58 = .ok (.areturn, 1) := by decide +kernel
def site : List Cond := [.arrayClass .byte, Cmp5.tab] ++ staticW U16 115 Cmp5.yN
def tab : Cond := tabOf yN yB 6 (some (.array .byte)) site
def P (b : Addr) (A : Cell) (o len : Nat) (args : Array Value) (s : State) : Prop := args = #[.ref b, .int (Int32.ofNat o), .int (Int32.ofNat len)] ∧ Ch b A s ∧ o + len ≤ A.slots.size ∧ len ≤ 536870912 ∧ ∀ i, i < len → ¬ 255 < cv A (o + i)
def E (b : Addr) (A : Cell) (o len : Nat) (r : Option Value) (s u : State) : Prop := NewArr .byte "[B" len (fun j => .int (lo8 (cv A (o + j)))) r s u ∧ u.heap.size = s.heap.size + 1
/-- no char of the range above 255: a new byte[] of their low bytes -/
theorem law (l : Launch) (b : Addr) (A : Cell) (o len : Nat) : Law l yN 3 3 1 18 yB 6 (some (.array .byte)) site (P b A o len) (E b A o len) [] 1 len := by
  refine Law.of_walk (plainFor_of_name (by decide +kernel)) (by decide +kernel) (by decide +kernel) (by decide) (fun _ _ h => by rw [h.1]; rfl) (fun _ U U' hal hh h => ⟨h.1, h.2.1.mv hal hh, h.2.2⟩) (fun r U U' V V' h1 hal h2 h => ⟨NewArr.mv r U U' V V' h1 hal h2 h.1, by rw [h1, h2]; exact h.2⟩) ?_
  intro p e s m args below meth c s₁ X0 hexec hbytes hml hret hlk hnm hown hh0 W hP
  obtain ⟨rfl, hA, l1, l2, hp⟩ := hP
  have a31 := hA.1.2.2.2
  have c1 : Steps p.tables e below (s₁.setTop (entryFrame m #[.ref b, .int (Int32.ofNat o), .int (Int32.ofNat len)] 6)) (s₁.setTop (mkF m 0 #[.val (.ref b), .val (.int (Int32.ofNat o)), .val (.int (Int32.ofNat len)), .unset, .unset, .unset] [])) := entry rfl
  have c2 : Steps p.tables e below (s₁.setTop (entryFrame m #[.ref b, .int (Int32.ofNat o), .int (Int32.ofNat len)] 6)) (s₁.setTop (mkF m 1 #[.val (.ref b), .val (.int (Int32.ofNat o)), .val (.int (Int32.ofNat len)), .unset, .unset, .unset] [.int (Int32.ofNat len)])) := c1.trans (by
    refine XS.iloadN X0.here hexec rfl (hb hbytes d0) rfl ?_
    exact Steps.refl _)
  obtain ⟨T3, B3, X3, ba3, bs3, bv3, bh3, bf3, st3⟩ := X0.anew hexec (atype := .byte) (wk W (.arrayClass .byte)) rfl (by show len * 1 ≤ _; omega) (by omega) (g := (mkF m 1 #[.val (.ref b), .val (.int (Int32.ofNat o)), .val (.int (Int32.ofNat len)), .unset, .unset, .unset] [.int (Int32.ofNat len)])) rfl (hb hbytes d1) (rest := []) rfl (Nat.le_refl _) (by show 0 + len ≤ len; omega)
  rw [hh0] at ba3 st3
  have kp3 : XT.Kept s T3 := (XT.Kept.of_eq hh0).push bh3
  have hA3 := hA.keep X3.warmed.alike (kp3 _ _ hA.1.1)
  have hne : b ≠ s.heap.size := hA.1.ne
  have c4 : Steps p.tables e below (s₁.setTop (entryFrame m #[.ref b, .int (Int32.ofNat o), .int (Int32.ofNat len)] 6)) (T3.setTop (mkF m 3 #[.val (.ref b), .val (.int (Int32.ofNat o)), .val (.int (Int32.ofNat len)), .unset, .unset, .unset] [.ref s.heap.size])) := c2.trans (st3 _ (Steps.refl _))
  have c5 : Steps p.tables e below (s₁.setTop (entryFrame m #[.ref b, .int (Int32.ofNat o), .int (Int32.ofNat len)] 6)) (T3.setTop (mkF m 9 #[.val (.ref b), .val (.int (Int32.ofNat o)), .val (.int (Int32.ofNat len)), .val (.ref s.heap.size), .unset, .unset] [.int (Int32.ofNat len), .int 0, .ref s.heap.size, .int (Int32.ofNat o), .ref b])) := c4.trans (by
    refine XS.astoreN X3.here hexec rfl (hb hbytes d3) rfl rfl rfl ?_
    refine XS.aloadN X3.here hexec rfl (hb hbytes d4) rfl rfl ?_
    refine XS.iloadN X3.here hexec rfl (hb hbytes d5) rfl ?_
    refine XS.aloadN X3.here hexec rfl (hb hbytes d6) rfl rfl ?_
    refine iconstV X3.here hexec rfl 0 (hb hbytes d7) (by decide) ?_
    refine XS.iloadN X3.here hexec rfl (hb hbytes d8) rfl ?_
    exact Steps.refl _)
  obtain ⟨v6, T6, X6, E6, g6⟩ := X3.callS hexec (Cmp5.law l b A s.heap.size B3 o 0 len) hown (wks W (staticW U16 115 Cmp5.yN)) (wk W Cmp5.tab) (W := 0) (Nat.le_of_ble_eq_true rfl) (Nat.le_of_ble_eq_true rfl) (Nat.le_refl _) (by show 0 + len + 0 ≤ len; omega) (g := (mkF m 9 #[.val (.ref b), .val (.int (Int32.ofNat o)), .val (.int (Int32.ofNat len)), .val (.ref s.heap.size), .unset, .unset] [.int (Int32.ofNat len), .int (Int32.ofNat 0), .ref s.heap.size, .int (Int32.ofNat o), .ref b])) rfl (by rw [hml]; rfl) c5 (argsL := [.ref b, .int (Int32.ofNat o), .ref s.heap.size, .int (Int32.ofNat 0), .int (Int32.ofNat len)]) (rest := []) rfl rfl (by show 2 * 0 + 0 ≤ _; decide) (hb hbytes d9) (⟨rfl, hA3, ba3, hne, l1, by rw [bs3]; simp, hp⟩)
  obtain ⟨rfl, B6, p6, f6⟩ := E6
  have c7 : Steps p.tables e below (s₁.setTop (entryFrame m #[.ref b, .int (Int32.ofNat o), .int (Int32.ofNat len)] 6)) (T6.setTop (mkF m 12 #[.val (.ref b), .val (.int (Int32.ofNat o)), .val (.int (Int32.ofNat len)), .val (.ref s.heap.size), .unset, .unset] [.int (Int32.ofNat len)])) := g6
  have c8 : Steps p.tables e below (s₁.setTop (entryFrame m #[.ref b, .int (Int32.ofNat o), .int (Int32.ofNat len)] 6)) (T6.setTop (mkF m 58 #[.val (.ref b), .val (.int (Int32.ofNat o)), .val (.int (Int32.ofNat len)), .val (.ref s.heap.size), .val (.int (Int32.ofNat len)), .unset] [.ref s.heap.size])) := c7.trans (by
    refine XS.istore X6.here hexec rfl (hb hbytes d12) rfl rfl ?_
    refine XS.iload X6.here hexec rfl (hb hbytes d14) rfl ?_
    refine XS.iloadN X6.here hexec rfl (hb hbytes d16) rfl ?_
    refine XS.icmpYes X6.here hexec rfl (pc0 := 17) rfl (hb hbytes d17) rfl (ii_eq_t rfl) (by decide) rfl ?_
    refine XS.aloadN X6.here hexec rfl (hb hbytes d57) rfl rfl ?_
    exact Steps.refl _)
  have X8 := X6.wide (L' := []) (cells' := 1) (slots' := len) (fun x hx hlt => by
    simp only [List.nil_append, copyLocs, List.mem_map, List.mem_range] at hx
    obtain ⟨i, -, rfl⟩ := hx
    exact absurd hlt (Nat.lt_irrefl _)) (Nat.le_refl _) (by omega)
  exact ⟨T6, some (.ref s.heap.size), _, _, _, X8, rfl, rfl, rfl, (fun h => by cases h), ⟨⟨rfl, B6, ba3.like (X3.warmed.alike.symm.trans X6.warmed.alike) p6.1 f6.1 f6.2.1 f6.2.2.1, f6.2.1.trans bv3, by rw [X6.warmed.alike.findClass, f6.1]; exact bf3, by rw [f6.2.2.1, bs3]; simp, fun j hj => by rw [f6.2.2.2 j, if_pos (by omega)]; rfl, kp3.put p6 (Nat.le_refl _)⟩, by rw [p6.2.2, bh3, hh0]; simp⟩, fun fs hl => c8.trans (X8.areturnOut hexec rfl hret rfl (hb hbytes d58) hl)⟩
end Cmp3
namespace CodL
def yN : MethodName := ⟨"java/lang/StringUTF16", "coderFromArrayLen", "([BI)B"⟩
abbrev yB : ByteArray := jdk_52_method_15_code
theorem d0 : decode yB 0 = .ok (.iload_n 1, 1) := by decide +kernel
theorem d1 : decode yB 1 = .ok (.aload_n 0, 1) := by decide +kernel
theorem d2 : decode yB 2 = .ok (.arraylength, 1) := by decide +kernel
theorem d3 : decode yB 3 = .ok (.isub, 1) := by decide +kernel
theorem d4 : decode yB 4 = .ok (.bipush 31, 2) := by decide +kernel
theorem d6 : decode yB 6 = .ok (.iushr, 1) := by decide +kernel
theorem d7 : decode yB 7 = .ok (.i2b, 1) := by decide +kernel
theorem d8 : decode yB 8 = .ok (.ireturn, 1) := by decide +kernel
def site : List Cond := []
def tab : Cond := tabOf yN yB 2 (some .byte) site
def P (d : Addr) (B : Cell) (args : Array Value) (s : State) : Prop := args = #[.ref d, .int (Int32.ofNat B.slots.size)] ∧ Arr .byte d B s
def E (r : Option Value) (s u : State) : Prop := XT.PureE (some (.int 0)) r s u
/-- an array as long as the number of chars: LATIN1 -/
theorem law (l : Launch) (d : Addr) (B : Cell) : Law l yN 2 2 0 0 yB 2 (some .byte) site (P d B) E [] 0 0 := by
  refine Law.of_walk (plainFor_of_name (by decide +kernel)) (by decide +kernel) (by decide +kernel) (by decide) (fun _ _ h => by rw [h.1]; rfl) (fun _ U U' hal hh h => ⟨h.1, h.2.mv hal hh⟩) (fun r U U' V V' h1 hal h2 h => XT.PureE.mv r U U' V V' h1 hal h2 h) ?_
  intro p e s m args below meth c s₁ X0 hexec hbytes hml hret hlk hnm hown hh0 W hP
  obtain ⟨rfl, hB⟩ := hP
  have hB0 := hB.mv X0.warmed.alike hh0
  have c1 : Steps p.tables e below (s₁.setTop (entryFrame m #[.ref d, .int (Int32.ofNat B.slots.size)] 2)) (s₁.setTop (mkF m 0 #[.val (.ref d), .val (.int (Int32.ofNat B.slots.size))] [])) := entry rfl
  have c2 : Steps p.tables e below (s₁.setTop (entryFrame m #[.ref d, .int (Int32.ofNat B.slots.size)] 2)) (s₁.setTop (mkF m 2 #[.val (.ref d), .val (.int (Int32.ofNat B.slots.size))] [.ref d, .int (Int32.ofNat B.slots.size)])) := c1.trans (by
    refine XS.iloadN X0.here hexec rfl (hb hbytes d0) rfl ?_
    refine XS.aloadN X0.here hexec rfl (hb hbytes d1) rfl rfl ?_
    exact Steps.refl _)
  have c3 : Steps p.tables e below (s₁.setTop (entryFrame m #[.ref d, .int (Int32.ofNat B.slots.size)] 2)) (s₁.setTop (mkF m 8 #[.val (.ref d), .val (.int (Int32.ofNat B.slots.size))] [.int (lo8 (ushr (Int32.ofNat B.slots.size - Int32.ofNat B.slots.size) 31))])) := c2.trans (by
    refine X0.alen hexec hB0 rfl rfl (hb hbytes d2) ?_
    refine XS.isub X0.here hexec rfl (hb hbytes d3) rfl ?_
    refine bipushV X0.here hexec rfl 31 (hb hbytes d4) (by decide) ?_
    refine iushr X0.here hexec rfl (hb hbytes d6) rfl ?_
    refine i2b X0.here hexec rfl (hb hbytes d7) rfl ?_
    exact Steps.refl _)
  have e0 : lo8 (ushr (Int32.ofNat B.slots.size - Int32.ofNat B.slots.size) 31) = 0 := by rw [Int32.sub_self]; decide
  rw [e0] at c3
  exact ⟨s₁, some (.int 0), _, _, _, X0, rfl, rfl, rfl, (fun h => by cases h), ⟨rfl, hh0⟩, fun fs hl => c3.trans (X0.ireturnOut hexec hret rfl (Or.inr (Or.inr (Or.inl rfl))) (hb hbytes d8) hl)⟩
end CodL
/-- the String at a is Latin-1 over a new byte[] (the heap's one new cell): the low bytes of the len chars of A from o on; every cell but a is kept -/
def Got (a : Addr) (D : Cell) (fV fC : Field) (A : Cell) (o len : Nat) (r : Option Value) (s u : State) : Prop := r = none ∧ ∃ D' V : Cell, Blank "java/lang/String" a D' u ∧ Same D D' [fV.slot, fC.slot] ∧ D'.slots[fV.slot]? = some (.ref s.heap.size) ∧ D'.slots[fC.slot]? = some (.int 0) ∧ Arr .byte s.heap.size V u ∧ V.vm = .none ∧ u.vm.findClass "[B" = some V.cls ∧ V.slots.size = len ∧ (∀ j, j < len → V.slots[j]? = some (.int (lo8 (cv A (o + j))))) ∧ (∀ (y : Addr) (c : Cell), y ≠ a → s.heap[y]? = some c → u.heap[y]? = some c) ∧ u.heap.size = s.heap.size + 1
theorem Got.mv {a : Addr} {D A : Cell} {fV fC : Field} {o len : Nat} : ∀ r (U U' V V' : State), U'.heap = U.heap → V.vm.Alike V'.vm → V'.heap = V.heap → Got a D fV fC A o len r U V → Got a D fV fC A o len r U' V' :=
  fun r U U' V V' h1 hal h2 ⟨e0, D', X, a1, a2, a3, a4, a5, a6, a7, a8, a9, a10, a11⟩ => ⟨e0, D', X, a1.mv hal h2, a2, by rw [h1]; exact a3, a4, by rw [h1]; exact a5.mv hal h2, a6, by rw [hal.findClass]; exact a7, a8, a9, by rw [h1, h2]; exact a10, by rw [h1, h2]; exact a11⟩
namespace New4
def yN : MethodName := ⟨"java/lang/String", "<init>", "([CIILjava/lang/Void;)V"⟩
abbrev yB : ByteArray := jdk_42_method_149_code
theorem d0 : decode yB 0 = .ok (.aload_n 0, 1) := by decide +kernel
theorem d1 : decode yB 1 = .ok (.invokespecial 1, 3) := by decide +kernel
theorem d4 : decode yB 4 = .ok (.iload_n 3, 1) := by decide +kernel
theorem d5 : decode yB 5 = .ok (.ifCond (.ne) 22, 3) := by decide +kernel
theorem d27 : decode yB 27 = .ok (.getstatic 38, 3) := by decide +kernel
theorem d30 : decode yB 30 = .ok (.ifCond (.eq) 28, 3) := by decide +kernel
theorem d33 : decode yB 33 = .ok (.aload_n 1, 1) := by decide +kernel
theorem d34 : decode yB 34 = .ok (.iload_n 2, 1) := by decide +kernel
theorem d35 : decode yB 35 = .ok (.iload_n 3, 1) := by decide +kernel
theorem d36 : decode yB 36 = .ok (.invokestatic 177, 3) := by decide +kernel
theorem d39 : decode yB 39 = .ok (.astore 5, 2) := by decide +kernel
theorem d41 : decode yB 41 = .ok (.aload_n 0, 1) := by decide +kernel
theorem d42 : decode yB 42 = .ok (.aload 5, 2) := by decide +kernel
theorem d44 : decode yB 44 = .ok (.iload_n 3, 1) := by decide +kernel
theorem d45 : decode yB 45 = .ok (.invokestatic 47, 3) := by decide +kernel
theorem d48 : decode yB 48 = .ok (.putfield 15, 3) := by decide +kernel
theorem d51 : decode yB 51 = .ok (.aload_n 0, 1) := by decide +kernel
theorem d52 : decode yB 52 = .ok (.aload 5, 2) := by decide +kernel
theorem d54 : decode yB 54 = .ok (.putfield 9, 3) := by decide +kernel
theorem d57 : decode yB 57 = .ok (.return_, 1) := by decide +kernel
def site : List Cond := [.fieldLink "java/lang/String" 38 "java/lang/String" "COMPACT_STRINGS" "Z", Cmp3.tab, CodL.tab, .laysFinal "java/lang/String" "java/lang/String" "value" "[B", .fieldLink "java/lang/String" 9 "java/lang/String" "value" "[B", .laysFinal "java/lang/String" "java/lang/String" "coder" "B", .fieldLink "java/lang/String" 15 "java/lang/String" "coder" "B"] ++ objW "java/lang/String" 1 ++ staticW "java/lang/String" 177 Cmp3.yN ++ staticW "java/lang/String" 47 CodL.yN
def tab : Cond := tabOf yN yB 6 none site
def P (a : Addr) (D : Cell) (fV fC : Field) (b : Addr) (A : Cell) (z : Int32) (o len : Nat) (args : Array Value) (s : State) : Prop := args = #[.ref a, .ref b, .int (Int32.ofNat o), .int (Int32.ofNat len), .null] ∧ Blank "java/lang/String" a D s ∧ Found "java/lang/String" "value" "[B" fV s ∧ Found "java/lang/String" "coder" "B" fC s ∧ Ch b A s ∧ StaticIs s "java/lang/String" "COMPACT_STRINGS" "Z" (.int z) ∧ ¬ z = 0 ∧ 0 < len ∧ o + len ≤ A.slots.size ∧ len ≤ 536870912 ∧ ∀ i, i < len → ¬ 255 < cv A (o + i)
def E (a : Addr) (D : Cell) (fV fC : Field) (A : Cell) (o len : Nat) (r : Option Value) (s u : State) : Prop := Got a D fV fC A o len r s u
/-- len > 0, no char of the range above 255: a Latin-1 String of their low bytes -/
theorem law (l : Launch) (a : Addr) (D : Cell) (fV fC : Field) (b : Addr) (A : Cell) (z : Int32) (o len : Nat) : Law l yN 5 4 2 35 yB 6 none site (P a D fV fC b A z o len) (E a D fV fC A o len) [⟨a, fC.slot⟩, ⟨a, fV.slot⟩] 1 len := by
  refine Law.of_walk (plainFor_of_name (by decide +kernel)) (by decide +kernel) (by decide +kernel) (by decide) (fun _ _ h => by rw [h.1]; rfl) (fun _ U U' hal hh h => ⟨h.1, h.2.1.mv hal hh, h.2.2.1.al hal, h.2.2.2.1.al hal, h.2.2.2.2.1.mv hal hh, h.2.2.2.2.2.1.there hal hh, h.2.2.2.2.2.2⟩) (fun r U U' V V' h1 hal h2 h => Got.mv r U U' V V' h1 hal h2 h) ?_
  intro p e s m args below meth c s₁ X0 hexec hbytes hml hret hlk hnm hown hh0 W hP
  obtain ⟨rfl, hB, f1, f2, hA, s1, hz, l0, l1, l2, hp⟩ := hP
  have a31 := hA.1.2.2.2
  have c1 : Steps p.tables e below (s₁.setTop (entryFrame m #[.ref a, .ref b, .int (Int32.ofNat o), .int (Int32.ofNat len), .null] 6)) (s₁.setTop (mkF m 0 #[.val (.ref a), .val (.ref b), .val (.int (Int32.ofNat o)), .val (.int (Int32.ofNat len)), .val .null, .unset] [])) := entry rfl
  have c2 : Steps p.tables e below (s₁.setTop (entryFrame m #[.ref a, .ref b, .int (Int32.ofNat o), .int (Int32.ofNat len), .null] 6)) (s₁.setTop (mkF m 1 #[.val (.ref a), .val (.ref b), .val (.int (Int32.ofNat o)), .val (.int (Int32.ofNat len)), .val .null, .unset] [.ref a])) := c1.trans (by
    refine XS.aloadN X0.here hexec rfl (hb hbytes d0) rfl rfl ?_
    exact Steps.refl _)
  obtain ⟨T3, X3, q3, st3⟩ := X0.oinit hexec hown (wks W (objW "java/lang/String" 1)) (g := (mkF m 1 #[.val (.ref a), .val (.ref b), .val (.int (Int32.ofNat o)), .val (.int (Int32.ofNat len)), .val .null, .unset] [.ref a])) rfl (by rw [hml]; rfl) (rest := []) rfl (hb hbytes d1) (W := 0) (by show 2 * 0 + 0 ≤ _; decide) (Nat.le_of_ble_eq_true rfl) (Nat.le_of_ble_eq_true rfl)
  have hh3 := q3.trans hh0
  have c4 : Steps p.tables e below (s₁.setTop (entryFrame m #[.ref a, .ref b, .int (Int32.ofNat o), .int (Int32.ofNat len), .null] 6)) (T3.setTop (mkF m 27 #[.val (.ref a), .val (.ref b), .val (.int (Int32.ofNat o)), .val (.int (Int32.ofNat len)), .val .null, .unset] [])) := (c2.trans (st3 _ (Steps.refl _))).trans (by
    refine XS.iloadN X3.here hexec rfl (hb hbytes d4) rfl ?_
    refine XS.ifYes X3.here hexec rfl (pc0 := 5) rfl (hb hbytes d5) rfl (i0_ne_t (nz32 (by omega) l0)) (by decide) rfl ?_
    exact Steps.refl _)
  obtain ⟨T5, X5, q5, st5⟩ := X3.sget hexec hown (wk W (.fieldLink "java/lang/String" 38 "java/lang/String" "COMPACT_STRINGS" "Z")) s1 (fun _ _ h => by rw [hh3]; exact h) (g := (mkF m 27 #[.val (.ref a), .val (.ref b), .val (.int (Int32.ofNat o)), .val (.int (Int32.ofNat len)), .val .null, .unset] [])) rfl (hb hbytes d27)
  have hh5 := q5.trans hh3
  have c6 : Steps p.tables e below (s₁.setTop (entryFrame m #[.ref a, .ref b, .int (Int32.ofNat o), .int (Int32.ofNat len), .null] 6)) (T5.setTop (mkF m 30 #[.val (.ref a), .val (.ref b), .val (.int (Int32.ofNat o)), .val (.int (Int32.ofNat len)), .val .null, .unset] [.int z])) := c4.trans (st5 _ (Steps.refl _))
  have c7 : Steps p.tables e below (s₁.setTop (entryFrame m #[.ref a, .ref b, .int (Int32.ofNat o), .int (Int32.ofNat len), .null] 6)) (T5.setTop (mkF m 36 #[.val (.ref a), .val (.ref b), .val (.int (Int32.ofNat o)), .val (.int (Int32.ofNat len)), .val .null, .unset] [.int (Int32.ofNat len), .int (Int32.ofNat o), .ref b])) := c6.trans (by
    refine XS.ifNo X5.here hexec rfl (hb hbytes d30) rfl (i0_eq_f hz) ?_
    refine XS.aloadN X5.here hexec rfl (hb hbytes d33) rfl rfl ?_
    refine XS.iloadN X5.here hexec rfl (hb hbytes d34) rfl ?_
    refine XS.iloadN X5.here hexec rfl (hb hbytes d35) rfl ?_
    exact Steps.refl _)
  obtain ⟨v8, T8, X8, E8, g8⟩ := X5.callS hexec (Cmp3.law l b A o len) hown (wks W (staticW "java/lang/String" 177 Cmp3.yN)) (wk W Cmp3.tab) (W := 0) (Nat.le_of_ble_eq_true rfl) (Nat.le_of_ble_eq_true rfl) (Nat.le_refl _) (by show 0 + len ≤ len; omega) (g := (mkF m 36 #[.val (.ref a), .val (.ref b), .val (.int (Int32.ofNat o)), .val (.int (Int32.ofNat len)), .val .null, .unset] [.int (Int32.ofNat len), .int (Int32.ofNat o), .ref b])) rfl (by rw [hml]; rfl) c7 (argsL := [.ref b, .int (Int32.ofNat o), .int (Int32.ofNat len)]) (rest := []) rfl rfl (by show 2 * 0 + 0 ≤ _; decide) (hb hbytes d36) (⟨rfl, hA.mv X5.warmed.alike hh5, l1, l2, hp⟩)
  obtain ⟨e8, z8⟩ := E8
  obtain ⟨rfl, N, n1, n2, n3, n4, n5, n6⟩ := NewArr.mv _ T5 s _ _ hh5.symm (Vm.Alike.refl _) rfl e8
  rw [hh5] at z8
  have hB1 := hB.keep X8.warmed.alike (n6 _ _ hB.1)
  have hne : s.heap.size ≠ a := (Nat.ne_of_lt (Array.getElem?_eq_some_iff.mp hB.1).1).symm
  have c9 : Steps p.tables e below (s₁.setTop (entryFrame m #[.ref a, .ref b, .int (Int32.ofNat o), .int (Int32.ofNat len), .null] 6)) (T8.setTop (mkF m 39 #[.val (.ref a), .val (.ref b), .val (.int (Int32.ofNat o)), .val (.int (Int32.ofNat len)), .val .null, .unset] [.ref s.heap.size])) := g8
  have c10 : Steps p.tables e below (s₁.setTop (entryFrame m #[.ref a, .ref b, .int (Int32.ofNat o), .int (Int32.ofNat len), .null] 6)) (T8.setTop (mkF m 45 #[.val (.ref a), .val (.ref b), .val (.int (Int32.ofNat o)), .val (.int (Int32.ofNat len)), .val .null, .val (.ref s.heap.size)] [.int (Int32.ofNat N.slots.size), .ref s.heap.size, .ref a])) := by
    have hc : Steps p.tables e below (s₁.setTop (entryFrame m #[.ref a, .ref b, .int (Int32.ofNat o), .int (Int32.ofNat len), .null] 6)) (T8.setTop (mkF m 45 #[.val (.ref a), .val (.ref b), .val (.int (Int32.ofNat o)), .val (.int (Int32.ofNat len)), .val .null, .val (.ref s.heap.size)] [.int (Int32.ofNat len), .ref s.heap.size, .ref a])) := c9.trans (by
      refine XS.astore X8.here hexec rfl (hb hbytes d39) rfl rfl rfl ?_
      refine XS.aloadN X8.here hexec rfl (hb hbytes d41) rfl rfl ?_
      refine XS.aload X8.here hexec rfl (hb hbytes d42) rfl rfl ?_
      refine XS.iloadN X8.here hexec rfl (hb hbytes d44) rfl ?_
      exact Steps.refl _)
    rw [n4]; exact hc
  obtain ⟨v11, T11, X11, E11, g11⟩ := X8.callS hexec (CodL.law l s.heap.size N) hown (wks W (staticW "java/lang/String" 47 CodL.yN)) (wk W CodL.tab) (W := 1) (Nat.le_of_ble_eq_true rfl) (Nat.le_of_ble_eq_true rfl) (Nat.le_refl _) (by show 0 + len + 0 ≤ len; omega) (g := (mkF m 45 #[.val (.ref a), .val (.ref b), .val (.int (Int32.ofNat o)), .val (.int (Int32.ofNat len)), .val .null, .val (.ref s.heap.size)] [.int (Int32.ofNat N.slots.size), .ref s.heap.size, .ref a])) rfl (by rw [hml]; rfl) c10 (argsL := [.ref s.heap.size, .int (Int32.ofNat N.slots.size)]) (rest := [.ref a]) rfl rfl (by show 2 * 0 + (1 + 0) ≤ _; decide) (hb hbytes d45) (⟨rfl, n1⟩)
  obtain ⟨rfl, q11⟩ := E11
  have hB11 := hB1.mv (X8.warmed.alike.symm.trans X11.warmed.alike) q11
  have c12 : Steps p.tables e below (s₁.setTop (entryFrame m #[.ref a, .ref b, .int (Int32.ofNat o), .int (Int32.ofNat len), .null] 6)) (T11.setTop (mkF m 48 #[.val (.ref a), .val (.ref b), .val (.int (Int32.ofNat o)), .val (.int (Int32.ofNat len)), .val .null, .val (.ref s.heap.size)] [.int 0, .ref a])) := g11
  obtain ⟨T13, X13, p13, bl13, sl13, st13⟩ := X11.finit hexec hown (wk W (.fieldLink "java/lang/String" 15 "java/lang/String" "coder" "B")) (Or.inr ⟨_, (wk W (.laysFinal "java/lang/String" "java/lang/String" "coder" "B"))⟩) (Or.inl ⟨rfl, hnm⟩) f2 (Or.inl rfl) hB11 (t := .byte) (by decide +kernel) rfl (g := (mkF m 48 #[.val (.ref a), .val (.ref b), .val (.int (Int32.ofNat o)), .val (.int (Int32.ofNat len)), .val .null, .val (.ref s.heap.size)] [.int 0, .ref a])) rfl (rest := []) rfl (hb hbytes d48)
  have c14 : Steps p.tables e below (s₁.setTop (entryFrame m #[.ref a, .ref b, .int (Int32.ofNat o), .int (Int32.ofNat len), .null] 6)) (T13.setTop (mkF m 54 #[.val (.ref a), .val (.ref b), .val (.int (Int32.ofNat o)), .val (.int (Int32.ofNat len)), .val .null, .val (.ref s.heap.size)] [.ref s.heap.size, .ref a])) := (c12.trans (st13 _ (Steps.refl _))).trans (by
    refine XS.aloadN X13.here hexec rfl (hb hbytes d51) rfl rfl ?_
    refine XS.aload X13.here hexec rfl (hb hbytes d52) rfl rfl ?_
    exact Steps.refl _)
  obtain ⟨T15, X15, p15, bl15, sl15, st15⟩ := X13.finit hexec hown (wk W (.fieldLink "java/lang/String" 9 "java/lang/String" "value" "[B")) (Or.inr ⟨_, (wk W (.laysFinal "java/lang/String" "java/lang/String" "value" "[B"))⟩) (Or.inl ⟨rfl, hnm⟩) f1 (Or.inl rfl) bl13 (t := (.array .byte)) (by decide +kernel) rfl (g := (mkF m 54 #[.val (.ref a), .val (.ref b), .val (.int (Int32.ofNat o)), .val (.int (Int32.ofNat len)), .val .null, .val (.ref s.heap.size)] [.ref s.heap.size, .ref a])) rfl (rest := []) rfl (hb hbytes d54)
  have c16 : Steps p.tables e below (s₁.setTop (entryFrame m #[.ref a, .ref b, .int (Int32.ofNat o), .int (Int32.ofNat len), .null] 6)) (T15.setTop (mkF m 57 #[.val (.ref a), .val (.ref b), .val (.int (Int32.ofNat o)), .val (.int (Int32.ofNat len)), .val .null, .val (.ref s.heap.size)] [])) := c14.trans (st15 _ (Steps.refl _))
  have ap := apart (Or.inr ⟨_, (wk W (.laysFinal "java/lang/String" "java/lang/String" "value" "[B"))⟩) (Or.inr ⟨_, (wk W (.laysFinal "java/lang/String" "java/lang/String" "coder" "B"))⟩) f1 f2 (t₁ := .array .byte) (t₂ := .byte) (by decide +kernel) (by decide +kernel) (by decide)
  have al := X8.warmed.alike.symm.trans X15.warmed.alike
  have n7 : T11.heap[s.heap.size]? = some N := by rw [q11]; exact n1.1
  exact ⟨T15, none, _, _, _, X15, by simp, rfl, by omega, (fun _ => rfl), ⟨rfl, _, N, bl15, ((Same.refl D _).set _ (by simp)).set _ (by simp), sl15, (Cell.slots_setSlot_ne _ ap).trans sl13, n1.keep al (p15.other hne (p13.other hne n7)), n2, by rw [al.findClass]; exact n3, n4, n5, fun y c h1 h2 => p15.other h1 (p13.other h1 (by rw [q11]; exact n6 y c h2)), by rw [p15.2.2, p13.2.2, q11]; exact z8⟩, fun fs hl => c16.trans (X15.returnOut hexec hret (hb hbytes d57) hl)⟩
end New4
namespace New1
def yN : MethodName := ⟨"java/lang/String", "<init>", "([C)V"⟩
abbrev yB : ByteArray := jdk_42_method_3_code
theorem d0 : decode yB 0 = .ok (.aload_n 0, 1) := by decide +kernel
theorem d1 : decode yB 1 = .ok (.aload_n 1, 1) := by decide +kernel
theorem d2 : decode yB 2 = .ok (.iconst 0, 1) := by decide +kernel
theorem d3 : decode yB 3 = .ok (.aload_n 1, 1) := by decide +kernel
theorem d4 : decode yB 4 = .ok (.arraylength, 1) := by decide +kernel
theorem d5 : decode yB 5 = .ok (.aconst_null, 1) := by decide +kernel
theorem d6 : decode yB 6 = .ok (.invokespecial 27, 3) := by decide +kernel
theorem d9 : decode yB 9 = .ok (.return_, 1) := by decide +kernel
def site : List Cond := [New4.tab] ++ initW "java/lang/String" 27 New4.yN
def tab : Cond := tabOf yN yB 2 none site
def P (a : Addr) (D : Cell) (fV fC : Field) (b : Addr) (A : Cell) (z : Int32) (args : Array Value) (s : State) : Prop := args = #[.ref a, .ref b] ∧ Blank "java/lang/String" a D s ∧ Found "java/lang/String" "value" "[B" fV s ∧ Found "java/lang/String" "coder" "B" fC s ∧ Ch b A s ∧ StaticIs s "java/lang/String" "COMPACT_STRINGS" "Z" (.int z) ∧ ¬ z = 0 ∧ 0 < A.slots.size ∧ A.slots.size ≤ 536870912 ∧ ∀ i, i < A.slots.size → ¬ 255 < cv A i
def E (a : Addr) (D : Cell) (fV fC : Field) (A : Cell) (r : Option Value) (s u : State) : Prop := Got a D fV fC A 0 A.slots.size r s u
/-- new String(chars), not empty, no char above 255: a Latin-1 String of their low bytes -/
theorem law (l : Launch) (a : Addr) (D : Cell) (fV fC : Field) (b : Addr) (A : Cell) (z : Int32) : Law l yN 2 1 3 52 yB 2 none site (P a D fV fC b A z) (E a D fV fC A) [⟨a, fC.slot⟩, ⟨a, fV.slot⟩] 1 A.slots.size := by
  refine Law.of_walk (plainFor_of_name (by decide +kernel)) (by decide +kernel) (by decide +kernel) (by decide) (fun _ _ h => by rw [h.1]; rfl) (fun _ U U' hal hh h => ⟨h.1, h.2.1.mv hal hh, h.2.2.1.al hal, h.2.2.2.1.al hal, h.2.2.2.2.1.mv hal hh, h.2.2.2.2.2.1.there hal hh, h.2.2.2.2.2.2⟩) (fun r U U' V V' h1 hal h2 h => Got.mv r U U' V V' h1 hal h2 h) ?_
  intro p e s m args below meth c s₁ X0 hexec hbytes hml hret hlk hnm hown hh0 W hP
  obtain ⟨rfl, hB, f1, f2, hA, s1, hz, l0, l2, hp⟩ := hP
  have c1 : Steps p.tables e below (s₁.setTop (entryFrame m #[.ref a, .ref b] 2)) (s₁.setTop (mkF m 0 #[.val (.ref a), .val (.ref b)] [])) := entry rfl
  have c2 : Steps p.tables e below (s₁.setTop (entryFrame m #[.ref a, .ref b] 2)) (s₁.setTop (mkF m 6 #[.val (.ref a), .val (.ref b)] [.null, .int (Int32.ofNat A.slots.size), .int 0, .ref b, .ref a])) := c1.trans (by
    refine XS.aloadN X0.here hexec rfl (hb hbytes d0) rfl rfl ?_
    refine XS.aloadN X0.here hexec rfl (hb hbytes d1) rfl rfl ?_
    refine iconstV X0.here hexec rfl 0 (hb hbytes d2) (by decide) ?_
    refine XS.aloadN X0.here hexec rfl (hb hbytes d3) rfl rfl ?_
    refine X0.alen hexec (hA.1.mv X0.warmed.alike hh0) rfl rfl (hb hbytes d4) ?_
    refine XS.aconstNull X0.here hexec rfl (hb hbytes d5) ?_
    exact Steps.refl _)
  obtain ⟨v3, T3, X3, E3, g3⟩ := X0.callN hexec (New4.law l a D fV fC b A z 0 A.slots.size) rfl hown (wks W (initW "java/lang/String" 27 New4.yN)) (W New4.tab (by simp only [site, List.mem_cons, List.mem_append, true_or, or_true])) (W := 0) (Nat.le_of_ble_eq_true rfl) (Nat.le_of_ble_eq_true rfl) (Nat.le_refl _) (by show 0 + A.slots.size ≤ A.slots.size; omega) (g := (mkF m 6 #[.val (.ref a), .val (.ref b)] [.null, .int (Int32.ofNat A.slots.size), .int (Int32.ofNat 0), .ref b, .ref a])) rfl (by rw [hml]; rfl) c2 (argsL := [.ref b, .int (Int32.ofNat 0), .int (Int32.ofNat A.slots.size), .null]) (rest := []) rfl rfl (by show 2 * 0 + 0 ≤ _; decide) (hb hbytes d6) (⟨rfl, hB.mv X0.warmed.alike hh0, f1.al X0.warmed.alike, f2.al X0.warmed.alike, hA.mv X0.warmed.alike hh0, s1.there X0.warmed.alike hh0, hz, l0, by omega, l2, fun i hi => by rw [Nat.zero_add]; exact hp i hi⟩)
  have e0 := Got.mv _ s₁ s _ _ hh0.symm (Vm.Alike.refl _) rfl E3
  obtain rfl := e0.1
  have c4 : Steps p.tables e below (s₁.setTop (entryFrame m #[.ref a, .ref b] 2)) (T3.setTop (mkF m 9 #[.val (.ref a), .val (.ref b)] [])) := g3
  exact ⟨T3, none, _, _, _, X3, by simp, rfl, by omega, (fun _ => rfl), e0, fun fs hl => c4.trans (X3.returnOut hexec hret (hb hbytes d9) hl)⟩
theorem pays {l : Launch} {R : Room} {p : Program} {e : Env} {below : List Frame} {s : State} {sargs : Array Value} {len W : Nat} (a : Addr) (D : Cell) (fV fC : Field) (b : Addr) (A : Cell) (z : Int32) (htab : tab.before sargs s = true) (hfr : 4 ≤ R.frames) (hlo : W + 65 ≤ R.locals) :
    Back l R p e below s sargs yN len W (fun A₁ a₁ => A₁.cells + 1 ≤ R.cells ∧ A₁.slots + A.slots.size ≤ R.slots ∧ P a D fV fC b A z a₁ A₁.U) (fun A₁ _ v₁ B₁ => E a D fV fC A v₁ A₁.U B₁.U ∧ B₁.locs = A₁.locs ++ [⟨a, fC.slot⟩, ⟨a, fV.slot⟩] ∧ B₁.cells = A₁.cells + 1 ∧ B₁.slots = A₁.slots + A.slots.size) :=
  (law l a D fV fC b A z).pays htab hfr (by omega)
end New1
end StrChars
namespace StrChars.Road
open Jvm Sem ClassFile Op Lib Jvm.Stand Jvm.Free Jvm.Free.XT
open Jvm.Lib.Cold (StaticIs)
abbrev ST : String := "java/lang/String"
/-- every table word that New1's law asks, flat -/
abbrev words : List Jvm.Cond := [.code New1.yN New1.yB 2 none, .initialized ST, .methodLink ST 27 New4.yN, .instanceMethod New4.yN,
  .code New4.yN New4.yB 6 none, .fieldLink ST 38 ST "COMPACT_STRINGS" "Z", .laysFinal ST ST "value" "[B", .fieldLink ST 9 ST "value" "[B", .laysFinal ST ST "coder" "B", .fieldLink ST 15 ST "coder" "B",
  .methodLink ST 1 Lib.objectInit, .instanceMethod Lib.objectInit, .code Lib.objectInit ⟨#[0xb1]⟩ 1 none, .methodLink ST 177 Cmp3.yN, .static Cmp3.yN, .methodLink ST 47 CodL.yN, .static CodL.yN,
  .code Cmp3.yN Cmp3.yB 6 (some (.array .byte)), .initialized U16, .arrayClass .byte, .methodLink U16 115 Cmp5.yN, .static Cmp5.yN, .code Cmp5.yN Cmp5.yB 7 (some .int), .code CodL.yN CodL.yB 2 (some .byte)]
theorem tab_of {a : Array Value} {s : State} (h : ∀ w ∈ words, w.before a s = true) : New1.tab.before a s = true := by
  have h5 : Cmp5.tab.before a s = true := unparts (wk h (.code Cmp5.yN Cmp5.yB 7 (some .int))) (wks h (.initialized Cmp5.yN.cls :: Cmp5.site))
  have hc : CodL.tab.before a s = true := unparts (wk h (.code CodL.yN CodL.yB 2 (some .byte))) (wks h (.initialized CodL.yN.cls :: CodL.site))
  have q5 : ∀ w ∈ Cmp5.tab :: words, w.before a s = true := fun w hw => (List.mem_cons.mp hw).elim (fun e => e ▸ h5) (h w)
  have h3 : Cmp3.tab.before a s = true := unparts (wk q5 (.code Cmp3.yN Cmp3.yB 6 (some (.array .byte)))) (wks q5 (.initialized Cmp3.yN.cls :: Cmp3.site))
  have q3 : ∀ w ∈ Cmp3.tab :: CodL.tab :: words, w.before a s = true := fun w hw => (List.mem_cons.mp hw).elim (fun e => e ▸ h3) fun hw => (List.mem_cons.mp hw).elim (fun e => e ▸ hc) (h w)
  have h4 : New4.tab.before a s = true := unparts (wk q3 (.code New4.yN New4.yB 6 none)) (wks q3 (.initialized New4.yN.cls :: New4.site))
  have q4 : ∀ w ∈ New4.tab :: words, w.before a s = true := fun w hw => (List.mem_cons.mp hw).elim (fun e => e ▸ h4) (h w)
  exact unparts (wk q4 (.code New1.yN New1.yB 2 none)) (wks q4 (.initialized New1.yN.cls :: New1.site))
/-- the words ride from the start Z to the walk's own state -/
theorem moved {Z s : State} {a0 args : Array Value} (hZ : Z.Warmed39 s.vm) (hw : ∀ d ∈ words, d.before a0 Z = true) : ∀ d ∈ words, d.before args s = true := fun d hd => by
  have q := hw d hd
  have t : ∀ d ∈ words, d = .arrayClass .byte ∨ (d.onTables && d.keepsFace) = true := by decide +kernel
  rcases t d hd with rfl | t
  · exact RoadKit.mvA hZ q
  · exact RoadKit.mv hZ q t
/-- WHAT COMES BACK, over the tables of the start Z: h the heap at the call, h' behind it -/
def Q (Z : State) (x : Addr) (A : Cell) (h : Heap) (v : Option Value) (h' : Heap) (L : List Loc) : Prop := v = none ∧ (∀ y ∈ L, y.base = x) ∧ RoadKit.Keep h h' [x] ∧ h'.size = h.size + 1 ∧ RoadKit.Exa Z h' x ST ∧ RoadKit.Fld Z h' x ST "value" "[B" (.ref h.size) ∧ RoadKit.Fld Z h' x ST "coder" "B" (.int 0) ∧
  (∃ V : Cell, RoadKit.Arr Z h' h.size V .byte ∧ V.vm = .none ∧ Z.vm.findClass "[B" = some V.cls ∧ V.slots.size = A.slots.size ∧ ∀ j, j < A.slots.size → V.slots[j]? = some (.int (lo8 (cv A j)))) ∧
  ∀ (O n d : String) (w : Value), RoadKit.Fld Z h x O n d w → RoadKit.slotOf Z O n d ≠ RoadKit.slotOf Z ST "value" "[B" → RoadKit.slotOf Z O n d ≠ RoadKit.slotOf Z ST "coder" "B" → RoadKit.Fld Z h' x O n d w
/-- **new String(chars) AT A CALL, IN THE ROAD'S FORM**: for specialBack behind newO: x the fresh String, b the char[] with the cell A -/
theorem back {p : Program} {l : Launch} {e : Env} {R : Room} {s : State} {args : Array Value} {below : List Frame} {len W : Nat} {Z : State} {a0 : Array Value} {h : Heap} (hZ : Z.Warmed39 s.vm) (hw : ∀ d ∈ words, d.before a0 Z = true) {kI : Nat} (wi : (Jvm.Cond.instantiable ST kI).before a0 Z = true)
    {x b : Addr} {A : Cell} {z : Int32} {v0 c0 : Value} (E : RoadKit.Exa Z h x ST) (V : RoadKit.Fld Z h x ST "value" "[B" v0) (C : RoadKit.Fld Z h x ST "coder" "B" c0) (K : RoadKit.Arr Z h b A .char) (hty : Typed .char A) (S : RoadKit.Sta Z h ST "COMPACT_STRINGS" "Z" (.int z)) (hz : ¬ z = 0)
    (l0 : 0 < A.slots.size) (l2 : A.slots.size ≤ 536870912) (hp : ∀ i, i < A.slots.size → ¬ 255 < cv A i) (hfr : 4 ≤ R.frames) (hlo : W + 65 ≤ R.locals) :
    Back l R p e below s args New1.yN len W (fun P a => a = #[.ref x, .ref b] ∧ P.U.heap = h ∧ P.cells + 1 ≤ R.cells ∧ P.slots + A.slots.size ≤ R.slots)
      (fun P _ v B => ∃ L, Q Z x A h v B.U.heap L ∧ B.locs = P.locs ++ L ∧ B.cells = P.cells + 1 ∧ B.slots = P.slots + A.slots.size) := by
  intro m meth c P g ig mk a X hg hsize hdg hW hn hp'
  obtain ⟨rfl, rfl, r1, r2⟩ := hp'
  have al : Z.vm.Alike P.U.vm := hZ.alike.trans X.warmed.alike
  obtain ⟨D, cfV, kV, iV, fV, hD, gV, stV, knV, obV, asV, slV⟩ := id V
  obtain ⟨D', cfC, kC, iC, fC, hD', gC, stC, -, -, asC, slC⟩ := id C
  cases hD.symm.trans hD'
  obtain ⟨D2, kD, e1, e2, e3, e4, e5⟩ := id E
  cases hD.symm.trans e1
  obtain ⟨c2, k2, i1, i2, i3, -⟩ := Cond.instantiable_spec wi
  cases e2.symm.trans i1
  cases e3.symm.trans i2
  obtain ⟨kU, u1, u2⟩ := al.2.2 _ _ e3
  have hB : Blank ST x D P.U := ⟨hD, ⟨knV, fun q hq => by rw [hq] at obV; cases obV⟩, by rw [al.findClass]; exact e2, kU, u1, by rw [u2]; exact i3, by rw [u2]; exact e5 i3⟩
  have F1 : Found ST "value" "[B" fV P.U := ⟨SBG.found_only al ⟨cfV, kV, iV, gV⟩, stV⟩
  have F2 : Found ST "coder" "B" fC P.U := ⟨SBG.found_only al ⟨cfC, kC, iC, gC⟩, stC⟩
  have hA : Ch b A P.U := ⟨⟨K.1, State.isArrayOf_alike al K.2.1, K.2.2, by omega⟩, hty⟩
  have hS : StaticIs P.U ST "COMPACT_STRINGS" "Z" (.int z) := by
    obtain ⟨cfS, iS, kS, fS, st, cS, t1, t2, t3, t4, t5, t6, t7⟩ := S
    exact StaticIs.there (s := { Z with heap := P.U.heap }) ⟨cfS, iS, kS, fS, st, cS, t1, t2, t3, t4, t5, (fun q => by rw [q] at t6; cases t6), t7⟩ al rfl
  obtain ⟨v, B, X', ⟨⟨hv, E', V', q1, q2, q3, q4, q5, q6, q7, q8, q9, q10, q11⟩, hl, hc, hs⟩, st⟩ := New1.pays x D fV fC b A z (tab_of (moved hZ hw)) hfr hlo m meth c P g ig mk _ X hg hsize hdg hW hn ⟨r1, r2, rfl, hB, F1, F2, hA, hS, hz, l0, l2, hp⟩
  have al' : Z.vm.Alike B.U.vm := hZ.alike.trans X'.warmed.alike
  have hsz : E'.slots.size = D.slots.size := by
    obtain ⟨-, -, -, kB, w1, w2, w3⟩ := q1
    obtain ⟨kB', y1, y2⟩ := al'.2.2 _ _ e3
    rw [q2.2.1] at w1
    cases w1.symm.trans y1
    rw [w3, e5 i3, y2]
  refine ⟨v, B, X', ⟨_, ⟨hv, ?_, ⟨by omega, fun y cy hy hn' => q10 y cy (by simpa using hn') hy, fun y cy hy => ?_⟩, q11, ⟨E', _, q1.1, by rw [q2.2.1]; exact e2, by rw [q2.2.1]; exact e3, by rw [q2.1]; exact obV, fun _ => by rw [hsz]; exact e5 i3⟩,
    ⟨E', cfV, kV, iV, fV, q1.1, gV, stV, by rw [q2.1]; exact knV, by rw [q2.1]; exact obV, by rw [q2.2.1]; exact asV, q3⟩, ⟨E', cfC, kC, iC, fC, q1.1, gC, stC, by rw [q2.1]; exact knV, by rw [q2.1]; exact obV, by rw [q2.2.1]; exact asC, q4⟩,
    ⟨V', ⟨q5.1, State.isArrayOf_alike al'.symm q5.2.1, q5.2.2.1⟩, q6, by rw [← al'.findClass]; exact q7, q8, fun j hj => by have := q9 j hj; rwa [Nat.zero_add] at this⟩, fun O n d w F n1 n2 => ?_⟩, hl, hc, hs⟩, st⟩
  · intro y hy
    simp only [List.mem_cons, List.not_mem_nil, or_false] at hy
    rcases hy with rfl | rfl <;> rfl
  · by_cases q : y = x
    · subst q
      cases hD.symm.trans hy
      exact ⟨E', q1.1, q2.2.1, q2.1, hsz⟩
    · exact ⟨cy, q10 y cy q hy, rfl, rfl, rfl⟩
  · obtain ⟨D3, cf, k, i, f, g1, g2, g3, g4, g5, g6, g7⟩ := F
    cases hD.symm.trans g1
    simp only [RoadKit.slotOf, g2, gV, gC, Option.map_some, Option.getD_some] at n1 n2
    exact ⟨E', cf, k, i, f, q1.1, g2, g3, by rw [q2.1]; exact g4, by rw [q2.1]; exact g5, by rw [q2.2.1]; exact g6, by rw [q2.2.2 f.slot (by simp [n1, n2])]; exact g7⟩
end StrChars.Road
namespace StrChars.Road
open Jvm Sem ClassFile Op Lib Jvm.Stand Jvm.Free Jvm.Free.XT
/-- WHAT COMES BACK, the byte[] as a list of values -/
def QA (Z : State) (x : Addr) (zn : Int32) (cs : List Int32) (h : Heap) (v : Option Value) (h' : Heap) (L : List Loc) : Prop := v = none ∧ (∀ y ∈ L, y.base = x) ∧ RoadKit.Keep h h' [x] ∧ h'.size = h.size + 1 ∧ RoadKit.Exa Z h' x ST ∧ RoadKit.Fld Z h' x ST "value" "[B" (.ref h.size) ∧ RoadKit.Fld Z h' x ST "coder" "B" (.int 0) ∧
  (∃ kb, Z.vm.findClass "[B" = some kb ∧ RoadKit.Arv Z h' h.size kb .byte zn (cs.map fun c => .int (lo8 c)) (.int 0)) ∧
  ∀ (O n d : String) (w : Value), RoadKit.Fld Z h x O n d w → RoadKit.slotOf Z O n d ≠ RoadKit.slotOf Z ST "value" "[B" → RoadKit.slotOf Z O n d ≠ RoadKit.slotOf Z ST "coder" "B" → RoadKit.Fld Z h' x O n d w
/-- **new String(chars) AT A CALL, THE ARRAYS AS LISTS**: the char[] at b holds cs, not empty, no char above 255 -/
theorem backArv {p : Program} {l : Launch} {e : Env} {R : Room} {s : State} {args : Array Value} {below : List Frame} {len W : Nat} {Z : State} {a0 : Array Value} {h : Heap} (hZ : Z.Warmed39 s.vm) (hw : ∀ d ∈ words, d.before a0 Z = true) {kI : Nat} (wi : (Jvm.Cond.instantiable ST kI).before a0 Z = true)
    {x b : Addr} {k : ClassId} {zn z : Int32} {cs : List Int32} {dv v0 c0 : Value} (E : RoadKit.Exa Z h x ST) (V : RoadKit.Fld Z h x ST "value" "[B" v0) (C : RoadKit.Fld Z h x ST "coder" "B" c0) (K : RoadKit.Arv Z h b k .char zn (cs.map Value.int) dv) (S : RoadKit.Sta Z h ST "COMPACT_STRINGS" "Z" (.int z)) (hz : ¬ z = 0)
    (hlen : zn.toNatClampNeg = cs.length) (h0 : 0 < cs.length) (hbig : cs.length ≤ 536870912) (hall : ∀ c ∈ cs, ¬ 255 < c) (hfr : 4 ≤ R.frames) (hlo : W + 65 ≤ R.locals) :
    Back l R p e below s args New1.yN len W (fun P a => a = #[.ref x, .ref b] ∧ P.U.heap = h ∧ P.cells + 1 ≤ R.cells ∧ P.slots + cs.length ≤ R.slots)
      (fun P _ v B => ∃ L, QA Z x zn cs h v B.U.heap L ∧ B.locs = P.locs ++ L ∧ B.cells = P.cells + 1 ∧ B.slots = P.slots + cs.length) := by
  obtain ⟨A, K1, K2, K3, K4, K5, K6⟩ := K
  have e : A.slots.size = cs.length := K3.trans hlen
  have hat : ∀ (i : Nat) (hi : i < cs.length), A.slots[i]? = some (.int cs[i]) := fun i hi => by rw [K5 i (by omega)]; simp [List.getD_eq_getElem?_getD, hi]
  have hcv : ∀ (i : Nat) (hi : i < cs.length), cv A i = cs[i] := fun i hi => by unfold cv; rw [hat i hi]
  have hty : Typed .char A := fun i v hv => by
    have hi : i < A.slots.size := (Array.getElem?_eq_some_iff.mp hv).1
    have q := K5 i hi
    rw [hv] at q
    rw [Option.some.inj q]
    exact K6 i hi
  refine Back.mono (back hZ hw wi E V C K1 hty S hz (by omega) (by omega) (fun i hi => by rw [hcv i (by omega)]; exact hall _ (List.getElem_mem _)) hfr hlo) (fun P a hp => ⟨hp.1, hp.2.1, hp.2.2.1, by rw [e]; exact hp.2.2.2⟩) (fun P a v B hp hq => ?_)
  obtain ⟨L, ⟨q1, q2, q3, q4, q5, q6, q7, ⟨V', v1, v2, v3, v4, v5⟩, q9⟩, hl, hc, hs⟩ := hq
  refine ⟨L, ⟨q1, q2, q3, q4, q5, q6, q7, ⟨V'.cls, v3, V', v1, rfl, by rw [v4, e, hlen], K4, fun i hi => ?_, fun i hi => ?_⟩, q9⟩, hl, hc, by rw [hs, e]⟩
  · have hi' : i < cs.length := by omega
    rw [v5 i (by omega), hcv i hi']; simp [List.getD_eq_getElem?_getD, hi']
  · have hi' : i < cs.length := by omega
    simp only [List.getD_eq_getElem?_getD, List.getElem?_map, List.getElem?_eq_getElem hi', Option.map_some, Option.getD_some]
    exact fits_lo8 _
end StrChars.Road
namespace StrChars.Road
open Jvm Sem ClassFile Op Lib Jvm.Stand Jvm.Free Jvm.Free.XT
/-- WHAT COMES BACK, in the writer's own shape -/
def QV (Z : State) (x : Addr) (N : Int32) (bs : List Int32) (h : Heap) (n0 : Nat) (v : Option Value) (h' : Heap) (L : List Loc) : Prop := v = none ∧ RoadKit.Fr n0 L ∧ RoadKit.Keep h h' [x] ∧ RoadKit.Exa Z h' x ST ∧ RoadKit.Fld Z h' x ST "coder" "B" (.int 0) ∧
  ∃ (t : Addr) (kb : ClassId), n0 ≤ t ∧ h.size ≤ t ∧ ¬ t = x ∧ RoadKit.Fld Z h' x ST "value" "[B" (.ref t) ∧ RoadKit.Arv Z h' t kb .byte N (bs.map Value.int) (.int 0)
/-- **new String(chars) AT A CALL, FOR THE WRITER**: a char[] of n known ints, each 0 to 255 -/
theorem backV {p : Program} {l : Launch} {e : Env} {R : Room} {s : State} {args : Array Value} {below : List Frame} {len W : Nat} {Z : State} {a0 : Array Value} {h : Heap} (hZ : Z.Warmed39 s.vm) (hw : ∀ d ∈ words, d.before a0 Z = true) {kI : Nat} (wi : (Jvm.Cond.instantiable ST kI).before a0 Z = true)
    {x b : Addr} {kC : ClassId} {cs bs : List Int32} {d v0 c0 : Value} {z N : Int32} {n n0 : Nat} (hx0 : n0 ≤ x) (hh0 : n0 ≤ h.size) (E : RoadKit.Exa Z h x ST) (V : RoadKit.Fld Z h x ST "value" "[B" v0) (C : RoadKit.Fld Z h x ST "coder" "B" c0) (K : RoadKit.Arv Z h b kC .char N (cs.map Value.int) d) (S : RoadKit.Sta Z h ST "COMPACT_STRINGS" "Z" (.int z)) (hz : ¬ z = 0)
    (hn : cs.length = n) (hN : N = Int32.ofNat n) (l0 : 0 < n) (l2 : n ≤ 4000) (hp : ∀ c ∈ cs, ¬ c < 0 ∧ ¬ (255 : Int32) < c) (hb : bs = cs.map (fun c => c.toInt8.toInt32)) (hfr : 4 ≤ R.frames) (hlo : W + 65 ≤ R.locals) :
    Back l R p e below s args (⟨"java/lang/String", "<init>", "([C)V"⟩ : MethodName) len W (fun P a => a = #[.ref x, .ref b] ∧ P.U.heap = h ∧ P.cells + 1 ≤ R.cells ∧ P.slots + n ≤ R.slots)
      (fun P _ v B => ∃ L, QV Z x N bs h n0 v B.U.heap L ∧ B.locs = P.locs ++ L ∧ B.cells = P.cells + 1 ∧ B.slots = P.slots + n) := by
  subst hn hN hb
  refine Back.mono (backArv hZ hw wi E V C K S hz (n32 (by omega)) l0 (by omega) (fun c hc => (hp c hc).2) hfr hlo) (fun P a hp => hp) (fun P a v B hp hq => ?_)
  obtain ⟨L, ⟨q1, q2, q3, q4, q5, q6, q7, ⟨kb, v1, v2⟩, q9⟩, hl, hc, hs⟩ := hq
  exact ⟨L, ⟨q1, fun y hy => by rw [q2 y hy]; exact hx0, q3, q5, q7, h.size, kb, hh0, Nat.le_refl _, Nat.ne_of_gt E.lt, q6, by rw [List.map_map]; exact v2⟩, hl, hc, hs⟩
end StrChars.Road
end Jvm.Pilot.@@N@@
namespace Jvm.Pilot.@@N@@
open Jvm Jvm.ClassFile Sem Op Lib Jvm.Free Jvm.Stand Jvm.LawKit Jvm.RoadKit Bundle Jvm.Pilot.@@N@@.Jvm.D
def own_Txt (Z : State) (h : Heap) (x : Addr) (cs : List Int32) : Prop := ∃ (t : Addr) (kb : ClassId), Exa Z h x "java/lang/String" ∧ Fld Z h x "java/lang/String" "value" "[B" (.ref t) ∧ Fld Z h x "java/lang/String" "coder" "B" (.int 0) ∧ Arv Z h t kb .byte (Int32.ofNat cs.length) ((cs.map StrChars.lo8).map Value.int) (.int 0) ∧ (∀ c ∈ cs, ¬ c < 0 ∧ ¬ (255 : Int32) < c) ∧ cs.length ≤ 4000
theorem own_Txt.ext {Z : State} {h h' : Heap} {x : Addr} {cs : List Int32} (F : own_Txt Z h x cs) (E : Ext h h') : own_Txt Z h' x cs := by
  obtain ⟨t, kb, f1, f2, f3, f4, f5, f6⟩ := F
  exact ⟨t, kb, f1.ext E, f2.ext E, f3.ext E, f4.ext E, f5, f6⟩
theorem own_Txt.exa {Z : State} {h : Heap} {x : Addr} {cs : List Int32} (F : own_Txt Z h x cs) : Exa Z h x "java/lang/String" := by obtain ⟨t, kb, f1, -⟩ := F; exact f1
theorem own_Txt.lt {Z : State} {h : Heap} {x : Addr} {cs : List Int32} (F : own_Txt Z h x cs) : x < h.size := F.exa.lt
theorem own_up (cs : List Int32) (h : ∀ c ∈ cs, ¬ c < 0 ∧ ¬ (255 : Int32) < c) : ∀ c ∈ cs, ¬ c < 0 ∧ ¬ (65535 : Int32) < c := fun c hc => ⟨(h c hc).1, fun q => (h c hc).2 (by rw [Int32.lt_iff_toInt_lt] at q ⊢; exact Int.lt_trans (by decide) q)⟩
theorem own_w_backV {a0 : Array Value} {Z : State} (hw : ∀ d ∈ tables_1, d.before a0 Z = true) : ∀ d ∈ StrChars.Road.words, d.before a0 Z = true := fun d hd => hw d ((by decide +kernel : ∀ d ∈ StrChars.Road.words, d ∈ tables_1) d hd)
theorem own_newS {p : Program} {l : Launch} {e : Env} {R : Room} {s : State} {m : MethodId} {args : Array Value} {below : List Frame} {meth : Method} {c : Code} {T : State} {locs : List Loc} {cells slots : Nat} {pc : Nat} {Ls : Array Slot} {Z : State} {a0 : Array Value} {h : Heap} (X : Stand p l e R s m args below meth c T locs cells slots) (hx : p.tables.exec = Jvm.exec) (hZ : Z.Warmed39 s.vm) (eT : T.heap = h) (hw : ∀ d ∈ tables_1, d.before a0 Z = true) (wi : (Jvm.Cond.instantiable "java/lang/String" 4).before a0 Z = true) {own : String} {index : Nat} (hown : s.vm.findClass own = some m.cls) {x b : Addr} {cs : List Int32} {v0 c0 : Value} {n0 n : Nat} (hn : cs.length = n) (hx0 : n0 ≤ x) (hh0 : n0 ≤ h.size) (E : Exa Z h x "java/lang/String") (V : Fld Z h x "java/lang/String" "value" "[B" v0) (Cd : Fld Z h x "java/lang/String" "coder" "B" c0) (K : Own.CA Z h b .char cs) {z : Int32} (SC : Sta Z h "java/lang/String" "COMPACT_STRINGS" "Z" (.int z)) (hz : ¬ z = 0)
    (l0 : 0 < n) (l2 : n ≤ 4000) (hp : ∀ c ∈ cs, ¬ c < 0 ∧ ¬ (255 : Int32) < c) {bytes : ByteArray} {maxL : Nat} (w1 : (Jvm.Cond.methodLink own index (⟨"java/lang/String", "<init>", "([C)V"⟩ : MethodName)).before a0 Z = true) (w2 : (Jvm.Cond.instanceMethod (⟨"java/lang/String", "<init>", "([C)V"⟩ : MethodName)).before a0 Z = true) (w4 : (Jvm.Cond.code (⟨"java/lang/String", "<init>", "([C)V"⟩ : MethodName) bytes maxL none).before a0 Z = true)
    (rest : List Value) (W : Nat) (hfr : 4 ≤ R.frames) (hlo : W + 65 ≤ R.locals) (hcR : cells + 1 ≤ R.cells) (hsR : slots + n ≤ R.slots) (hsz : Ls.size = c.maxLocals) (hlen : ∀ sig, parseMethodDescriptor "([C)V" = some sig → ([.ref b] : List Value).length = sig.parameters.length) (hW : (rest.map fun v => v.category).sum ≤ W) (hd : decode c.code pc = .ok (.invokespecial index, 3)) :
    ∃ (T' : State) (h' : Heap) (L M : List Loc), Stand p l e R s m args below meth c T' M (cells + 1) (slots + n) ∧ T'.heap = h' ∧ (∀ n0, Fr n0 locs → Fr n0 L → Fr n0 M) ∧ Fr n0 L ∧ Keep h h' [x] ∧ own_Txt Z h' x cs ∧ ∀ t, Steps p.tables e below (T'.setTop (mkF m (pc + 3) Ls rest)) t → Steps p.tables e below (T.setTop (mkF m pc Ls (.ref b :: .ref x :: rest))) t := by
  obtain ⟨kC, K, hK⟩ := K
  obtain ⟨T', h', v, L, M, X', e', hM, ⟨rfl, q1, q2, q3, q4, t, kb, -, -, -, q5, q6⟩, st⟩ := Own.callIB (y := (⟨"java/lang/String", "<init>", "([C)V"⟩ : MethodName)) X hx hZ eT rfl x [.ref b] rest W (StrChars.Road.backV (W := W) hZ (own_w_backV hw) (kI := 4) wi (cs := cs) (bs := cs.map (fun c => c.toInt8.toInt32)) (n := n) (N := Int32.ofNat cs.length) hx0 hh0 E V Cd K SC hz hn (by rw [hn]) l0 l2 hp rfl hfr hlo) hown w1 w2 w4 (by decide) hcR hsR hsz hlen rfl hW hd
  exact ⟨T', h', L, M, X', e', hM, q1, q2, ⟨t, kb, q3, q5, q4, q6, hp, by omega⟩, st⟩
abbrev vi (x : Int32) : Slot := .val (.int x)
abbrev vr (x : Addr) : Slot := .val (.ref x)
abbrev vl (x : Int64) : Slot := .val (.long x)
theorem W_ {a0 : Array Value} {Z : State} (hw : ∀ d ∈ tables_1, d.before a0 Z = true) (i : Nat) {d : Jvm.Cond} (h : tables_1[i]? = some d) : d.before a0 Z = true := hw d (List.mem_of_getElem? h)
theorem szOf {c : Code} {n : Nat} {L : Array Slot} (h : c.maxLocals = n) (q : L.size = n) : L.size = c.maxLocals := q.trans h.symm
abbrev J0 : ByteArray := jdk_29_method_69_code
abbrev J1 : ByteArray := jdk_42_method_129_code
abbrev J2 : ByteArray := jdk_42_method_139_code
abbrev J3 : ByteArray := jdk_42_method_147_code
abbrev J4 : ByteArray := jdk_42_method_149_code
abbrev J5 : ByteArray := jdk_42_method_150_code
abbrev J6 : ByteArray := jdk_42_method_151_code
abbrev J7 : ByteArray := jdk_42_method_152_code
abbrev J8 : ByteArray := jdk_42_method_154_code
abbrev J9 : ByteArray := jdk_42_method_3_code
abbrev J10 : ByteArray := jdk_42_method_53_code
abbrev J11 : ByteArray := jdk_42_method_54_code
abbrev J12 : ByteArray := jdk_43_method_3_code
abbrev J13 : ByteArray := jdk_43_method_46_code
abbrev J14 : ByteArray := jdk_43_method_49_code
abbrev J15 : ByteArray := jdk_43_method_9_code
abbrev J16 : ByteArray := jdk_65_method_131_code
abbrev J17 : ByteArray := jdk_65_method_132_code
abbrev J18 : ByteArray := jdk_65_method_133_code
abbrev J19 : ByteArray := jdk_67_method_14_code
abbrev J20 : ByteArray := jdk_67_method_1_code
abbrev J21 : ByteArray := jdk_67_method_42_code
abbrev J22 : ByteArray := jdk_67_method_7_code
abbrev J23 : ByteArray := jdk_67_method_93_code
abbrev J24 : ByteArray := jdk_68_method_22_code
abbrev J25 : ByteArray := jdk_68_method_2_code
abbrev J26 : ByteArray := jdk_68_method_31_code
abbrev J27 : ByteArray := jdk_68_method_64_code
abbrev J28 : ByteArray := jdk_68_method_68_code
abbrev J29 : ByteArray := jdk_68_method_6_code
abbrev J30 : ByteArray := jdk_68_method_71_code
abbrev J31 : ByteArray := jdk_68_method_73_code
abbrev J32 : ByteArray := jdk_68_method_9_code
abbrev J33 : ByteArray := method_3_code
abbrev J34 : ByteArray := method_4_code
abbrev J35 : ByteArray := method_5_code
abbrev J36 : ByteArray := method_6_code
abbrev J37 : ByteArray := method_7_code
abbrev J38 : ByteArray := prog_10_method_23_code
abbrev J39 : ByteArray := prog_10_method_25_code
abbrev J40 : ByteArray := prog_10_method_7_code
abbrev J41 : ByteArray := prog_10_method_8_code
abbrev J42 : ByteArray := prog_36_method_1_code
abbrev J43 : ByteArray := prog_36_method_20_code
abbrev J44 : ByteArray := prog_36_method_4_code
abbrev J45 : ByteArray := prog_36_method_5_code
def own_EL : List (String × Nat) := [("java/lang/String", 7), ("com/example/stemshear/stemshear/Rule", 97)]
theorem own_hEL {a0 : Array Value} {Z : State} (hw : ∀ d ∈ tables_1, d.before a0 Z = true) : EW Z a0 own_EL := (EW.cons (text := "") (W_ hw 21 rfl) (by decide) (EW.cons (text := ">") (W_ hw 220 rfl) (by decide) EW.nil))
theorem own_wS {a0 : Array Value} {Z : State} (hw : ∀ d ∈ tables_1, d.before a0 Z = true) : ∀ a ∈ Bundle.stringAtoms, a.before a0 Z = true := fun d hd => hw d ((by decide +kernel : ∀ d ∈ Bundle.stringAtoms, d ∈ tables_1) d hd)

theorem d4_0 : decode J4 0 = .ok (.aload_n 0, 1) := by decide +kernel
theorem d4_1 : decode J4 1 = .ok (.invokespecial 1, 3) := by decide +kernel
theorem d4_4 : decode J4 4 = .ok (.iload_n 3, 1) := by decide +kernel
theorem d4_5 : decode J4 5 = .ok (.ifCond .ne 22, 3) := by decide +kernel
theorem d4_8 : decode J4 8 = .ok (.aload_n 0, 1) := by decide +kernel
theorem d4_9 : decode J4 9 = .ok (.ldc 7, 2) := by decide +kernel
theorem d4_11 : decode J4 11 = .ok (.getfield 9, 3) := by decide +kernel
theorem d4_14 : decode J4 14 = .ok (.putfield 9, 3) := by decide +kernel
theorem d4_17 : decode J4 17 = .ok (.aload_n 0, 1) := by decide +kernel
theorem d4_18 : decode J4 18 = .ok (.ldc 7, 2) := by decide +kernel
theorem d4_20 : decode J4 20 = .ok (.getfield 15, 3) := by decide +kernel
theorem d4_23 : decode J4 23 = .ok (.putfield 15, 3) := by decide +kernel
theorem d4_26 : decode J4 26 = .ok (.return_, 1) := by decide +kernel
theorem pn_0 : plainName "java/lang/String" = true := by first | (simp [plainName, overriddenIn]; done) | decide +kernel
theorem ef_4n4 (m : MethodId) (o0 : Addr) (o1 : Addr) (p2 : Int32) (p3 : Int32) : entryFrame m #[(.ref o0), (.ref o1), (.int p2), (.int p3), .null] 6 = mkF m 0 #[.val (.ref o0), .val (.ref o1), .val (.int p2), .val (.int p3), .val .null, .unset] [] := by first | (simp [entryFrame, mkF, argsToLocals, Value.category]; done) | rfl
set_option maxRecDepth 65536 in
set_option maxHeartbeats 40000000 in
theorem cE4 (l : Launch) (Z : State) (a0 : Array Value) (hw : ∀ d ∈ tables_1, d.before a0 Z = true) (o0 : Addr) (o1 : Addr) (n0 : Nat) (old : Value) (h0 : Heap) (Z0 : n0 ≤ h0.size) (E0 : Exa Z h0 o0 "java/lang/String") (F0 : Fld Z h0 o0 "java/lang/String" "value" "[B" .null) (F1 : Fld Z h0 o0 "java/lang/String" "coder" "B" old) (g0 : n0 ≤ o0) : Own.ConH l Z own_EL (⟨"java/lang/String", "<init>", "([CIILjava/lang/Void;)V"⟩ : MethodName) jdk_42_method_149_code 6 none ({ frames := 1, cells := 4, slots := 8, locals := 12 } : Room) #[(.ref o0), (.ref o1), (.int 0), (.int 0), .null] h0 (fun v h L => v = none ∧ Fr n0 L ∧ Keep h0 h [o0] ∧ own_Txt Z h o0 []) := by
  intro ws
  refine MetFree.of_bodySF (plainFor_of_name pn_0) hisR ?_
  intro p e s m args below meth c s₁ Bd hml0 hP hK
  obtain ⟨rfl, hZ, hh, hH⟩ := hP
  have hx := Bd.exec
  have hby := Bd.bytes
  have D := fun {n : Nat} {i} (d : decode jdk_42_method_149_code n = .ok i) => hb hby d
  have hml : c.maxLocals = 6 := hml0
  have hown : s.vm.findClass "java/lang/String" = some m.cls := findClass_of_methodNamed Bd.named
  have hnm := (name_of_methodNamed Bd.named Bd.method).1
  have X0 : Stand p l e ({ frames := 1, cells := 4, slots := 8, locals := 12 } : Room) (s.setVm s.vm) m #[(.ref o0), (.ref o1), (.int 0), (.int 0), .null] below meth c s₁ [] 0 0 := Stand.of_body Bd
  have e0 : s₁.heap = h0 := by rw [← hh, Bd.state]; rfl
  have D0 : Own.Wd s Z own_EL "java/lang/String" m.cls s.vm h0 := by rw [← hh]; exact Own.Wd.start hZ hown (by rw [hh]; exact hH)
  have K0 : ∀ t, Steps p.tables e below (s₁.setTop (mkF m 0 #[vr o0, vr o1, vi 0, vi 0, .val .null, .unset] [])) t → Steps p.tables e below (s₁.setTop (entryFrame m #[(.ref o0), (.ref o1), (.int 0), (.int 0), .null] 6)) t := fun t k => castTop (ef_4n4 m o0 o1 (0 : Int32) (0 : Int32)) k
  generalize s₁.setTop (entryFrame m #[(.ref o0), (.ref o1), (.int 0), (.int 0), .null] 6) = B0 at K0 ⊢
  show Own.FinH p e below B0 s Z own_EL (({ frames := 1, cells := 4, slots := 8, locals := 12 } : Room)).cells (({ frames := 1, cells := 4, slots := 8, locals := 12 } : Room)).slots (fun v h L => v = none ∧ Fr n0 L ∧ Keep h0 h [o0] ∧ own_Txt Z h o0 [])
  have S0 := Own.safe_null (EL := own_EL) D0.hZ.alike E0 F0
  have K1 : Own.To p e below B0 s₁ (mkF m 1 #[vr o0, vr o1, vi 0, vi 0, .val .null, .unset] [(.ref o0)]) := fun t k => K0 t (by
    refine Own.aloadN X0 hx (D d4_0) rfl rfl ?_
    exact k)
  obtain ⟨T2, X2, e2, st2⟩ := Own.initO (Ls := #[vr o0, vr o1, vi 0, vi 0, .val .null, .unset]) (S := []) (a := o0) X0 hx D0.hZ e0 D0.hown (W_ hw 18 rfl) (W_ hw 19 rfl) (W_ hw 20 rfl) (by rw [hml]; rfl) (D d4_1) (by decide) 0 (Nat.le_of_eq rfl) (by decide)
  have K3 := fun t k => K1 t (st2 t k)
  have K4 : Own.To p e below B0 T2 (mkF m 5 #[vr o0, vr o1, vi 0, vi 0, .val .null, .unset] [(.int 0)]) := fun t k => K3 t (by
    refine Own.iloadN X2 hx (D d4_4) rfl ?_
    exact k)
  have K5 : Own.To p e below B0 T2 (mkF m 9 #[vr o0, vr o1, vi 0, vi 0, .val .null, .unset] [(.ref o0)]) := fun t k => K4 t (by
    refine Own.ifNo X2 hx (D d4_5) ((if0 _ _).trans (teq (by decide : (0 : Int32) = (0 : Int32))).2) ?_
    refine Own.aloadN X2 hx (D d4_8) rfl rfl ?_
    exact k)
  obtain ⟨vm6, T6, h6, a6, b6, k6, X6, e6, E6, D6, sf6, ex6, fv6, fc6, av6, ne6, st6⟩ := Own.ldcT (Ls := #[vr o0, vr o1, vi 0, vi 0, .val .null, .unset]) (S := [(.ref o0)]) X2 hx (own_hEL hw) D0 e2 "" (W_ hw 21 rfl) (own_wS hw) (by decide) [] (by decide) (by rfl) 0 (by decide) (by decide) (by decide) (by decide) (by decide) (D d4_9)
  have S7 := sf6 o0 E0.lt S0
  have X6 : Stand p l e ({ frames := 1, cells := 4, slots := 8, locals := 12 } : Room) (s.setVm vm6) m #[(.ref o0), (.ref o1), (.int 0), (.int 0), .null] below meth c T6 [] 2 4 := X6
  have m8 : h0.size ≤ h6.size := E6.1
  have ca6 : Own.CA Z h6 b6 .byte (([] : List Int32).map fun c => c.toInt8.toInt32) := ⟨k6, by simpa using av6, by simp⟩
  have K9 := fun t k => K5 t (st6 t k)
  obtain ⟨T10, X10, e10, st10⟩ := Own.getF (Ls := #[vr o0, vr o1, vi 0, vi 0, .val .null, .unset]) X6 hx D6.hZ e6 D6.hown (host := "") (Or.inl (W_ hw 27 rfl)) Via.refl fv6 (S := [(.ref o0)]) (D d4_11)
  have K11 := fun t k => K9 t (st10 t k)
  have f12 := (F0.ext E6)
  have f13 := (E0.ext E6)
  obtain ⟨T14, h14, L14, X14, e14, n14, W14, F14, st14⟩ := Own.putF (Ls := #[vr o0, vr o1, vi 0, vi 0, .val .null, .unset]) (S := []) (v := (.ref b6)) X10 hx D6.hZ e10 D6.hown (host := "") (Or.inl (W_ hw 27 rfl)) Via.refl f12 f13 (Or.inr ⟨(W_ hw 23 rfl), rfl, hnm⟩) (W_ hw 8 rfl) (ty := (.array .byte)) (by decide) rfl rfl (D d4_14)
  have N14 : Fr n0 L14 := n14 n0 (Fr.nil _) g0
  have m15 : h6.size ≤ h14.size := Nat.le_of_eq W14.size.symm
  have S16 := Safe.wr W14 S7 D6.H S7
  have D15 := D6.wr W14 S7
  have K17 := fun t k => K11 t (st14 t k)
  have K18 : Own.To p e below B0 T14 (mkF m 18 #[vr o0, vr o1, vi 0, vi 0, .val .null, .unset] [(.ref o0)]) := fun t k => K17 t (by
    refine Own.aloadN X14 hx (D d4_17) rfl rfl ?_
    exact k)
  obtain ⟨vm19, T19, h19, a19, b19, k19, X19, e19, E19, D19, sf19, ex19, fv19, fc19, av19, ne19, st19⟩ := Own.ldcT (Ls := #[vr o0, vr o1, vi 0, vi 0, .val .null, .unset]) (S := [(.ref o0)]) X14 hx (own_hEL hw) D15 e14 "" (W_ hw 21 rfl) (own_wS hw) (by decide) [] (by decide) (by rfl) 0 (by decide) (by decide) (by decide) (by decide) (by decide) (D d4_18)
  have S20 := sf19 o0 (f13.wr W14).lt S16
  have X19 : Stand p l e ({ frames := 1, cells := 4, slots := 8, locals := 12 } : Room) (s.setVm vm19) m #[(.ref o0), (.ref o1), (.int 0), (.int 0), .null] below meth c T19 L14 4 8 := X19
  have m21 : h14.size ≤ h19.size := E19.1
  have ca19 : Own.CA Z h19 b19 .byte (([] : List Int32).map fun c => c.toInt8.toInt32) := ⟨k19, by simpa using av19, by simp⟩
  have K22 := fun t k => K18 t (st19 t k)
  obtain ⟨T23, X23, e23, st23⟩ := Own.getF (Ls := #[vr o0, vr o1, vi 0, vi 0, .val .null, .unset]) X19 hx D19.hZ e19 D19.hown (host := "") (Or.inl (W_ hw 28 rfl)) Via.refl fc19 (S := [(.ref o0)]) (D d4_20)
  have K24 := fun t k => K22 t (st23 t k)
  have f25 := (((F1.ext E6).other W14 (Or.inr (slot_ne (Or.inr (W_ hw 24 rfl)) (Or.inr (W_ hw 23 rfl)) (by decide) (t := .byte) (t' := (.array .byte)) (by decide) (by decide)))).ext E19)
  have f26 := ((f13.wr W14).ext E19)
  obtain ⟨T27, h27, L27, X27, e27, n27, W27, F27, st27⟩ := Own.putF (Ls := #[vr o0, vr o1, vi 0, vi 0, .val .null, .unset]) (S := []) (v := (.int 0)) X23 hx D19.hZ e23 D19.hown (host := "") (Or.inl (W_ hw 28 rfl)) Via.refl f25 f26 (Or.inr ⟨(W_ hw 24 rfl), rfl, hnm⟩) (W_ hw 8 rfl) (ty := .byte) (by decide) rfl rfl (D d4_23)
  have N27 : Fr n0 L27 := n27 n0 N14 g0
  have m28 : h19.size ≤ h27.size := Nat.le_of_eq W27.size.symm
  have S29 := Safe.wr W27 S20 D19.H S20
  have D28 := D19.wr W27 S20
  have K30 := fun t k => K24 t (st27 t k)
  have f31 := (f26.wr W27)
  have f32 := ((F14.ext E19).other W27 (Or.inr (slot_ne (Or.inr (W_ hw 23 rfl)) (Or.inr (W_ hw 24 rfl)) (by decide) (t := (.array .byte)) (t' := .byte) (by decide) (by decide))))
  have f33 := (((ca6.other W14 (Ne.symm (ne6 o0 S7).2)).ext E19).other W27 (Ne.symm (ne6 o0 S7).2))
  have kp := (((((Keep.refl h0 [o0]).ext E6).wr W14 (Or.inl (List.mem_of_getElem? (i := 0) rfl))).ext E19).wr W27 (Or.inl (List.mem_of_getElem? (i := 0) rfl)))
  obtain ⟨kA, vA, -⟩ := f33
  exact Own.finHV X27 hx (own_hEL hw) e27 D28 (BodyLoose.notSynchronized Bd) Bd.returns (D d4_26) K30 (by decide) (by decide) (by rw [e27]; exact ⟨rfl, N27, kp, ⟨_, kA, f31, f32, F27, vA, (fun c hc => absurd hc List.not_mem_nil), by decide⟩⟩)

theorem d3_0 : decode J9 0 = .ok (.aload_n 0, 1) := by decide +kernel
theorem d3_1 : decode J9 1 = .ok (.aload_n 1, 1) := by decide +kernel
theorem d3_2 : decode J9 2 = .ok (.iconst 0, 1) := by decide +kernel
theorem d3_3 : decode J9 3 = .ok (.aload_n 1, 1) := by decide +kernel
theorem d3_4 : decode J9 4 = .ok (.arraylength, 1) := by decide +kernel
theorem d3_5 : decode J9 5 = .ok (.aconst_null, 1) := by decide +kernel
theorem d3_6 : decode J9 6 = .ok (.invokespecial 27, 3) := by decide +kernel
theorem d3_9 : decode J9 9 = .ok (.return_, 1) := by decide +kernel
theorem pd_0 : parseMethodDescriptor "([CIILjava/lang/Void;)V" = some ⟨[(.array .char), .int, .int, (.object "java/lang/Void")], none⟩ := by decide +kernel
theorem ef_3 (m : MethodId) (o0 : Addr) (o1 : Addr) : entryFrame m #[(.ref o0), (.ref o1)] 2 = mkF m 0 #[.val (.ref o0), .val (.ref o1)] [] := by first | (simp [entryFrame, mkF, argsToLocals, Value.category]; done) | rfl
set_option maxRecDepth 65536 in
set_option maxHeartbeats 40000000 in
theorem cE1 (l : Launch) (Z : State) (a0 : Array Value) (hw : ∀ d ∈ tables_1, d.before a0 Z = true) (o0 : Addr) (o1 : Addr) (n0 : Nat) (old : Value) (h0 : Heap) (Z0 : n0 ≤ h0.size) (E0 : Exa Z h0 o0 "java/lang/String") (F0 : Fld Z h0 o0 "java/lang/String" "value" "[B" .null) (F1 : Fld Z h0 o0 "java/lang/String" "coder" "B" old) (g0 : n0 ≤ o0) (VA : Own.CA Z h0 o1 .char []) : Own.ConH l Z own_EL (⟨"java/lang/String", "<init>", "([C)V"⟩ : MethodName) jdk_42_method_3_code 2 none ({ frames := 2, cells := 4, slots := 8, locals := 29 } : Room) #[(.ref o0), (.ref o1)] h0 (fun v h L => v = none ∧ Fr n0 L ∧ Keep h0 h [o0] ∧ own_Txt Z h o0 []) := by
  intro ws
  refine MetFree.of_bodySF (plainFor_of_name pn_0) hisR ?_
  intro p e s m args below meth c s₁ Bd hml0 hP hK
  obtain ⟨rfl, hZ, hh, hH⟩ := hP
  have hx := Bd.exec
  have hby := Bd.bytes
  have D := fun {n : Nat} {i} (d : decode jdk_42_method_3_code n = .ok i) => hb hby d
  have hml : c.maxLocals = 2 := hml0
  have hown : s.vm.findClass "java/lang/String" = some m.cls := findClass_of_methodNamed Bd.named
  have hnm := (name_of_methodNamed Bd.named Bd.method).1
  have X0 : Stand p l e ({ frames := 2, cells := 4, slots := 8, locals := 29 } : Room) (s.setVm s.vm) m #[(.ref o0), (.ref o1)] below meth c s₁ [] 0 0 := Stand.of_body Bd
  have e0 : s₁.heap = h0 := by rw [← hh, Bd.state]; rfl
  have D0 : Own.Wd s Z own_EL "java/lang/String" m.cls s.vm h0 := by rw [← hh]; exact Own.Wd.start hZ hown (by rw [hh]; exact hH)
  have K0 : ∀ t, Steps p.tables e below (s₁.setTop (mkF m 0 #[vr o0, vr o1] [])) t → Steps p.tables e below (s₁.setTop (entryFrame m #[(.ref o0), (.ref o1)] 2)) t := fun t k => castTop (ef_3 m o0 o1) k
  generalize s₁.setTop (entryFrame m #[(.ref o0), (.ref o1)] 2) = B0 at K0 ⊢
  show Own.FinH p e below B0 s Z own_EL (({ frames := 2, cells := 4, slots := 8, locals := 29 } : Room)).cells (({ frames := 2, cells := 4, slots := 8, locals := 29 } : Room)).slots (fun v h L => v = none ∧ Fr n0 L ∧ Keep h0 h [o0] ∧ own_Txt Z h o0 [])
  have K1 : Own.To p e below B0 s₁ (mkF m 4 #[vr o0, vr o1] [(.ref o1), (.int 0), (.ref o1), (.ref o0)]) := fun t k => K0 t (by
    refine Own.aloadN X0 hx (D d3_0) rfl rfl ?_
    refine Own.aloadN X0 hx (D d3_1) rfl rfl ?_
    refine Own.iconst X0 hx 0 (D d3_2) rfl ?_
    refine Own.aloadN X0 hx (D d3_3) rfl rfl ?_
    exact k)
  obtain ⟨cq2, Aq2, lq2⟩ := Own.CA.len VA
  have K3 : Own.To p e below B0 s₁ (mkF m 6 #[vr o0, vr o1] [.null, (.int 0), (.int 0), (.ref o1), (.ref o0)]) := fun t k => K1 t (by
    refine Own.arraylength X0 hx (0 : Int32) D0.hZ e0 Aq2 lq2 (D d3_4) ?_
    refine Own.aconstNull X0 hx (D d3_5) ?_
    exact k)
  obtain ⟨vm4, T4, h4, v4, J4, L4, X4, e4, D4, mm4, n4, hQ4, st4⟩ := Own.callIW (Ls := #[vr o0, vr o1]) X0 hx (own_hEL hw) D0 e0 rfl o0 [(.ref o1), (.int 0), (.int 0), .null] [] (cE4 l Z a0 hw o0 o1 n0 old h0 (Nat.le_trans Z0 (Nat.le_refl _)) E0 F0 F1 g0) (W_ hw 14 rfl) (W_ hw 15 rfl) (W_ hw 9 rfl) (W_ hw 17 rfl) (by decide) 0 (by decide) (by decide) (by decide) (by decide) (szOf hml rfl) (lenOf pd_0 rfl) rfl (Nat.le_of_eq rfl) (D d3_6)
  have X4 : Stand p l e ({ frames := 2, cells := 4, slots := 8, locals := 29 } : Room) (s.setVm vm4) m #[(.ref o0), (.ref o1)] below meth c T4 L4 4 8 := X4
  obtain ⟨rfl, NN4, K4, t4⟩ := hQ4
  have N4 : Fr n0 L4 := n4 n0 (Fr.nil _) NN4
  have m5 : h0.size ≤ h4.size := K4.1
  have K6 := fun t k => K3 t (st4 t k)
  have kp := ((Keep.refl h0 [o0]).trans K4 (allS (Or.inl (List.mem_of_getElem? (i := 0) rfl)) all0))
  exact Own.finHV X4 hx (own_hEL hw) e4 D4 (BodyLoose.notSynchronized Bd) Bd.returns (D d3_9) K6 (by decide) (by decide) (by rw [e4]; exact ⟨rfl, N4, kp, t4⟩)

theorem own_mask (x : Int32) (n : Nat) (y : Int32) (hy : y.toBitVec = BitVec.ofNat 32 (2 ^ n - 1)) (hn : n ≤ 30) : (x &&& y).toInt = x.toInt % 2 ^ n := by
  have hp : 2 ^ n ≤ 2 ^ 30 := Nat.pow_le_pow_right (by omega) hn
  have hp0 : 0 < 2 ^ n := Nat.two_pow_pos n
  have h2 : (x.toBitVec &&& y.toBitVec).toNat = x.toBitVec.toNat % 2 ^ n := by
    rw [BitVec.toNat_and, hy, BitVec.toNat_ofNat, Nat.mod_eq_of_lt (by omega)]
    exact Nat.and_two_pow_sub_one_eq_mod _ n
  have h1 : (x &&& y).toInt = ((x.toBitVec &&& y.toBitVec).toNat : Int) := by
    show (x &&& y).toBitVec.toInt = _
    rw [Int32.toBitVec_and]
    have : (x.toBitVec &&& y.toBitVec).toNat < 2 ^ n := by rw [h2]; exact Nat.mod_lt _ hp0
    rw [BitVec.toInt_eq_toNat_cond, if_pos (by omega)]
  have h3 : x.toInt = x.toBitVec.toInt := rfl
  have h4 : ((2 : Int) ^ n) = ((2 ^ n : Nat) : Int) := by simp
  have h5 : (2 ^ 32 : Nat) % 2 ^ n = 0 := Nat.mod_eq_zero_of_dvd (Nat.pow_dvd_pow 2 (by omega))
  rw [h1, h2, h3, BitVec.toInt_eq_toNat_cond, h4]
  split
  · exact Int.natCast_emod _ _
  · rw [Int.natCast_emod, Int.sub_emod]
    have : ((2 ^ 32 : Nat) : Int) % ((2 ^ n : Nat) : Int) = 0 := by rw [← Int.natCast_emod, h5]; rfl
    rw [this, Int.sub_zero, Int.emod_emod_of_dvd _ (Int.dvd_refl _)]
theorem own_nat {x : Int32} {n : Nat} (h0 : 0 ≤ x.toInt) (h1 : x.toInt < n) (hn : n < 2 ^ 31) : ∃ i : Nat, i < n ∧ x = Int32.ofNat i := by
  refine ⟨x.toInt.toNat, by omega, ?_⟩
  rw [← Int32.toInt_inj, Int32.toInt_ofNat_small (by omega)]; omega
theorem own_rem (k u : Int32) (hu : 0 < u.toInt) : 0 ≤ ((k &&& 2147483647) % u).toInt ∧ ((k &&& 2147483647) % u).toInt < u.toInt := by
  have h0 : 0 ≤ (k &&& 2147483647).toInt := by
    have : ¬ (k &&& 2147483647) < 0 := by
      rw [Jvm.Free.XT.and_neg32]; exact fun q => absurd q.2 (by decide)
    rw [Int32.lt_iff_toInt_lt] at this
    exact Int.not_lt.mp this
  rw [Int32.toInt_mod]
  exact ⟨Int.tmod_nonneg _ h0, Int.tmod_lt_of_pos _ hu⟩

theorem own_nar {x : Int32} (h0 : 0 ≤ x.toInt) (h1 : x.toInt < 65536) : nar .char x = x := by
  show x.toUInt32.toUInt16.toUInt32.toInt32 = x
  rw [← Int32.toBitVec_inj]
  show (x.toBitVec.setWidth 16).setWidth 32 = x.toBitVec
  have h3 : x.toInt = x.toBitVec.toInt := rfl
  rw [h3, BitVec.toInt_eq_toNat_cond] at h0 h1
  have h4 := x.toBitVec.isLt
  apply BitVec.eq_of_toNat_eq
  rw [BitVec.toNat_setWidth, BitVec.toNat_setWidth]
  split at h0
  · rw [if_pos (by assumption)] at h1; omega
  · omega
theorem own_lt0 {x : Int32} (h0 : 0 ≤ x.toInt) (h1 : x.toInt ≤ 255) : ¬ x < 0 ∧ ¬ (255 : Int32) < x := by
  rw [Int32.lt_iff_toInt_lt, Int32.lt_iff_toInt_lt, show (0 : Int32).toInt = 0 by decide, show (255 : Int32).toInt = 255 by decide]; omega

def own_ok (c : Int32) : Prop := ¬ c < 0 ∧ ¬ (255 : Int32) < c
theorem own_narb {c : Int32} (h : own_ok c) : nar .char c = c := by
  obtain ⟨h1, h2⟩ := h
  rw [Int32.lt_iff_toInt_lt, show (0 : Int32).toInt = 0 by decide] at h1
  rw [Int32.lt_iff_toInt_lt, show (255 : Int32).toInt = 255 by decide] at h2
  exact own_nar (by omega) (by omega)
theorem own_okn {c : Int32} : own_ok c ↔ c.toBitVec.toNat < 256 := by
  unfold own_ok
  rw [Int32.lt_iff_toInt_lt, Int32.lt_iff_toInt_lt, show (0 : Int32).toInt = 0 by decide, show (255 : Int32).toInt = 255 by decide]
  have h3 : c.toInt = c.toBitVec.toInt := rfl
  have h4 := c.toBitVec.isLt
  rw [h3, BitVec.toInt_eq_toNat_cond]
  split <;> omega
theorem own_b8i (x : Int32) : own_ok (x &&& 255) := by
  rw [own_okn, Int32.toBitVec_and, BitVec.toNat_and]
  exact Nat.lt_of_le_of_lt Nat.and_le_right (by decide)
theorem own_x8 {a b : Int32} (h : own_ok a) (g : own_ok b) : own_ok (a ^^^ b) := by
  rw [own_okn] at h g ⊢
  rw [Int32.toBitVec_xor, BitVec.toNat_xor]
  exact Nat.xor_lt_two_pow (n := 8) h g
theorem own_c8 {x : Int32} (h : own_ok x) : x.toUInt32.toUInt16.toUInt32.toInt32 = x := own_narb h
theorem own_okc {x : Int32} (h : own_ok x) : own_ok (x.toUInt32.toUInt16.toUInt32.toInt32) := by rw [own_c8 h]; exact h

def own_B (cs : List Int32) : List Int32 := cs.map StrChars.lo8 ++ List.replicate (16 - cs.length) 0
def own_SB (Z : State) (h : Heap) (o v : Addr) (cs : List Int32) : Prop := Exa Z h o "java/lang/StringBuilder" ∧ Fld Z h o "java/lang/AbstractStringBuilder" "value" "[B" (.ref v) ∧ Fld Z h o "java/lang/AbstractStringBuilder" "coder" "B" (.int 0) ∧ Fld Z h o "java/lang/AbstractStringBuilder" "count" "I" (.int (Int32.ofNat cs.length)) ∧ Own.CA Z h v .byte (own_B cs) ∧ o ≠ v ∧ (∀ c ∈ cs, ¬ c < 0 ∧ ¬ (255 : Int32) < c) ∧ cs.length ≤ 16
theorem own_SB.ext {Z : State} {h h' : Heap} {o v : Addr} {cs : List Int32} (F : own_SB Z h o v cs) (E : Ext h h') : own_SB Z h' o v cs := ⟨F.1.ext E, F.2.1.ext E, F.2.2.1.ext E, F.2.2.2.1.ext E, F.2.2.2.2.1.ext E, F.2.2.2.2.2⟩
theorem own_SB.exa {Z : State} {h : Heap} {o v : Addr} {cs : List Int32} (F : own_SB Z h o v cs) : Exa Z h o "java/lang/StringBuilder" := F.1
theorem own_SB.arr {Z : State} {h : Heap} {o v : Addr} {cs : List Int32} (F : own_SB Z h o v cs) : Own.CA Z h v .byte (own_B cs) := F.2.2.2.2.1
theorem own_B_len {cs : List Int32} (h : cs.length ≤ 16) : (own_B cs).length = 16 := by
  unfold own_B; rw [List.length_append, List.length_map, List.length_replicate]; omega
theorem own_lo_len (cs : List Int32) : (cs.map StrChars.lo8).length = cs.length := List.length_map _
theorem own_B_app {cs ds : List Int32} (h : cs.length + ds.length ≤ 16) : (own_B cs).take cs.length ++ ((ds.map StrChars.lo8).drop 0).take ds.length ++ (own_B cs).drop (cs.length + ds.length) = own_B (cs ++ ds) := by
  unfold own_B
  have e1 : (cs.map StrChars.lo8 ++ List.replicate (16 - cs.length) (0 : Int32)).take cs.length = cs.map StrChars.lo8 := by
    rw [List.take_append_of_le_length (by rw [List.length_map]; exact Nat.le_refl _), List.take_of_length_le (by rw [List.length_map]; exact Nat.le_refl _)]
  have e2 : ((ds.map StrChars.lo8).drop 0).take ds.length = ds.map StrChars.lo8 := by
    rw [List.drop_zero, List.take_of_length_le (by rw [List.length_map]; exact Nat.le_refl _)]
  have e3 : (cs.map StrChars.lo8 ++ List.replicate (16 - cs.length) (0 : Int32)).drop (cs.length + ds.length) = List.replicate (16 - (cs ++ ds).length) 0 := by
    rw [List.drop_append, List.drop_eq_nil_of_le (by rw [List.length_map]; omega), List.nil_append, List.length_map, List.drop_replicate, List.length_append]
    congr 1; omega
  rw [e1, e2, e3, List.map_append]
theorem own_B_copy {cs : List Int32} (h : cs.length ≤ 16) : (List.replicate cs.length (0 : Int32)).take 0 ++ ((own_B cs).drop 0).take cs.length ++ (List.replicate cs.length (0 : Int32)).drop (0 + cs.length) = cs.map StrChars.lo8 := by
  unfold own_B
  rw [List.take_zero, List.nil_append, List.drop_zero, List.take_append_of_le_length (by rw [List.length_map]; exact Nat.le_refl _), List.take_of_length_le (by rw [List.length_map]; exact Nat.le_refl _), List.drop_eq_nil_of_le (by rw [List.length_replicate]; omega), List.append_nil]
theorem own_toN {n : Nat} (h : n < 2 ^ 31) : (Int32.ofNat n).toInt = n := Int32.toInt_ofNat_small h
theorem own_cap {n k : Nat} (h : n + k ≤ 16) : ¬ (0 : Int32) < ((Int32.ofNat n + Int32.ofNat k) - (16 : Int32)) := by
  rw [← Int32.ofNat_add, Int32.lt_iff_toInt_lt, Int32.toInt_sub, own_toN (by omega), show (0 : Int32).toInt = 0 by decide, show (16 : Int32).toInt = 16 by decide, Int.bmod_eq_of_le (by omega) (by omega)]; omega
theorem own_cap1 : ¬ (0 : Int32) < (1 : Int32) - (16 : Int32) := by decide
theorem own_shl0 (x : Int32) : (x <<< ((0 : Int32) &&& 31)) = x := by
  rw [← Int32.toBitVec_inj]; simp
theorem own_nneg {n : Nat} (h : n ≤ 16) : ¬ Int32.ofNat n < 0 := Int32.ofNat_not_neg (by omega)
theorem own_n16 {n : Nat} (h : n < 16) : ¬ Int32.ofNat n = (16 : Int32) := fun q => by
  have := congrArg Int32.toInt q
  rw [own_toN (by omega), show (16 : Int32).toInt = 16 by decide] at this; omega
theorem own_nb8 (c : Int32) : nar .byte (c.toInt8.toInt32) = StrChars.lo8 c := by
  show (c.toInt8.toInt32).toInt8.toInt32 = c.toInt8.toInt32
  simp
theorem own_Txt.opn {Z : State} {h : Heap} {x : Addr} {cs : List Int32} (F : own_Txt Z h x cs) : ∃ t, Exa Z h x "java/lang/String" ∧ Fld Z h x "java/lang/String" "value" "[B" (.ref t) ∧ Fld Z h x "java/lang/String" "coder" "B" (.int 0) ∧ Own.CA Z h t .byte (cs.map StrChars.lo8) ∧ (∀ c ∈ cs, ¬ c < 0 ∧ ¬ (255 : Int32) < c) ∧ cs.length ≤ 4000 := by
  obtain ⟨t, kb, f1, f2, f3, f4, f5, f6⟩ := F
  exact ⟨t, f1, f2, f3, ⟨kb, by rw [List.length_map]; exact f4, by rw [List.length_map]; omega⟩, f5, f6⟩
theorem own_Txt.mk' {Z : State} {h : Heap} {x t : Addr} {cs : List Int32} (f1 : Exa Z h x "java/lang/String") (f2 : Fld Z h x "java/lang/String" "value" "[B" (.ref t)) (f3 : Fld Z h x "java/lang/String" "coder" "B" (.int 0)) (f4 : Own.CA Z h t .byte (cs.map StrChars.lo8)) (f5 : ∀ c ∈ cs, ¬ c < 0 ∧ ¬ (255 : Int32) < c) (f6 : cs.length ≤ 4000) : own_Txt Z h x cs := by
  obtain ⟨k, V, -⟩ := f4
  rw [List.length_map] at V
  exact ⟨t, k, f1, f2, f3, V, f5, f6⟩
theorem own_lo256 : ∀ k, k < 256 → (StrChars.lo8 (Int32.ofNat k)) &&& (255 : Int32) = Int32.ofNat k := by decide +kernel
theorem own_lo8c {c : Int32} (h : own_ok c) : nar .char (((StrChars.lo8 c) &&& (255 : Int32)).toUInt32.toUInt16.toUInt32.toInt32) = c := by
  have e : (StrChars.lo8 c) &&& (255 : Int32) = c := by
    obtain ⟨h1, h2⟩ := h
    rw [Int32.lt_iff_toInt_lt, show (0 : Int32).toInt = 0 by decide] at h1
    rw [Int32.lt_iff_toInt_lt, show (255 : Int32).toInt = 255 by decide] at h2
    obtain ⟨k, hk, rfl⟩ := own_nat (x := c) (n := 256) (by omega) (by omega) (by decide)
    exact own_lo256 k hk
  rw [e]
  show nar .char (nar .char c) = c
  rw [own_narb h, own_narb h]

theorem d17_0 : decode J25 0 = .ok (.aload_n 0, 1) := by decide +kernel
theorem d17_1 : decode J25 1 = .ok (.invokespecial 3, 3) := by decide +kernel
theorem d17_4 : decode J25 4 = .ok (.getstatic 18, 3) := by decide +kernel
theorem d17_7 : decode J25 7 = .ok (.ifCond .eq 18, 3) := by decide +kernel
theorem d17_10 : decode J25 10 = .ok (.aload_n 0, 1) := by decide +kernel
theorem d17_11 : decode J25 11 = .ok (.iload_n 1, 1) := by decide +kernel
theorem d17_12 : decode J25 12 = .ok (.newarray .byte, 2) := by decide +kernel
theorem d17_14 : decode J25 14 = .ok (.putfield 15, 3) := by decide +kernel
theorem d17_17 : decode J25 17 = .ok (.aload_n 0, 1) := by decide +kernel
theorem d17_18 : decode J25 18 = .ok (.iconst 0, 1) := by decide +kernel
theorem d17_19 : decode J25 19 = .ok (.putfield 22, 3) := by decide +kernel
theorem d17_22 : decode J25 22 = .ok (.goto 16, 3) := by decide +kernel
theorem d17_38 : decode J25 38 = .ok (.return_, 1) := by decide +kernel
theorem pn_1 : plainName "java/lang/AbstractStringBuilder" = true := by first | (simp [plainName, overriddenIn]; done) | decide +kernel
theorem ef_17 (m : MethodId) (o0 : Addr) (p1 : Int32) : entryFrame m #[(.ref o0), (.int p1)] 2 = mkF m 0 #[.val (.ref o0), .val (.int p1)] [] := by first | (simp [entryFrame, mkF, argsToLocals, Value.category]; done) | rfl
set_option maxRecDepth 65536 in
set_option maxHeartbeats 40000000 in
theorem cASBI (l : Launch) (Z : State) (a0 : Array Value) (hw : ∀ d ∈ tables_1, d.before a0 Z = true) (o0 : Addr) (n0 : Nat) (G1 : Int32) (h0 : Heap) (Z0 : n0 ≤ h0.size) (E0 : Exa Z h0 o0 "java/lang/StringBuilder") (F0 : Fld Z h0 o0 "java/lang/AbstractStringBuilder" "value" "[B" .null) (F1 : Fld Z h0 o0 "java/lang/AbstractStringBuilder" "coder" "B" (.int 0)) (F2 : Fld Z h0 o0 "java/lang/AbstractStringBuilder" "count" "I" (.int 0)) (g0 : n0 ≤ o0) (SC : Sta Z h0 "java/lang/String" "COMPACT_STRINGS" "Z" (.int G1)) (hG1 : ¬ G1 = 0) : Own.Con l Z (⟨"java/lang/AbstractStringBuilder", "<init>", "(I)V"⟩ : MethodName) jdk_68_method_2_code 2 none ({ frames := 1, cells := 1, slots := 16, locals := 12 } : Room) #[(.ref o0), (.int 16)] h0 (fun v h L => v = none ∧ Fr n0 L ∧ Keep h0 h [o0] ∧ ∃ b, h0.size ≤ b ∧ own_SB Z h o0 b []) := by
  intro ws
  refine MetFree.of_bodySF (plainFor_of_name pn_1) hisR ?_
  intro p e s m args below meth c s₁ Bd hml0 hP hK
  obtain ⟨rfl, hZ, hh⟩ := hP
  have hx := Bd.exec
  have hby := Bd.bytes
  have D := fun {n : Nat} {i} (d : decode jdk_68_method_2_code n = .ok i) => hb hby d
  have hml : c.maxLocals = 2 := hml0
  have hown : s.vm.findClass "java/lang/AbstractStringBuilder" = some m.cls := findClass_of_methodNamed Bd.named
  have hnm := (name_of_methodNamed Bd.named Bd.method).1
  have X0 : Stand p l e ({ frames := 1, cells := 1, slots := 16, locals := 12 } : Room) s m #[(.ref o0), (.int 16)] below meth c s₁ [] 0 0 := Stand.of_body Bd
  have e0 : s₁.heap = h0 := by rw [← hh, Bd.state]; rfl
  have K0 : ∀ t, Steps p.tables e below (s₁.setTop (mkF m 0 #[vr o0, vi 16] [])) t → Steps p.tables e below (s₁.setTop (entryFrame m #[(.ref o0), (.int 16)] 2)) t := fun t k => castTop (ef_17 m o0 (16 : Int32)) k
  generalize s₁.setTop (entryFrame m #[(.ref o0), (.int 16)] 2) = B0 at K0 ⊢
  show Own.Fin p e below B0 s (({ frames := 1, cells := 1, slots := 16, locals := 12 } : Room)).cells (({ frames := 1, cells := 1, slots := 16, locals := 12 } : Room)).slots (fun v h L => v = none ∧ Fr n0 L ∧ Keep h0 h [o0] ∧ ∃ b, h0.size ≤ b ∧ own_SB Z h o0 b [])
  have K1 : Own.To p e below B0 s₁ (mkF m 1 #[vr o0, vi 16] [(.ref o0)]) := fun t k => K0 t (by
    refine Own.aloadN X0 hx (D d17_0) rfl rfl ?_
    exact k)
  obtain ⟨T2, X2, e2, st2⟩ := Own.initO (Ls := #[vr o0, vi 16]) (S := []) (a := o0) X0 hx hZ e0 hown (W_ hw 100 rfl) (W_ hw 19 rfl) (W_ hw 20 rfl) (by rw [hml]; rfl) (D d17_1) (by decide) 0 (Nat.le_of_eq rfl) (by decide)
  have K3 := fun t k => K1 t (st2 t k)
  obtain ⟨T4, X4, e4, st4⟩ := Own.getS (Ls := #[vr o0, vi 16]) X2 hx hZ e2 hown (host := "") (Or.inl (W_ hw 101 rfl)) Via.refl SC (S := []) (D d17_4)
  have K5 := fun t k => K3 t (st4 t k)
  have K6 : Own.To p e below B0 T4 (mkF m 12 #[vr o0, vi 16] [(.int 16), (.ref o0)]) := fun t k => K5 t (by
    refine Own.ifNo X4 hx (D d17_7) ((if0 _ _).trans (feq (hG1 : ¬ (G1 = (0 : Int32)))).1) ?_
    refine Own.aloadN X4 hx (D d17_10) rfl rfl ?_
    refine Own.iloadN X4 hx (D d17_11) rfl ?_
    exact k)
  obtain ⟨T7, h7, b7, X7, e7, E7, g7, V7, st7⟩ := Own.newA (Ls := #[vr o0, vi 16]) (S := [(.ref o0)]) (z := (16 : Int32)) X4 hx hZ e4 .byte rfl rfl (W_ hw 22 rfl) 16 rfl (by decide) (D d17_12) (by decide) (by decide)
  have le_b7 : h0.size ≤ b7 := Nat.le_of_eq g7.symm
  have X7 : Stand p l e ({ frames := 1, cells := 1, slots := 16, locals := 12 } : Room) s m #[(.ref o0), (.int 16)] below meth c T7 [] 1 16 := X7
  have V7 : Own.CA Z h7 b7 .byte [(0 : Int32), (0 : Int32), (0 : Int32), (0 : Int32), (0 : Int32), (0 : Int32), (0 : Int32), (0 : Int32), (0 : Int32), (0 : Int32), (0 : Int32), (0 : Int32), (0 : Int32), (0 : Int32), (0 : Int32), (0 : Int32)] := V7
  have m8 : h0.size ≤ h7.size := E7.1
  have K9 := fun t k => K6 t (st7 t k)
  have f10 := (F0.ext E7)
  have f11 := (E0.ext E7)
  obtain ⟨T12, h12, L12, X12, e12, n12, W12, F12, st12⟩ := Own.putF (Ls := #[vr o0, vi 16]) (S := []) (v := (.ref b7)) X7 hx hZ e7 hown (host := "") (Or.inl (W_ hw 102 rfl)) Via.refl f10 f11 (Or.inl (W_ hw 103 rfl)) (W_ hw 89 rfl) (ty := (.array .byte)) (by decide) rfl rfl (D d17_14)
  have N12 : Fr n0 L12 := n12 n0 (Fr.nil _) g0
  have m13 : h7.size ≤ h12.size := Nat.le_of_eq W12.size.symm
  have K14 := fun t k => K9 t (st12 t k)
  have K15 : Own.To p e below B0 T12 (mkF m 19 #[vr o0, vi 16] [(.int 0), (.ref o0)]) := fun t k => K14 t (by
    refine Own.aloadN X12 hx (D d17_17) rfl rfl ?_
    refine Own.iconst X12 hx 0 (D d17_18) rfl ?_
    exact k)
  have f16 := ((F1.ext E7).other W12 (Or.inr (slot_ne (Or.inl (W_ hw 105 rfl)) (Or.inl (W_ hw 103 rfl)) (by decide) (t := .byte) (t' := (.array .byte)) (by decide) (by decide))))
  have f17 := (f11.wr W12)
  obtain ⟨T18, h18, L18, X18, e18, n18, W18, F18, st18⟩ := Own.putF (Ls := #[vr o0, vi 16]) (S := []) (v := (.int 0)) X12 hx hZ e12 hown (host := "") (Or.inl (W_ hw 104 rfl)) Via.refl f16 f17 (Or.inl (W_ hw 105 rfl)) (W_ hw 89 rfl) (ty := .byte) (by decide) rfl rfl (D d17_19)
  have N18 : Fr n0 L18 := n18 n0 N12 g0
  have m19 : h12.size ≤ h18.size := Nat.le_of_eq W18.size.symm
  have K20 := fun t k => K15 t (st18 t k)
  have K21 : Own.To p e below B0 T18 (mkF m 38 #[vr o0, vi 16] []) := fun t k => K20 t (by
    refine Own.goto X18 hx 38 (D d17_22) (by decide) (by decide) ?_
    exact k)
  have f22 := (f17.wr W18)
  have f23 := (F12.other W18 (Or.inr (slot_ne (Or.inl (W_ hw 103 rfl)) (Or.inl (W_ hw 105 rfl)) (by decide) (t := (.array .byte)) (t' := .byte) (by decide) (by decide))))
  have f24 := (((F2.ext E7).other W12 (Or.inr (slot_ne (Or.inl (W_ hw 117 rfl)) (Or.inl (W_ hw 103 rfl)) (by decide) (t := .int) (t' := (.array .byte)) (by decide) (by decide)))).other W18 (Or.inr (slot_ne (Or.inl (W_ hw 117 rfl)) (Or.inl (W_ hw 105 rfl)) (by decide) (t := .int) (t' := .byte) (by decide) (by decide))))
  have f25 := ((V7.other W12 (Ne.symm (Nat.ne_of_lt (Nat.lt_of_lt_of_le E0.lt le_b7)))).other W18 (Ne.symm (Nat.ne_of_lt (Nat.lt_of_lt_of_le E0.lt le_b7))))
  have kp := ((((Keep.refl h0 [o0]).ext E7).wr W12 (Or.inl (List.mem_of_getElem? (i := 0) rfl))).wr W18 (Or.inl (List.mem_of_getElem? (i := 0) rfl)))
  exact Own.finV X18 hx (BodyLoose.notSynchronized Bd) Bd.returns (D d17_38) K21 (by decide) (by decide) (by rw [e18]; exact ⟨rfl, N18, kp, b7, le_b7, f22, f23, F18, f24, f25, (Nat.ne_of_lt (Nat.lt_of_lt_of_le E0.lt le_b7)), fun c hc => absurd hc List.not_mem_nil, by decide⟩)

theorem d16_0 : decode J20 0 = .ok (.aload_n 0, 1) := by decide +kernel
theorem d16_1 : decode J20 1 = .ok (.bipush 16, 2) := by decide +kernel
theorem d16_3 : decode J20 3 = .ok (.invokespecial 1, 3) := by decide +kernel
theorem d16_6 : decode J20 6 = .ok (.return_, 1) := by decide +kernel
theorem pn_2 : plainName "java/lang/StringBuilder" = true := by first | (simp [plainName, overriddenIn]; done) | decide +kernel
theorem pd_1 : parseMethodDescriptor "(I)V" = some ⟨[.int], none⟩ := by decide +kernel
theorem ef_16 (m : MethodId) (o0 : Addr) : entryFrame m #[(.ref o0)] 1 = mkF m 0 #[.val (.ref o0)] [] := by first | (simp [entryFrame, mkF, argsToLocals, Value.category]; done) | rfl
set_option maxRecDepth 65536 in
set_option maxHeartbeats 40000000 in
theorem cSBI (l : Launch) (Z : State) (a0 : Array Value) (hw : ∀ d ∈ tables_1, d.before a0 Z = true) (o0 : Addr) (n0 : Nat) (G1 : Int32) (h0 : Heap) (Z0 : n0 ≤ h0.size) (E0 : Exa Z h0 o0 "java/lang/StringBuilder") (F0 : Fld Z h0 o0 "java/lang/AbstractStringBuilder" "value" "[B" .null) (F1 : Fld Z h0 o0 "java/lang/AbstractStringBuilder" "coder" "B" (.int 0)) (F2 : Fld Z h0 o0 "java/lang/AbstractStringBuilder" "count" "I" (.int 0)) (g0 : n0 ≤ o0) (SC : Sta Z h0 "java/lang/String" "COMPACT_STRINGS" "Z" (.int G1)) (hG1 : ¬ G1 = 0) : Own.Con l Z (⟨"java/lang/StringBuilder", "<init>", "()V"⟩ : MethodName) jdk_67_method_1_code 1 none ({ frames := 2, cells := 1, slots := 16, locals := 25 } : Room) #[(.ref o0)] h0 (fun v h L => v = none ∧ Fr n0 L ∧ Keep h0 h [o0] ∧ ∃ b, h0.size ≤ b ∧ own_SB Z h o0 b []) := by
  intro ws
  refine MetFree.of_bodySF (plainFor_of_name pn_2) hisR ?_
  intro p e s m args below meth c s₁ Bd hml0 hP hK
  obtain ⟨rfl, hZ, hh⟩ := hP
  have hx := Bd.exec
  have hby := Bd.bytes
  have D := fun {n : Nat} {i} (d : decode jdk_67_method_1_code n = .ok i) => hb hby d
  have hml : c.maxLocals = 1 := hml0
  have hown : s.vm.findClass "java/lang/StringBuilder" = some m.cls := findClass_of_methodNamed Bd.named
  have hnm := (name_of_methodNamed Bd.named Bd.method).1
  have X0 : Stand p l e ({ frames := 2, cells := 1, slots := 16, locals := 25 } : Room) s m #[(.ref o0)] below meth c s₁ [] 0 0 := Stand.of_body Bd
  have e0 : s₁.heap = h0 := by rw [← hh, Bd.state]; rfl
  have K0 : ∀ t, Steps p.tables e below (s₁.setTop (mkF m 0 #[vr o0] [])) t → Steps p.tables e below (s₁.setTop (entryFrame m #[(.ref o0)] 1)) t := fun t k => castTop (ef_16 m o0) k
  generalize s₁.setTop (entryFrame m #[(.ref o0)] 1) = B0 at K0 ⊢
  show Own.Fin p e below B0 s (({ frames := 2, cells := 1, slots := 16, locals := 25 } : Room)).cells (({ frames := 2, cells := 1, slots := 16, locals := 25 } : Room)).slots (fun v h L => v = none ∧ Fr n0 L ∧ Keep h0 h [o0] ∧ ∃ b, h0.size ≤ b ∧ own_SB Z h o0 b [])
  have K1 : Own.To p e below B0 s₁ (mkF m 3 #[vr o0] [(.int 16), (.ref o0)]) := fun t k => K0 t (by
    refine Own.aloadN X0 hx (D d16_0) rfl rfl ?_
    refine Own.bipush X0 hx 16 (D d16_1) rfl ?_
    exact k)
  obtain ⟨T2, h2, v2, J2, L2, X2, e2, n2, hQ2, st2⟩ := Own.callI (Ls := #[vr o0]) X0 hx hZ e0 rfl o0 [(.int 16)] [] (cASBI l Z a0 hw o0 n0 G1 h0 (Nat.le_trans Z0 (Nat.le_refl _)) E0 F0 F1 F2 g0 SC hG1) hown (W_ hw 94 rfl) (W_ hw 95 rfl) (W_ hw 98 rfl) (W_ hw 99 rfl) (by decide) 0 (by decide) (by decide) (by decide) (by decide) (szOf hml rfl) (lenOf pd_1 rfl) rfl (Nat.le_of_eq rfl) (D d16_3)
  have X2 : Stand p l e ({ frames := 2, cells := 1, slots := 16, locals := 25 } : Room) s m #[(.ref o0)] below meth c T2 L2 1 16 := X2
  obtain ⟨rfl, NN2, K2, bv2, le2, B2⟩ := hQ2
  have N2 : Fr n0 L2 := n2 n0 (Fr.nil _) NN2
  have m3 : h0.size ≤ h2.size := K2.1
  have K4 := fun t k => K1 t (st2 t k)
  have kp := ((Keep.refl h0 [o0]).trans K2 (allS (Or.inl (List.mem_of_getElem? (i := 0) rfl)) all0))
  exact Own.finV X2 hx (BodyLoose.notSynchronized Bd) Bd.returns (D d16_6) K4 (by decide) (by decide) (by rw [e2]; exact ⟨rfl, N2, kp, bv2, le2, B2⟩)

theorem d20_0 : decode J32 0 = .ok (.aload_n 0, 1) := by decide +kernel
theorem d20_1 : decode J32 1 = .ok (.getfield 15, 3) := by decide +kernel
theorem d20_4 : decode J32 4 = .ok (.arraylength, 1) := by decide +kernel
theorem d20_5 : decode J32 5 = .ok (.aload_n 0, 1) := by decide +kernel
theorem d20_6 : decode J32 6 = .ok (.getfield 22, 3) := by decide +kernel
theorem d20_9 : decode J32 9 = .ok (.ishr, 1) := by decide +kernel
theorem d20_10 : decode J32 10 = .ok (.istore_n 2, 1) := by decide +kernel
theorem d20_11 : decode J32 11 = .ok (.iload_n 1, 1) := by decide +kernel
theorem d20_12 : decode J32 12 = .ok (.iload_n 2, 1) := by decide +kernel
theorem d20_13 : decode J32 13 = .ok (.isub, 1) := by decide +kernel
theorem d20_14 : decode J32 14 = .ok (.ifCond .le 24, 3) := by decide +kernel
theorem d20_38 : decode J32 38 = .ok (.return_, 1) := by decide +kernel
theorem ef_20 (m : MethodId) (o0 : Addr) (p1 : Int32) : entryFrame m #[(.ref o0), (.int p1)] 3 = mkF m 0 #[.val (.ref o0), .val (.int p1), .unset] [] := by first | (simp [entryFrame, mkF, argsToLocals, Value.category]; done) | rfl
set_option maxRecDepth 65536 in
set_option maxHeartbeats 40000000 in
theorem cENS (l : Launch) (Z : State) (a0 : Array Value) (hw : ∀ d ∈ tables_1, d.before a0 Z = true) (o0 : Addr) (p1 : Int32) (v0 : Addr) (cs : List Int32) (h0 : Heap) (SBX : own_SB Z h0 o0 v0 cs) (hcap : ¬ (0 : Int32) < (p1 - (16 : Int32))) : Own.Con l Z (⟨"java/lang/AbstractStringBuilder", "ensureCapacityInternal", "(I)V"⟩ : MethodName) jdk_68_method_9_code 3 none ({ frames := 0, cells := 0, slots := 0, locals := 0 } : Room) #[(.ref o0), (.int p1)] h0 (fun v h L => v = none ∧ L = [] ∧ h = h0) := by
  intro ws
  refine MetFree.of_bodySF (plainFor_of_name pn_1) hisR ?_
  intro p e s m args below meth c s₁ Bd hml0 hP hK
  obtain ⟨rfl, hZ, hh⟩ := hP
  have hx := Bd.exec
  have hby := Bd.bytes
  have D := fun {n : Nat} {i} (d : decode jdk_68_method_9_code n = .ok i) => hb hby d
  have hml : c.maxLocals = 3 := hml0
  have hown : s.vm.findClass "java/lang/AbstractStringBuilder" = some m.cls := findClass_of_methodNamed Bd.named
  have hnm := (name_of_methodNamed Bd.named Bd.method).1
  have X0 : Stand p l e ({ frames := 0, cells := 0, slots := 0, locals := 0 } : Room) s m #[(.ref o0), (.int p1)] below meth c s₁ [] 0 0 := Stand.of_body Bd
  have e0 : s₁.heap = h0 := by rw [← hh, Bd.state]; rfl
  have K0 : ∀ t, Steps p.tables e below (s₁.setTop (mkF m 0 #[vr o0, vi p1, .unset] [])) t → Steps p.tables e below (s₁.setTop (entryFrame m #[(.ref o0), (.int p1)] 3)) t := fun t k => castTop (ef_20 m o0 p1) k
  generalize s₁.setTop (entryFrame m #[(.ref o0), (.int p1)] 3) = B0 at K0 ⊢
  show Own.Fin p e below B0 s (({ frames := 0, cells := 0, slots := 0, locals := 0 } : Room)).cells (({ frames := 0, cells := 0, slots := 0, locals := 0 } : Room)).slots (fun v h L => v = none ∧ L = [] ∧ h = h0)
  obtain ⟨E0, F0, F1, F2, A0, hne, hok, hcs⟩ := SBX
  have K1 : Own.To p e below B0 s₁ (mkF m 1 #[vr o0, vi p1, .unset] [(.ref o0)]) := fun t k => K0 t (by
    refine Own.aloadN X0 hx (D d20_0) rfl rfl ?_
    exact k)
  obtain ⟨T2, X2, e2, st2⟩ := Own.getF (Ls := #[vr o0, vi p1, .unset]) X0 hx hZ e0 hown (host := "") (Or.inl (W_ hw 102 rfl)) Via.refl F0 (S := []) (D d20_1)
  have K3 := fun t k => K1 t (st2 t k)
  obtain ⟨cq4, Aq4, lq4⟩ := Own.CA.len A0
  rw [own_B_len hcs] at lq4
  have K5 : Own.To p e below B0 T2 (mkF m 6 #[vr o0, vi p1, .unset] [(.ref o0), (.int 16)]) := fun t k => K3 t (by
    refine Own.arraylength X2 hx (16 : Int32) hZ e2 Aq4 lq4 (D d20_4) ?_
    refine Own.aloadN X2 hx (D d20_5) rfl rfl ?_
    exact k)
  obtain ⟨T6, X6, e6, st6⟩ := Own.getF (Ls := #[vr o0, vi p1, .unset]) X2 hx hZ e2 hown (host := "") (Or.inl (W_ hw 104 rfl)) Via.refl F1 (S := [(.int 16)]) (D d20_6)
  have K7 := fun t k => K5 t (st6 t k)
  have K8 : Own.To p e below B0 T6 (mkF m 14 #[vr o0, vi p1, vi 16] [(.int (p1 - (16 : Int32)))]) := fun t k => K7 t (by
    refine Own.ishr X6 hx (D d20_9) ?_
    refine Own.istoreN X6 hx #[vr o0, vi p1, vi 16] (D d20_10) rfl ?_
    refine Own.iloadN X6 hx (D d20_11) rfl ?_
    refine Own.iloadN X6 hx (D d20_12) rfl ?_
    refine Own.isub X6 hx (D d20_13) ?_
    exact k)
  have K9 : Own.To p e below B0 T6 (mkF m 38 #[vr o0, vi p1, vi 16] []) := fun t k => K8 t (by
    refine Own.ifYes X6 hx 38 (D d20_14) ((if0 _ _).trans (flt (hcap : ¬ ((0 : Int32) < (p1 - (16 : Int32))))).2.2.2) (by decide) (by decide) ?_
    exact k)
  exact Own.finV X6 hx (BodyLoose.notSynchronized Bd) Bd.returns (D d20_38) K9 (by decide) (by decide) ⟨rfl, rfl, e6⟩

theorem d21_0 : decode J28 0 = .ok (.getstatic 18, 3) := by decide +kernel
theorem d21_3 : decode J28 3 = .ok (.ifCond .eq 14, 3) := by decide +kernel
theorem d21_6 : decode J28 6 = .ok (.aload_n 0, 1) := by decide +kernel
theorem d21_7 : decode J28 7 = .ok (.getfield 22, 3) := by decide +kernel
theorem d21_10 : decode J28 10 = .ok (.ifCond .ne 7, 3) := by decide +kernel
theorem d21_13 : decode J28 13 = .ok (.iconst 1, 1) := by decide +kernel
theorem d21_14 : decode J28 14 = .ok (.goto 4, 3) := by decide +kernel
theorem d21_18 : decode J28 18 = .ok (.ireturn, 1) := by decide +kernel
theorem ef_21 (m : MethodId) (o0 : Addr) : entryFrame m #[(.ref o0)] 1 = mkF m 0 #[.val (.ref o0)] [] := by first | (simp [entryFrame, mkF, argsToLocals, Value.category]; done) | rfl
set_option maxRecDepth 65536 in
set_option maxHeartbeats 40000000 in
theorem cISL (l : Launch) (Z : State) (a0 : Array Value) (hw : ∀ d ∈ tables_1, d.before a0 Z = true) (o0 : Addr) (v0 : Addr) (cs : List Int32) (G1 : Int32) (h0 : Heap) (SBX : own_SB Z h0 o0 v0 cs) (SC : Sta Z h0 "java/lang/String" "COMPACT_STRINGS" "Z" (.int G1)) (hG1 : ¬ G1 = 0) : Own.Con l Z (⟨"java/lang/AbstractStringBuilder", "isLatin1", "()Z"⟩ : MethodName) jdk_68_method_68_code 1 (some .boolean) ({ frames := 0, cells := 0, slots := 0, locals := 0 } : Room) #[(.ref o0)] h0 (Own.Pure (.int 1) h0) := by
  intro ws
  refine MetFree.of_bodySF (plainFor_of_name pn_1) hisR ?_
  intro p e s m args below meth c s₁ Bd hml0 hP hK
  obtain ⟨rfl, hZ, hh⟩ := hP
  have hx := Bd.exec
  have hby := Bd.bytes
  have D := fun {n : Nat} {i} (d : decode jdk_68_method_68_code n = .ok i) => hb hby d
  have hml : c.maxLocals = 1 := hml0
  have hown : s.vm.findClass "java/lang/AbstractStringBuilder" = some m.cls := findClass_of_methodNamed Bd.named
  have hnm := (name_of_methodNamed Bd.named Bd.method).1
  have X0 : Stand p l e ({ frames := 0, cells := 0, slots := 0, locals := 0 } : Room) s m #[(.ref o0)] below meth c s₁ [] 0 0 := Stand.of_body Bd
  have e0 : s₁.heap = h0 := by rw [← hh, Bd.state]; rfl
  have K0 : ∀ t, Steps p.tables e below (s₁.setTop (mkF m 0 #[vr o0] [])) t → Steps p.tables e below (s₁.setTop (entryFrame m #[(.ref o0)] 1)) t := fun t k => castTop (ef_21 m o0) k
  generalize s₁.setTop (entryFrame m #[(.ref o0)] 1) = B0 at K0 ⊢
  show Own.Fin p e below B0 s (({ frames := 0, cells := 0, slots := 0, locals := 0 } : Room)).cells (({ frames := 0, cells := 0, slots := 0, locals := 0 } : Room)).slots (Own.Pure (.int 1) h0)
  obtain ⟨E0, F0, F1, F2, A0, hne, hok, hcs⟩ := SBX
  obtain ⟨T1, X1, e1, st1⟩ := Own.getS (Ls := #[vr o0]) X0 hx hZ e0 hown (host := "") (Or.inl (W_ hw 101 rfl)) Via.refl SC (S := []) (D d21_0)
  have K2 := fun t k => K0 t (st1 t k)
  have K3 : Own.To p e below B0 T1 (mkF m 7 #[vr o0] [(.ref o0)]) := fun t k => K2 t (by
    refine Own.ifNo X1 hx (D d21_3) ((if0 _ _).trans (feq (hG1 : ¬ (G1 = (0 : Int32)))).1) ?_
    refine Own.aloadN X1 hx (D d21_6) rfl rfl ?_
    exact k)
  obtain ⟨T4, X4, e4, st4⟩ := Own.getF (Ls := #[vr o0]) X1 hx hZ e1 hown (host := "") (Or.inl (W_ hw 104 rfl)) Via.refl F1 (S := []) (D d21_7)
  have K5 := fun t k => K3 t (st4 t k)
  have K6 : Own.To p e below B0 T4 (mkF m 18 #[vr o0] [(.int 1)]) := fun t k => K5 t (by
    refine Own.ifNo X4 hx (D d21_10) ((if0 _ _).trans (teq (by decide : (0 : Int32) = (0 : Int32))).2) ?_
    refine Own.iconst X4 hx 1 (D d21_13) rfl ?_
    refine Own.goto X4 hx 18 (D d21_14) (by decide) (by decide) ?_
    exact k)
  exact Own.finN X4 hx (BodyLoose.notSynchronized Bd) Bd.returns (by simp) (D d21_18) K6 (by decide) (by decide) ⟨rfl, rfl, e4⟩

theorem d10_0 : decode J7 0 = .ok (.getstatic 38, 3) := by decide +kernel
theorem d10_3 : decode J7 3 = .ok (.ifCond .eq 10, 3) := by decide +kernel
theorem d10_6 : decode J7 6 = .ok (.aload_n 0, 1) := by decide +kernel
theorem d10_7 : decode J7 7 = .ok (.getfield 15, 3) := by decide +kernel
theorem d10_10 : decode J7 10 = .ok (.goto 4, 3) := by decide +kernel
theorem d10_14 : decode J7 14 = .ok (.ireturn, 1) := by decide +kernel
theorem ef_10 (m : MethodId) (o0 : Addr) : entryFrame m #[(.ref o0)] 1 = mkF m 0 #[.val (.ref o0)] [] := by first | (simp [entryFrame, mkF, argsToLocals, Value.category]; done) | rfl
set_option maxRecDepth 65536 in
set_option maxHeartbeats 40000000 in
theorem cSCO (l : Launch) (Z : State) (a0 : Array Value) (hw : ∀ d ∈ tables_1, d.before a0 Z = true) (o0 : Addr) (ds : List Int32) (G1 : Int32) (h0 : Heap) (TX : own_Txt Z h0 o0 ds) (SC : Sta Z h0 "java/lang/String" "COMPACT_STRINGS" "Z" (.int G1)) (hG1 : ¬ G1 = 0) : Own.Con l Z (⟨"java/lang/String", "coder", "()B"⟩ : MethodName) jdk_42_method_152_code 1 (some .byte) ({ frames := 0, cells := 0, slots := 0, locals := 0 } : Room) #[(.ref o0)] h0 (Own.Pure (.int 0) h0) := by
  intro ws
  refine MetFree.of_bodySF (plainFor_of_name pn_0) hisR ?_
  intro p e s m args below meth c s₁ Bd hml0 hP hK
  obtain ⟨rfl, hZ, hh⟩ := hP
  have hx := Bd.exec
  have hby := Bd.bytes
  have D := fun {n : Nat} {i} (d : decode jdk_42_method_152_code n = .ok i) => hb hby d
  have hml : c.maxLocals = 1 := hml0
  have hown : s.vm.findClass "java/lang/String" = some m.cls := findClass_of_methodNamed Bd.named
  have hnm := (name_of_methodNamed Bd.named Bd.method).1
  have X0 : Stand p l e ({ frames := 0, cells := 0, slots := 0, locals := 0 } : Room) s m #[(.ref o0)] below meth c s₁ [] 0 0 := Stand.of_body Bd
  have e0 : s₁.heap = h0 := by rw [← hh, Bd.state]; rfl
  have K0 : ∀ t, Steps p.tables e below (s₁.setTop (mkF m 0 #[vr o0] [])) t → Steps p.tables e below (s₁.setTop (entryFrame m #[(.ref o0)] 1)) t := fun t k => castTop (ef_10 m o0) k
  generalize s₁.setTop (entryFrame m #[(.ref o0)] 1) = B0 at K0 ⊢
  show Own.Fin p e below B0 s (({ frames := 0, cells := 0, slots := 0, locals := 0 } : Room)).cells (({ frames := 0, cells := 0, slots := 0, locals := 0 } : Room)).slots (Own.Pure (.int 0) h0)
  obtain ⟨t0, E0, F0, F1, A0, hok, hcs⟩ := TX.opn
  obtain ⟨T1, X1, e1, st1⟩ := Own.getS (Ls := #[vr o0]) X0 hx hZ e0 hown (host := "") (Or.inl (W_ hw 63 rfl)) Via.refl SC (S := []) (D d10_0)
  have K2 := fun t k => K0 t (st1 t k)
  have K3 : Own.To p e below B0 T1 (mkF m 7 #[vr o0] [(.ref o0)]) := fun t k => K2 t (by
    refine Own.ifNo X1 hx (D d10_3) ((if0 _ _).trans (feq (hG1 : ¬ (G1 = (0 : Int32)))).1) ?_
    refine Own.aloadN X1 hx (D d10_6) rfl rfl ?_
    exact k)
  obtain ⟨T4, X4, e4, st4⟩ := Own.getF (Ls := #[vr o0]) X1 hx hZ e1 hown (host := "") (Or.inl (W_ hw 28 rfl)) Via.refl F1 (S := []) (D d10_7)
  have K5 := fun t k => K3 t (st4 t k)
  have K6 : Own.To p e below B0 T4 (mkF m 14 #[vr o0] [(.int 0)]) := fun t k => K5 t (by
    refine Own.goto X4 hx 14 (D d10_10) (by decide) (by decide) ?_
    exact k)
  exact Own.finN X4 hx (BodyLoose.notSynchronized Bd) Bd.returns (by simp) (D d10_14) K6 (by decide) (by decide) ⟨rfl, rfl, e4⟩

theorem d12_0 : decode J8 0 = .ok (.getstatic 38, 3) := by decide +kernel
theorem d12_3 : decode J8 3 = .ok (.ifCond .eq 14, 3) := by decide +kernel
theorem d12_6 : decode J8 6 = .ok (.aload_n 0, 1) := by decide +kernel
theorem d12_7 : decode J8 7 = .ok (.getfield 15, 3) := by decide +kernel
theorem d12_10 : decode J8 10 = .ok (.ifCond .ne 7, 3) := by decide +kernel
theorem d12_13 : decode J8 13 = .ok (.iconst 1, 1) := by decide +kernel
theorem d12_14 : decode J8 14 = .ok (.goto 4, 3) := by decide +kernel
theorem d12_18 : decode J8 18 = .ok (.ireturn, 1) := by decide +kernel
theorem ef_12 (m : MethodId) (o0 : Addr) : entryFrame m #[(.ref o0)] 1 = mkF m 0 #[.val (.ref o0)] [] := by first | (simp [entryFrame, mkF, argsToLocals, Value.category]; done) | rfl
set_option maxRecDepth 65536 in
set_option maxHeartbeats 40000000 in
theorem cSIL (l : Launch) (Z : State) (a0 : Array Value) (hw : ∀ d ∈ tables_1, d.before a0 Z = true) (o0 : Addr) (ds : List Int32) (G1 : Int32) (h0 : Heap) (TX : own_Txt Z h0 o0 ds) (SC : Sta Z h0 "java/lang/String" "COMPACT_STRINGS" "Z" (.int G1)) (hG1 : ¬ G1 = 0) : Own.Con l Z (⟨"java/lang/String", "isLatin1", "()Z"⟩ : MethodName) jdk_42_method_154_code 1 (some .boolean) ({ frames := 0, cells := 0, slots := 0, locals := 0 } : Room) #[(.ref o0)] h0 (Own.Pure (.int 1) h0) := by
  intro ws
  refine MetFree.of_bodySF (plainFor_of_name pn_0) hisR ?_
  intro p e s m args below meth c s₁ Bd hml0 hP hK
  obtain ⟨rfl, hZ, hh⟩ := hP
  have hx := Bd.exec
  have hby := Bd.bytes
  have D := fun {n : Nat} {i} (d : decode jdk_42_method_154_code n = .ok i) => hb hby d
  have hml : c.maxLocals = 1 := hml0
  have hown : s.vm.findClass "java/lang/String" = some m.cls := findClass_of_methodNamed Bd.named
  have hnm := (name_of_methodNamed Bd.named Bd.method).1
  have X0 : Stand p l e ({ frames := 0, cells := 0, slots := 0, locals := 0 } : Room) s m #[(.ref o0)] below meth c s₁ [] 0 0 := Stand.of_body Bd
  have e0 : s₁.heap = h0 := by rw [← hh, Bd.state]; rfl
  have K0 : ∀ t, Steps p.tables e below (s₁.setTop (mkF m 0 #[vr o0] [])) t → Steps p.tables e below (s₁.setTop (entryFrame m #[(.ref o0)] 1)) t := fun t k => castTop (ef_12 m o0) k
  generalize s₁.setTop (entryFrame m #[(.ref o0)] 1) = B0 at K0 ⊢
  show Own.Fin p e below B0 s (({ frames := 0, cells := 0, slots := 0, locals := 0 } : Room)).cells (({ frames := 0, cells := 0, slots := 0, locals := 0 } : Room)).slots (Own.Pure (.int 1) h0)
  obtain ⟨t0, E0, F0, F1, A0, hok, hcs⟩ := TX.opn
  obtain ⟨T1, X1, e1, st1⟩ := Own.getS (Ls := #[vr o0]) X0 hx hZ e0 hown (host := "") (Or.inl (W_ hw 63 rfl)) Via.refl SC (S := []) (D d12_0)
  have K2 := fun t k => K0 t (st1 t k)
  have K3 : Own.To p e below B0 T1 (mkF m 7 #[vr o0] [(.ref o0)]) := fun t k => K2 t (by
    refine Own.ifNo X1 hx (D d12_3) ((if0 _ _).trans (feq (hG1 : ¬ (G1 = (0 : Int32)))).1) ?_
    refine Own.aloadN X1 hx (D d12_6) rfl rfl ?_
    exact k)
  obtain ⟨T4, X4, e4, st4⟩ := Own.getF (Ls := #[vr o0]) X1 hx hZ e1 hown (host := "") (Or.inl (W_ hw 28 rfl)) Via.refl F1 (S := []) (D d12_7)
  have K5 := fun t k => K3 t (st4 t k)
  have K6 : Own.To p e below B0 T4 (mkF m 18 #[vr o0] [(.int 1)]) := fun t k => K5 t (by
    refine Own.ifNo X4 hx (D d12_10) ((if0 _ _).trans (teq (by decide : (0 : Int32) = (0 : Int32))).2) ?_
    refine Own.iconst X4 hx 1 (D d12_13) rfl ?_
    refine Own.goto X4 hx 18 (D d12_14) (by decide) (by decide) ?_
    exact k)
  exact Own.finN X4 hx (BodyLoose.notSynchronized Bd) Bd.returns (by simp) (D d12_18) K6 (by decide) (by decide) ⟨rfl, rfl, e4⟩

theorem own_shr0 (x : Int32) : (x >>> ((0 : Int32) &&& 31)) = x := by
  rw [← Int32.toBitVec_inj]; simp

theorem d9_0 : decode J11 0 = .ok (.aload_n 0, 1) := by decide +kernel
theorem d9_1 : decode J11 1 = .ok (.getfield 9, 3) := by decide +kernel
theorem d9_4 : decode J11 4 = .ok (.arraylength, 1) := by decide +kernel
theorem d9_5 : decode J11 5 = .ok (.aload_n 0, 1) := by decide +kernel
theorem d9_6 : decode J11 6 = .ok (.invokevirtual 335, 3) := by decide +kernel
theorem d9_9 : decode J11 9 = .ok (.ishr, 1) := by decide +kernel
theorem d9_10 : decode J11 10 = .ok (.ireturn, 1) := by decide +kernel
theorem pd_2 : parseMethodDescriptor "()B" = some ⟨[], some .byte⟩ := by decide +kernel
theorem ef_9 (m : MethodId) (o0 : Addr) : entryFrame m #[(.ref o0)] 1 = mkF m 0 #[.val (.ref o0)] [] := by first | (simp [entryFrame, mkF, argsToLocals, Value.category]; done) | rfl
set_option maxRecDepth 65536 in
set_option maxHeartbeats 40000000 in
theorem cSLN (l : Launch) (Z : State) (a0 : Array Value) (hw : ∀ d ∈ tables_1, d.before a0 Z = true) (o0 : Addr) (ds : List Int32) (G1 : Int32) (h0 : Heap) (TX : own_Txt Z h0 o0 ds) (SC : Sta Z h0 "java/lang/String" "COMPACT_STRINGS" "Z" (.int G1)) (hG1 : ¬ G1 = 0) : Own.Con l Z (⟨"java/lang/String", "length", "()I"⟩ : MethodName) jdk_42_method_54_code 1 (some .int) ({ frames := 1, cells := 0, slots := 0, locals := 13 } : Room) #[(.ref o0)] h0 (Own.Pure (.int (Int32.ofNat ds.length)) h0) := by
  intro ws
  refine MetFree.of_bodySF (plainFor_of_name pn_0) hisR ?_
  intro p e s m args below meth c s₁ Bd hml0 hP hK
  obtain ⟨rfl, hZ, hh⟩ := hP
  have hx := Bd.exec
  have hby := Bd.bytes
  have D := fun {n : Nat} {i} (d : decode jdk_42_method_54_code n = .ok i) => hb hby d
  have hml : c.maxLocals = 1 := hml0
  have hown : s.vm.findClass "java/lang/String" = some m.cls := findClass_of_methodNamed Bd.named
  have hnm := (name_of_methodNamed Bd.named Bd.method).1
  have X0 : Stand p l e ({ frames := 1, cells := 0, slots := 0, locals := 13 } : Room) s m #[(.ref o0)] below meth c s₁ [] 0 0 := Stand.of_body Bd
  have e0 : s₁.heap = h0 := by rw [← hh, Bd.state]; rfl
  have K0 : ∀ t, Steps p.tables e below (s₁.setTop (mkF m 0 #[vr o0] [])) t → Steps p.tables e below (s₁.setTop (entryFrame m #[(.ref o0)] 1)) t := fun t k => castTop (ef_9 m o0) k
  generalize s₁.setTop (entryFrame m #[(.ref o0)] 1) = B0 at K0 ⊢
  show Own.Fin p e below B0 s (({ frames := 1, cells := 0, slots := 0, locals := 13 } : Room)).cells (({ frames := 1, cells := 0, slots := 0, locals := 13 } : Room)).slots (Own.Pure (.int (Int32.ofNat ds.length)) h0)
  obtain ⟨t0, E0, F0, F1, A0, hok, hcs⟩ := TX.opn
  have K1 : Own.To p e below B0 s₁ (mkF m 1 #[vr o0] [(.ref o0)]) := fun t k => K0 t (by
    refine Own.aloadN X0 hx (D d9_0) rfl rfl ?_
    exact k)
  obtain ⟨T2, X2, e2, st2⟩ := Own.getF (Ls := #[vr o0]) X0 hx hZ e0 hown (host := "") (Or.inl (W_ hw 27 rfl)) Via.refl F0 (S := []) (D d9_1)
  have K3 := fun t k => K1 t (st2 t k)
  obtain ⟨cq4, Aq4, lq4⟩ := Own.CA.len A0
  rw [own_lo_len ds] at lq4
  have K5 : Own.To p e below B0 T2 (mkF m 6 #[vr o0] [(.ref o0), (.int (Int32.ofNat ds.length))]) := fun t k => K3 t (by
    refine Own.arraylength X2 hx (Int32.ofNat ds.length) hZ e2 Aq4 lq4 (D d9_4) ?_
    refine Own.aloadN X2 hx (D d9_5) rfl rfl ?_
    exact k)
  obtain ⟨T6, X6, e6, st6⟩ := Own.callVHO (Ls := #[vr o0]) X2 hx hZ e2 o0 [] [(.int (Int32.ofNat ds.length))] (cSCO l Z a0 hw o0 ds G1 h0 TX SC hG1) hown E0 (W_ hw 58 rfl) (W_ hw 59 rfl) (W_ hw 56 rfl) rfl (W_ hw 61 rfl) (W_ hw 60 rfl) (W_ hw 9 rfl) (W_ hw 62 rfl) (by decide) 1 rfl rfl (by decide) (by decide) (by decide) (by decide) (szOf hml rfl) (lenOf pd_2 rfl) rfl (Nat.le_of_eq rfl) (D d9_6)
  have K7 := fun t k => K5 t (st6 t k)
  have K8 : Own.To p e below B0 T6 (mkF m 10 #[vr o0] [(.int ((Int32.ofNat ds.length) >>> ((0 : Int32) &&& 31)))]) := fun t k => K7 t (by
    refine Own.ishr X6 hx (D d9_9) ?_
    exact k)
  exact Own.finI X6 hx (BodyLoose.notSynchronized Bd) Bd.returns (D d9_10) K8 (by decide) (by decide) ⟨by rw [own_shr0], rfl, e6⟩

theorem d22_0 : decode J12 0 = .ok (.iload_n 0, 1) := by decide +kernel
theorem d22_1 : decode J12 1 = .ok (.sipush 255, 3) := by decide +kernel
theorem d22_4 : decode J12 4 = .ok (.if_icmp .gt 7, 3) := by decide +kernel
theorem d22_7 : decode J12 7 = .ok (.iconst 1, 1) := by decide +kernel
theorem d22_8 : decode J12 8 = .ok (.goto 4, 3) := by decide +kernel
theorem d22_12 : decode J12 12 = .ok (.ireturn, 1) := by decide +kernel
theorem pn_3 : plainName "java/lang/StringLatin1" = true := by first | (simp [plainName, overriddenIn]; done) | decide +kernel
theorem ef_22 (m : MethodId) (p0 : Int32) : entryFrame m #[(.int p0)] 1 = mkF m 0 #[.val (.int p0)] [] := by first | (simp [entryFrame, mkF, argsToLocals, Value.category]; done) | rfl
set_option maxRecDepth 65536 in
set_option maxHeartbeats 40000000 in
theorem cCEN (l : Launch) (Z : State) (a0 : Array Value) (hw : ∀ d ∈ tables_1, d.before a0 Z = true) (p0 : Int32) (h0 : Heap) (hp : ¬ (255 : Int32) < p0) : Own.Con l Z (⟨"java/lang/StringLatin1", "canEncode", "(C)Z"⟩ : MethodName) jdk_43_method_3_code 1 (some .boolean) ({ frames := 0, cells := 0, slots := 0, locals := 0 } : Room) #[(.int p0)] h0 (Own.Pure (.int 1) h0) := by
  intro ws
  refine MetFree.of_bodySF (plainFor_of_name pn_3) hisR ?_
  intro p e s m args below meth c s₁ Bd hml0 hP hK
  obtain ⟨rfl, hZ, hh⟩ := hP
  have hx := Bd.exec
  have hby := Bd.bytes
  have D := fun {n : Nat} {i} (d : decode jdk_43_method_3_code n = .ok i) => hb hby d
  have hml : c.maxLocals = 1 := hml0
  have hown : s.vm.findClass "java/lang/StringLatin1" = some m.cls := findClass_of_methodNamed Bd.named
  have hnm := (name_of_methodNamed Bd.named Bd.method).1
  have X0 : Stand p l e ({ frames := 0, cells := 0, slots := 0, locals := 0 } : Room) s m #[(.int p0)] below meth c s₁ [] 0 0 := Stand.of_body Bd
  have e0 : s₁.heap = h0 := by rw [← hh, Bd.state]; rfl
  have K0 : ∀ t, Steps p.tables e below (s₁.setTop (mkF m 0 #[vi p0] [])) t → Steps p.tables e below (s₁.setTop (entryFrame m #[(.int p0)] 1)) t := fun t k => castTop (ef_22 m p0) k
  generalize s₁.setTop (entryFrame m #[(.int p0)] 1) = B0 at K0 ⊢
  show Own.Fin p e below B0 s (({ frames := 0, cells := 0, slots := 0, locals := 0 } : Room)).cells (({ frames := 0, cells := 0, slots := 0, locals := 0 } : Room)).slots (Own.Pure (.int 1) h0)
  have K1 : Own.To p e below B0 s₁ (mkF m 4 #[vi p0] [(.int 255), (.int p0)]) := fun t k => K0 t (by
    refine Own.iloadN X0 hx (D d22_0) rfl ?_
    refine Own.sipush X0 hx 255 (D d22_1) rfl ?_
    exact k)
  have K2 : Own.To p e below B0 s₁ (mkF m 12 #[vi p0] [(.int 1)]) := fun t k => K1 t (by
    refine Own.icmpNo X0 hx (D d22_4) (flt (hp : ¬ ((255 : Int32) < p0))).2.2.1 ?_
    refine Own.iconst X0 hx 1 (D d22_7) rfl ?_
    refine Own.goto X0 hx 12 (D d22_8) (by decide) (by decide) ?_
    exact k)
  exact Own.finN X0 hx (BodyLoose.notSynchronized Bd) Bd.returns (by simp) (D d22_12) K2 (by decide) (by decide) ⟨rfl, rfl, e0⟩

theorem d31_0 : decode J27 0 = .ok (.aload_n 0, 1) := by decide +kernel
theorem d31_1 : decode J27 1 = .ok (.getfield 15, 3) := by decide +kernel
theorem d31_4 : decode J27 4 = .ok (.areturn, 1) := by decide +kernel
theorem ef_31 (m : MethodId) (o0 : Addr) : entryFrame m #[(.ref o0)] 1 = mkF m 0 #[.val (.ref o0)] [] := by first | (simp [entryFrame, mkF, argsToLocals, Value.category]; done) | rfl
set_option maxRecDepth 65536 in
set_option maxHeartbeats 40000000 in
theorem cGV (l : Launch) (Z : State) (a0 : Array Value) (hw : ∀ d ∈ tables_1, d.before a0 Z = true) (o0 : Addr) (v0 : Addr) (cs : List Int32) (h0 : Heap) (SBX : own_SB Z h0 o0 v0 cs) : Own.Con l Z (⟨"java/lang/AbstractStringBuilder", "getValue", "()[B"⟩ : MethodName) jdk_68_method_64_code 1 (some (.array .byte)) ({ frames := 0, cells := 0, slots := 0, locals := 0 } : Room) #[(.ref o0)] h0 (Own.Pure (.ref v0) h0) := by
  intro ws
  refine MetFree.of_bodySF (plainFor_of_name pn_1) hisR ?_
  intro p e s m args below meth c s₁ Bd hml0 hP hK
  obtain ⟨rfl, hZ, hh⟩ := hP
  have hx := Bd.exec
  have hby := Bd.bytes
  have D := fun {n : Nat} {i} (d : decode jdk_68_method_64_code n = .ok i) => hb hby d
  have hml : c.maxLocals = 1 := hml0
  have hown : s.vm.findClass "java/lang/AbstractStringBuilder" = some m.cls := findClass_of_methodNamed Bd.named
  have hnm := (name_of_methodNamed Bd.named Bd.method).1
  have X0 : Stand p l e ({ frames := 0, cells := 0, slots := 0, locals := 0 } : Room) s m #[(.ref o0)] below meth c s₁ [] 0 0 := Stand.of_body Bd
  have e0 : s₁.heap = h0 := by rw [← hh, Bd.state]; rfl
  have K0 : ∀ t, Steps p.tables e below (s₁.setTop (mkF m 0 #[vr o0] [])) t → Steps p.tables e below (s₁.setTop (entryFrame m #[(.ref o0)] 1)) t := fun t k => castTop (ef_31 m o0) k
  generalize s₁.setTop (entryFrame m #[(.ref o0)] 1) = B0 at K0 ⊢
  show Own.Fin p e below B0 s (({ frames := 0, cells := 0, slots := 0, locals := 0 } : Room)).cells (({ frames := 0, cells := 0, slots := 0, locals := 0 } : Room)).slots (Own.Pure (.ref v0) h0)
  obtain ⟨E0, F0, F1, F2, A0, hne, hok, hcs⟩ := SBX
  have K1 : Own.To p e below B0 s₁ (mkF m 1 #[vr o0] [(.ref o0)]) := fun t k => K0 t (by
    refine Own.aloadN X0 hx (D d31_0) rfl rfl ?_
    exact k)
  obtain ⟨T2, X2, e2, st2⟩ := Own.getF (Ls := #[vr o0]) X0 hx hZ e0 hown (host := "") (Or.inl (W_ hw 102 rfl)) Via.refl F0 (S := []) (D d31_1)
  have K3 := fun t k => K1 t (st2 t k)
  exact Own.finA X2 hx (BodyLoose.notSynchronized Bd) Bd.returns rfl rfl (D d31_4) K3 (by decide) (by decide) ⟨rfl, rfl, e2⟩

theorem d33_0 : decode J29 0 = .ok (.aload_n 0, 1) := by decide +kernel
theorem d33_1 : decode J29 1 = .ok (.getfield 79, 3) := by decide +kernel
theorem d33_4 : decode J29 4 = .ok (.ireturn, 1) := by decide +kernel
theorem ef_33 (m : MethodId) (o0 : Addr) : entryFrame m #[(.ref o0)] 1 = mkF m 0 #[.val (.ref o0)] [] := by first | (simp [entryFrame, mkF, argsToLocals, Value.category]; done) | rfl
set_option maxRecDepth 65536 in
set_option maxHeartbeats 40000000 in
theorem cLEN (l : Launch) (Z : State) (a0 : Array Value) (hw : ∀ d ∈ tables_1, d.before a0 Z = true) (o0 : Addr) (v0 : Addr) (cs : List Int32) (h0 : Heap) (SBX : own_SB Z h0 o0 v0 cs) : Own.Con l Z (⟨"java/lang/AbstractStringBuilder", "length", "()I"⟩ : MethodName) jdk_68_method_6_code 1 (some .int) ({ frames := 0, cells := 0, slots := 0, locals := 0 } : Room) #[(.ref o0)] h0 (Own.Pure (.int (Int32.ofNat cs.length)) h0) := by
  intro ws
  refine MetFree.of_bodySF (plainFor_of_name pn_1) hisR ?_
  intro p e s m args below meth c s₁ Bd hml0 hP hK
  obtain ⟨rfl, hZ, hh⟩ := hP
  have hx := Bd.exec
  have hby := Bd.bytes
  have D := fun {n : Nat} {i} (d : decode jdk_68_method_6_code n = .ok i) => hb hby d
  have hml : c.maxLocals = 1 := hml0
  have hown : s.vm.findClass "java/lang/AbstractStringBuilder" = some m.cls := findClass_of_methodNamed Bd.named
  have hnm := (name_of_methodNamed Bd.named Bd.method).1
  have X0 : Stand p l e ({ frames := 0, cells := 0, slots := 0, locals := 0 } : Room) s m #[(.ref o0)] below meth c s₁ [] 0 0 := Stand.of_body Bd
  have e0 : s₁.heap = h0 := by rw [← hh, Bd.state]; rfl
  have K0 : ∀ t, Steps p.tables e below (s₁.setTop (mkF m 0 #[vr o0] [])) t → Steps p.tables e below (s₁.setTop (entryFrame m #[(.ref o0)] 1)) t := fun t k => castTop (ef_33 m o0) k
  generalize s₁.setTop (entryFrame m #[(.ref o0)] 1) = B0 at K0 ⊢
  show Own.Fin p e below B0 s (({ frames := 0, cells := 0, slots := 0, locals := 0 } : Room)).cells (({ frames := 0, cells := 0, slots := 0, locals := 0 } : Room)).slots (Own.Pure (.int (Int32.ofNat cs.length)) h0)
  obtain ⟨E0, F0, F1, F2, A0, hne, hok, hcs⟩ := SBX
  have K1 : Own.To p e below B0 s₁ (mkF m 1 #[vr o0] [(.ref o0)]) := fun t k => K0 t (by
    refine Own.aloadN X0 hx (D d33_0) rfl rfl ?_
    exact k)
  obtain ⟨T2, X2, e2, st2⟩ := Own.getF (Ls := #[vr o0]) X0 hx hZ e0 hown (host := "") (Or.inl (W_ hw 116 rfl)) Via.refl F2 (S := []) (D d33_1)
  have K3 := fun t k => K1 t (st2 t k)
  exact Own.finI X2 hx (BodyLoose.notSynchronized Bd) Bd.returns (D d33_4) K3 (by decide) (by decide) ⟨rfl, rfl, e2⟩

theorem d32_0 : decode J23 0 = .ok (.aload_n 0, 1) := by decide +kernel
theorem d32_1 : decode J23 1 = .ok (.invokespecial 343, 3) := by decide +kernel
theorem d32_4 : decode J23 4 = .ok (.ireturn, 1) := by decide +kernel
theorem pd_3 : parseMethodDescriptor "()I" = some ⟨[], some .int⟩ := by decide +kernel
theorem ef_32 (m : MethodId) (o0 : Addr) : entryFrame m #[(.ref o0)] 1 = mkF m 0 #[.val (.ref o0)] [] := by first | (simp [entryFrame, mkF, argsToLocals, Value.category]; done) | rfl
set_option maxRecDepth 65536 in
set_option maxHeartbeats 40000000 in
theorem cSLEN (l : Launch) (Z : State) (a0 : Array Value) (hw : ∀ d ∈ tables_1, d.before a0 Z = true) (o0 : Addr) (v0 : Addr) (cs : List Int32) (h0 : Heap) (SBX : own_SB Z h0 o0 v0 cs) : Own.Con l Z (⟨"java/lang/StringBuilder", "length", "()I"⟩ : MethodName) jdk_67_method_93_code 1 (some .int) ({ frames := 1, cells := 0, slots := 0, locals := 12 } : Room) #[(.ref o0)] h0 (Own.Pure (.int (Int32.ofNat cs.length)) h0) := by
  intro ws
  refine MetFree.of_bodySF (plainFor_of_name pn_2) hisR ?_
  intro p e s m args below meth c s₁ Bd hml0 hP hK
  obtain ⟨rfl, hZ, hh⟩ := hP
  have hx := Bd.exec
  have hby := Bd.bytes
  have D := fun {n : Nat} {i} (d : decode jdk_67_method_93_code n = .ok i) => hb hby d
  have hml : c.maxLocals = 1 := hml0
  have hown : s.vm.findClass "java/lang/StringBuilder" = some m.cls := findClass_of_methodNamed Bd.named
  have hnm := (name_of_methodNamed Bd.named Bd.method).1
  have X0 : Stand p l e ({ frames := 1, cells := 0, slots := 0, locals := 12 } : Room) s m #[(.ref o0)] below meth c s₁ [] 0 0 := Stand.of_body Bd
  have e0 : s₁.heap = h0 := by rw [← hh, Bd.state]; rfl
  have K0 : ∀ t, Steps p.tables e below (s₁.setTop (mkF m 0 #[vr o0] [])) t → Steps p.tables e below (s₁.setTop (entryFrame m #[(.ref o0)] 1)) t := fun t k => castTop (ef_32 m o0) k
  generalize s₁.setTop (entryFrame m #[(.ref o0)] 1) = B0 at K0 ⊢
  show Own.Fin p e below B0 s (({ frames := 1, cells := 0, slots := 0, locals := 12 } : Room)).cells (({ frames := 1, cells := 0, slots := 0, locals := 12 } : Room)).slots (Own.Pure (.int (Int32.ofNat cs.length)) h0)
  have K1 : Own.To p e below B0 s₁ (mkF m 1 #[vr o0] [(.ref o0)]) := fun t k => K0 t (by
    refine Own.aloadN X0 hx (D d32_0) rfl rfl ?_
    exact k)
  obtain ⟨T2, X2, e2, st2⟩ := Own.callSHO (Ls := #[vr o0]) X0 hx hZ e0 o0 [] [] (cLEN l Z a0 hw o0 v0 cs h0 SBX) hown SBX.exa (W_ hw 184 rfl) (W_ hw 113 rfl) (W_ hw 121 rfl) rfl (W_ hw 180 rfl) (W_ hw 98 rfl) (W_ hw 185 rfl) (by decide) (by decide) 0 rfl rfl (by decide) (by decide) (by decide) (by decide) (szOf hml rfl) (lenOf pd_3 rfl) rfl (Nat.le_of_eq rfl) (D d32_1)
  have K3 := fun t k => K1 t (st2 t k)
  exact Own.finI X2 hx (BodyLoose.notSynchronized Bd) Bd.returns (D d32_4) K3 (by decide) (by decide) ⟨rfl, rfl, e2⟩

theorem d19_0 : decode J26 0 = .ok (.aload_n 0, 1) := by decide +kernel
theorem d19_1 : decode J26 1 = .ok (.aload_n 0, 1) := by decide +kernel
theorem d19_2 : decode J26 2 = .ok (.getfield 79, 3) := by decide +kernel
theorem d19_5 : decode J26 5 = .ok (.iconst 1, 1) := by decide +kernel
theorem d19_6 : decode J26 6 = .ok (.iadd, 1) := by decide +kernel
theorem d19_7 : decode J26 7 = .ok (.invokevirtual 100, 3) := by decide +kernel
theorem d19_10 : decode J26 10 = .ok (.aload_n 0, 1) := by decide +kernel
theorem d19_11 : decode J26 11 = .ok (.invokevirtual 83, 3) := by decide +kernel
theorem d19_14 : decode J26 14 = .ok (.ifCond .eq 31, 3) := by decide +kernel
theorem d19_17 : decode J26 17 = .ok (.iload_n 1, 1) := by decide +kernel
theorem d19_18 : decode J26 18 = .ok (.invokestatic 191, 3) := by decide +kernel
theorem d19_21 : decode J26 21 = .ok (.ifCond .eq 24, 3) := by decide +kernel
theorem d19_24 : decode J26 24 = .ok (.aload_n 0, 1) := by decide +kernel
theorem d19_25 : decode J26 25 = .ok (.getfield 15, 3) := by decide +kernel
theorem d19_28 : decode J26 28 = .ok (.aload_n 0, 1) := by decide +kernel
theorem d19_29 : decode J26 29 = .ok (.dup, 1) := by decide +kernel
theorem d19_30 : decode J26 30 = .ok (.getfield 79, 3) := by decide +kernel
theorem d19_33 : decode J26 33 = .ok (.dup_x1, 1) := by decide +kernel
theorem d19_34 : decode J26 34 = .ok (.iconst 1, 1) := by decide +kernel
theorem d19_35 : decode J26 35 = .ok (.iadd, 1) := by decide +kernel
theorem d19_36 : decode J26 36 = .ok (.putfield 79, 3) := by decide +kernel
theorem d19_39 : decode J26 39 = .ok (.iload_n 1, 1) := by decide +kernel
theorem d19_40 : decode J26 40 = .ok (.i2b, 1) := by decide +kernel
theorem d19_41 : decode J26 41 = .ok (.bastore, 1) := by decide +kernel
theorem d19_42 : decode J26 42 = .ok (.goto 33, 3) := by decide +kernel
theorem d19_75 : decode J26 75 = .ok (.aload_n 0, 1) := by decide +kernel
theorem d19_76 : decode J26 76 = .ok (.areturn, 1) := by decide +kernel
theorem pd_4 : parseMethodDescriptor "()Z" = some ⟨[], some .boolean⟩ := by decide +kernel
theorem pd_5 : parseMethodDescriptor "(C)Z" = some ⟨[.char], some .boolean⟩ := by decide +kernel
theorem ef_19 (m : MethodId) (o0 : Addr) (p1 : Int32) : entryFrame m #[(.ref o0), (.int p1)] 2 = mkF m 0 #[.val (.ref o0), .val (.int p1)] [] := by first | (simp [entryFrame, mkF, argsToLocals, Value.category]; done) | rfl
set_option maxRecDepth 65536 in
set_option maxHeartbeats 40000000 in
theorem cAPC (l : Launch) (Z : State) (a0 : Array Value) (hw : ∀ d ∈ tables_1, d.before a0 Z = true) (o0 : Addr) (p1 : Int32) (n0 : Nat) (v0 : Addr) (G1 : Int32) (h0 : Heap) (Z0 : n0 ≤ h0.size) (SBX : own_SB Z h0 o0 v0 []) (g0 : n0 ≤ o0) (gv : n0 ≤ v0) (hp0 : ¬ p1 < 0) (hp : ¬ (255 : Int32) < p1) (SC : Sta Z h0 "java/lang/String" "COMPACT_STRINGS" "Z" (.int G1)) (hG1 : ¬ G1 = 0) : Own.Con l Z (⟨"java/lang/AbstractStringBuilder", "append", "(C)Ljava/lang/AbstractStringBuilder;"⟩ : MethodName) jdk_68_method_31_code 2 (some (.object "java/lang/AbstractStringBuilder")) ({ frames := 1, cells := 0, slots := 0, locals := 14 } : Room) #[(.ref o0), (.int p1)] h0 (fun v h L => v = some (.ref o0) ∧ Fr n0 L ∧ Keep h0 h [o0, v0] ∧ own_SB Z h o0 v0 [p1]) := by
  intro ws
  refine MetFree.of_bodySF (plainFor_of_name pn_1) hisR ?_
  intro p e s m args below meth c s₁ Bd hml0 hP hK
  obtain ⟨rfl, hZ, hh⟩ := hP
  have hx := Bd.exec
  have hby := Bd.bytes
  have D := fun {n : Nat} {i} (d : decode jdk_68_method_31_code n = .ok i) => hb hby d
  have hml : c.maxLocals = 2 := hml0
  have hown : s.vm.findClass "java/lang/AbstractStringBuilder" = some m.cls := findClass_of_methodNamed Bd.named
  have hnm := (name_of_methodNamed Bd.named Bd.method).1
  have X0 : Stand p l e ({ frames := 1, cells := 0, slots := 0, locals := 14 } : Room) s m #[(.ref o0), (.int p1)] below meth c s₁ [] 0 0 := Stand.of_body Bd
  have e0 : s₁.heap = h0 := by rw [← hh, Bd.state]; rfl
  have K0 : ∀ t, Steps p.tables e below (s₁.setTop (mkF m 0 #[vr o0, vi p1] [])) t → Steps p.tables e below (s₁.setTop (entryFrame m #[(.ref o0), (.int p1)] 2)) t := fun t k => castTop (ef_19 m o0 p1) k
  generalize s₁.setTop (entryFrame m #[(.ref o0), (.int p1)] 2) = B0 at K0 ⊢
  show Own.Fin p e below B0 s (({ frames := 1, cells := 0, slots := 0, locals := 14 } : Room)).cells (({ frames := 1, cells := 0, slots := 0, locals := 14 } : Room)).slots (fun v h L => v = some (.ref o0) ∧ Fr n0 L ∧ Keep h0 h [o0, v0] ∧ own_SB Z h o0 v0 [p1])
  obtain ⟨E0, F0, F1, F2, A0, hne, hok, hcs⟩ := SBX
  have K1 : Own.To p e below B0 s₁ (mkF m 2 #[vr o0, vi p1] [(.ref o0), (.ref o0)]) := fun t k => K0 t (by
    refine Own.aloadN X0 hx (D d19_0) rfl rfl ?_
    refine Own.aloadN X0 hx (D d19_1) rfl rfl ?_
    exact k)
  obtain ⟨T2, X2, e2, st2⟩ := Own.getF (Ls := #[vr o0, vi p1]) X0 hx hZ e0 hown (host := "") (Or.inl (W_ hw 116 rfl)) Via.refl F2 (S := [(.ref o0)]) (D d19_2)
  have K3 := fun t k => K1 t (st2 t k)
  have K4 : Own.To p e below B0 T2 (mkF m 7 #[vr o0, vi p1] [(.int 1), (.ref o0)]) := fun t k => K3 t (by
    refine Own.iconst X2 hx 1 (D d19_5) rfl ?_
    refine Own.iadd X2 hx (D d19_6) ?_
    exact k)
  obtain ⟨T5, X5, e5, st5⟩ := Own.callVHO (Ls := #[vr o0, vi p1]) X2 hx hZ e2 o0 [(.int 1)] [] (cENS l Z a0 hw o0 (1 : Int32) v0 [] h0 (show own_SB Z h0 o0 v0 [] from ⟨E0, F0, F1, F2, A0, hne, hok, hcs⟩) own_cap1) hown E0 (W_ hw 118 rfl) (Own.declOf (W_ hw 119 rfl) (W_ hw 122 rfl)) (W_ hw 121 rfl) rfl (W_ hw 121 rfl) (W_ hw 119 rfl) (W_ hw 98 rfl) (W_ hw 122 rfl) (by decide) 0 rfl rfl (by decide) (by decide) (by decide) (by decide) (szOf hml rfl) (lenOf pd_1 rfl) rfl (Nat.le_of_eq rfl) (D d19_7)
  have K6 := fun t k => K4 t (st5 t k)
  have K7 : Own.To p e below B0 T5 (mkF m 11 #[vr o0, vi p1] [(.ref o0)]) := fun t k => K6 t (by
    refine Own.aloadN X5 hx (D d19_10) rfl rfl ?_
    exact k)
  obtain ⟨T8, X8, e8, st8⟩ := Own.callVHO (Ls := #[vr o0, vi p1]) X5 hx hZ e5 o0 [] [] (cISL l Z a0 hw o0 v0 [] G1 h0 (show own_SB Z h0 o0 v0 [] from ⟨E0, F0, F1, F2, A0, hne, hok, hcs⟩) SC hG1) hown E0 (W_ hw 123 rfl) (W_ hw 124 rfl) (W_ hw 121 rfl) rfl (W_ hw 126 rfl) (W_ hw 125 rfl) (W_ hw 98 rfl) (W_ hw 127 rfl) (by decide) 0 rfl rfl (by decide) (by decide) (by decide) (by decide) (szOf hml rfl) (lenOf pd_4 rfl) rfl (Nat.le_of_eq rfl) (D d19_11)
  have K9 := fun t k => K7 t (st8 t k)
  have K10 : Own.To p e below B0 T8 (mkF m 18 #[vr o0, vi p1] [(.int p1)]) := fun t k => K9 t (by
    refine Own.ifNo X8 hx (D d19_14) ((if0 _ _).trans (feq (by decide : ¬ ((1 : Int32) = (0 : Int32)))).1) ?_
    refine Own.iloadN X8 hx (D d19_17) rfl ?_
    exact k)
  obtain ⟨T11, X11, e11, st11⟩ := Own.callP (Ls := #[vr o0, vi p1]) X8 hx hZ e8 [(.int p1)] [] (cCEN l Z a0 hw p1  h0 hp) hown (W_ hw 128 rfl) (W_ hw 129 rfl) (W_ hw 78 rfl) (W_ hw 130 rfl) (by decide) 0 rfl rfl (by decide) (by decide) (by decide) (by decide) (szOf hml rfl) (lenOf pd_5 rfl) rfl (Nat.le_of_eq rfl) (D d19_18)
  have K12 := fun t k => K10 t (st11 t k)
  have K13 : Own.To p e below B0 T11 (mkF m 25 #[vr o0, vi p1] [(.ref o0)]) := fun t k => K12 t (by
    refine Own.ifNo X11 hx (D d19_21) ((if0 _ _).trans (feq (by decide : ¬ ((1 : Int32) = (0 : Int32)))).1) ?_
    refine Own.aloadN X11 hx (D d19_24) rfl rfl ?_
    exact k)
  obtain ⟨T14, X14, e14, st14⟩ := Own.getF (Ls := #[vr o0, vi p1]) X11 hx hZ e11 hown (host := "") (Or.inl (W_ hw 102 rfl)) Via.refl F0 (S := []) (D d19_25)
  have K15 := fun t k => K13 t (st14 t k)
  have K16 : Own.To p e below B0 T14 (mkF m 30 #[vr o0, vi p1] [(.ref o0), (.ref o0), (.ref v0)]) := fun t k => K15 t (by
    refine Own.aloadN X14 hx (D d19_28) rfl rfl ?_
    refine Own.dup X14 hx (D d19_29) rfl ?_
    exact k)
  obtain ⟨T17, X17, e17, st17⟩ := Own.getF (Ls := #[vr o0, vi p1]) X14 hx hZ e14 hown (host := "") (Or.inl (W_ hw 116 rfl)) Via.refl F2 (S := [(.ref o0), (.ref v0)]) (D d19_30)
  have K18 := fun t k => K16 t (st17 t k)
  have K19 : Own.To p e below B0 T17 (mkF m 36 #[vr o0, vi p1] [(.int 1), (.ref o0), (.int 0), (.ref v0)]) := fun t k => K18 t (by
    refine Own.dupX1 X17 hx (D d19_33) rfl rfl ?_
    refine Own.iconst X17 hx 1 (D d19_34) rfl ?_
    refine Own.iadd X17 hx (D d19_35) ?_
    exact k)
  obtain ⟨T20, h20, L20, X20, e20, n20, W20, F20, st20⟩ := Own.putF (Ls := #[vr o0, vi p1]) (S := [(.int 0), (.ref v0)]) (v := (.int 1)) X17 hx hZ e17 hown (host := "") (Or.inl (W_ hw 116 rfl)) Via.refl F2 E0 (Or.inl (W_ hw 117 rfl)) (W_ hw 89 rfl) (ty := .int) (by decide) rfl rfl (D d19_36)
  have N20 : Fr n0 L20 := n20 n0 (Fr.nil _) g0
  have m21 : h0.size ≤ h20.size := Nat.le_of_eq W20.size.symm
  have K22 := fun t k => K19 t (st20 t k)
  have K23 : Own.To p e below B0 T20 (mkF m 41 #[vr o0, vi p1] [(.int (p1.toInt8.toInt32)), (.int 0), (.ref v0)]) := fun t k => K22 t (by
    refine Own.iloadN X20 hx (D d19_39) rfl ?_
    refine Own.i2b X20 hx (D d19_40) ?_
    exact k)
  have f24 := (A0.other W20 (Ne.symm hne))
  obtain ⟨T25, h25, L25, X25, e25, n25, W25, V25, st25⟩ := Own.stb (Ls := #[vr o0, vi p1]) (S := []) (x := (p1.toInt8.toInt32)) (j := (0 : Int32)) X20 hx hZ e20 f24 0 rfl (by decide) (show 0 < 16 by decide) (D d19_41)
  have V25 : Own.CA Z h25 v0 .byte [(StrChars.lo8 p1), (0 : Int32), (0 : Int32), (0 : Int32), (0 : Int32), (0 : Int32), (0 : Int32), (0 : Int32), (0 : Int32), (0 : Int32), (0 : Int32), (0 : Int32), (0 : Int32), (0 : Int32), (0 : Int32), (0 : Int32)] := (by rw [show (StrChars.lo8 p1) = nar .byte (p1.toInt8.toInt32) from (own_nb8 p1).symm]; exact V25)
  have N25 : Fr n0 L25 := n25 n0 N20 gv
  have m26 : h20.size ≤ h25.size := Nat.le_of_eq W25.size.symm
  have K27 := fun t k => K23 t (st25 t k)
  have K28 : Own.To p e below B0 T25 (mkF m 76 #[vr o0, vi p1] [(.ref o0)]) := fun t k => K27 t (by
    refine Own.goto X25 hx 75 (D d19_42) (by decide) (by decide) ?_
    refine Own.aloadN X25 hx (D d19_75) rfl rfl ?_
    exact k)
  have f29 := ((E0.wr W20).wr W25)
  have f30 := ((F0.other W20 (Or.inr (slot_ne (Or.inl (W_ hw 103 rfl)) (Or.inl (W_ hw 117 rfl)) (by decide) (t := (.array .byte)) (t' := .int) (by decide) (by decide)))).other W25 (Or.inl hne))
  have f31 := ((F1.other W20 (Or.inr (slot_ne (Or.inl (W_ hw 105 rfl)) (Or.inl (W_ hw 117 rfl)) (by decide) (t := .byte) (t' := .int) (by decide) (by decide)))).other W25 (Or.inl hne))
  have f32 := (F20.other W25 (Or.inl hne))
  have kp := (((Keep.refl h0 [o0, v0]).wr W20 (Or.inl (List.mem_of_getElem? (i := 0) rfl))).wr W25 (Or.inl (List.mem_of_getElem? (i := 1) rfl)))
  exact Own.finA X25 hx (BodyLoose.notSynchronized Bd) Bd.returns rfl rfl (D d19_76) K28 (by decide) (by decide) (by rw [e25]; exact ⟨rfl, N25, kp, f29, f30, f31, f32, V25, hne, fun c hc => by rw [List.mem_singleton.mp hc]; exact ⟨hp0, hp⟩, by simp⟩)

theorem d18_0 : decode J19 0 = .ok (.aload_n 0, 1) := by decide +kernel
theorem d18_1 : decode J19 1 = .ok (.iload_n 1, 1) := by decide +kernel
theorem d18_2 : decode J19 2 = .ok (.invokespecial 50, 3) := by decide +kernel
theorem d18_5 : decode J19 5 = .ok (.pop, 1) := by decide +kernel
theorem d18_6 : decode J19 6 = .ok (.aload_n 0, 1) := by decide +kernel
theorem d18_7 : decode J19 7 = .ok (.areturn, 1) := by decide +kernel
theorem pd_6 : parseMethodDescriptor "(C)Ljava/lang/AbstractStringBuilder;" = some ⟨[.char], some (.object "java/lang/AbstractStringBuilder")⟩ := by decide +kernel
theorem ef_18 (m : MethodId) (o0 : Addr) (p1 : Int32) : entryFrame m #[(.ref o0), (.int p1)] 2 = mkF m 0 #[.val (.ref o0), .val (.int p1)] [] := by first | (simp [entryFrame, mkF, argsToLocals, Value.category]; done) | rfl
set_option maxRecDepth 65536 in
set_option maxHeartbeats 40000000 in
theorem cSAPC (l : Launch) (Z : State) (a0 : Array Value) (hw : ∀ d ∈ tables_1, d.before a0 Z = true) (o0 : Addr) (p1 : Int32) (n0 : Nat) (v0 : Addr) (G1 : Int32) (h0 : Heap) (Z0 : n0 ≤ h0.size) (SBX : own_SB Z h0 o0 v0 []) (g0 : n0 ≤ o0) (gv : n0 ≤ v0) (hp0 : ¬ p1 < 0) (hp : ¬ (255 : Int32) < p1) (SC : Sta Z h0 "java/lang/String" "COMPACT_STRINGS" "Z" (.int G1)) (hG1 : ¬ G1 = 0) : Own.Con l Z (⟨"java/lang/StringBuilder", "append", "(C)Ljava/lang/StringBuilder;"⟩ : MethodName) jdk_67_method_14_code 2 (some (.object "java/lang/StringBuilder")) ({ frames := 2, cells := 0, slots := 0, locals := 27 } : Room) #[(.ref o0), (.int p1)] h0 (fun v h L => v = some (.ref o0) ∧ Fr n0 L ∧ Keep h0 h [o0, v0] ∧ own_SB Z h o0 v0 [p1]) := by
  intro ws
  refine MetFree.of_bodySF (plainFor_of_name pn_2) hisR ?_
  intro p e s m args below meth c s₁ Bd hml0 hP hK
  obtain ⟨rfl, hZ, hh⟩ := hP
  have hx := Bd.exec
  have hby := Bd.bytes
  have D := fun {n : Nat} {i} (d : decode jdk_67_method_14_code n = .ok i) => hb hby d
  have hml : c.maxLocals = 2 := hml0
  have hown : s.vm.findClass "java/lang/StringBuilder" = some m.cls := findClass_of_methodNamed Bd.named
  have hnm := (name_of_methodNamed Bd.named Bd.method).1
  have X0 : Stand p l e ({ frames := 2, cells := 0, slots := 0, locals := 27 } : Room) s m #[(.ref o0), (.int p1)] below meth c s₁ [] 0 0 := Stand.of_body Bd
  have e0 : s₁.heap = h0 := by rw [← hh, Bd.state]; rfl
  have K0 : ∀ t, Steps p.tables e below (s₁.setTop (mkF m 0 #[vr o0, vi p1] [])) t → Steps p.tables e below (s₁.setTop (entryFrame m #[(.ref o0), (.int p1)] 2)) t := fun t k => castTop (ef_18 m o0 p1) k
  generalize s₁.setTop (entryFrame m #[(.ref o0), (.int p1)] 2) = B0 at K0 ⊢
  show Own.Fin p e below B0 s (({ frames := 2, cells := 0, slots := 0, locals := 27 } : Room)).cells (({ frames := 2, cells := 0, slots := 0, locals := 27 } : Room)).slots (fun v h L => v = some (.ref o0) ∧ Fr n0 L ∧ Keep h0 h [o0, v0] ∧ own_SB Z h o0 v0 [p1])
  have K1 : Own.To p e below B0 s₁ (mkF m 2 #[vr o0, vi p1] [(.int p1), (.ref o0)]) := fun t k => K0 t (by
    refine Own.aloadN X0 hx (D d18_0) rfl rfl ?_
    refine Own.iloadN X0 hx (D d18_1) rfl ?_
    exact k)
  obtain ⟨T2, h2, v2, J2, L2, X2, e2, n2, hQ2, st2⟩ := Own.callSH (Ls := #[vr o0, vi p1]) X0 hx hZ e0 o0 [(.int p1)] [] (cAPC l Z a0 hw o0 p1 n0 v0 G1 h0 (Nat.le_trans Z0 (Nat.le_refl _)) SBX g0 gv hp0 hp SC hG1) hown SBX.exa (W_ hw 111 rfl) (W_ hw 113 rfl) (W_ hw 121 rfl) rfl (W_ hw 112 rfl) (W_ hw 98 rfl) (W_ hw 115 rfl) (by decide) (by decide) 0 (by decide) (by decide) (by decide) (by decide) (szOf hml rfl) (lenOf pd_6 rfl) rfl (Nat.le_of_eq rfl) (D d18_2)
  have X2 : Stand p l e ({ frames := 2, cells := 0, slots := 0, locals := 27 } : Room) s m #[(.ref o0), (.int p1)] below meth c T2 L2 0 0 := X2
  obtain ⟨rfl, NN2, K2, B2⟩ := hQ2
  have N2 : Fr n0 L2 := n2 n0 (Fr.nil _) NN2
  have m3 : h0.size ≤ h2.size := K2.1
  have K4 := fun t k => K1 t (st2 t k)
  have K5 : Own.To p e below B0 T2 (mkF m 7 #[vr o0, vi p1] [(.ref o0)]) := fun t k => K4 t (by
    refine Own.pop X2 hx (D d18_5) rfl ?_
    refine Own.aloadN X2 hx (D d18_6) rfl rfl ?_
    exact k)
  have kp := ((Keep.refl h0 [o0, v0]).trans K2 (allS (Or.inl (List.mem_of_getElem? (i := 0) rfl)) (allS (Or.inl (List.mem_of_getElem? (i := 1) rfl)) all0)))
  exact Own.finA X2 hx (BodyLoose.notSynchronized Bd) Bd.returns rfl rfl (D d18_7) K5 (by decide) (by decide) (by rw [e2]; exact ⟨rfl, N2, kp, B2⟩)

theorem d26_0 : decode J30 0 = .ok (.getstatic 18, 3) := by decide +kernel
theorem d26_3 : decode J30 3 = .ok (.ifCond .eq 18, 3) := by decide +kernel
theorem d26_6 : decode J30 6 = .ok (.aload_n 0, 1) := by decide +kernel
theorem d26_7 : decode J30 7 = .ok (.getfield 22, 3) := by decide +kernel
theorem d26_10 : decode J30 10 = .ok (.aload_n 1, 1) := by decide +kernel
theorem d26_11 : decode J30 11 = .ok (.invokevirtual 40, 3) := by decide +kernel
theorem d26_14 : decode J30 14 = .ok (.if_icmp .eq 7, 3) := by decide +kernel
theorem d26_21 : decode J30 21 = .ok (.return_, 1) := by decide +kernel
theorem ef_26 (m : MethodId) (o0 : Addr) (o1 : Addr) : entryFrame m #[(.ref o0), (.ref o1)] 2 = mkF m 0 #[.val (.ref o0), .val (.ref o1)] [] := by first | (simp [entryFrame, mkF, argsToLocals, Value.category]; done) | rfl
set_option maxRecDepth 65536 in
set_option maxHeartbeats 40000000 in
theorem cINF (l : Launch) (Z : State) (a0 : Array Value) (hw : ∀ d ∈ tables_1, d.before a0 Z = true) (o0 : Addr) (o1 : Addr) (v0 : Addr) (cs : List Int32) (ds : List Int32) (G1 : Int32) (h0 : Heap) (SBX : own_SB Z h0 o0 v0 cs) (TX : own_Txt Z h0 o1 ds) (SC : Sta Z h0 "java/lang/String" "COMPACT_STRINGS" "Z" (.int G1)) (hG1 : ¬ G1 = 0) : Own.Con l Z (⟨"java/lang/AbstractStringBuilder", "inflateIfNeededFor", "(Ljava/lang/String;)V"⟩ : MethodName) jdk_68_method_71_code 2 none ({ frames := 1, cells := 0, slots := 0, locals := 13 } : Room) #[(.ref o0), (.ref o1)] h0 (fun v h L => v = none ∧ L = [] ∧ h = h0) := by
  intro ws
  refine MetFree.of_bodySF (plainFor_of_name pn_1) hisR ?_
  intro p e s m args below meth c s₁ Bd hml0 hP hK
  obtain ⟨rfl, hZ, hh⟩ := hP
  have hx := Bd.exec
  have hby := Bd.bytes
  have D := fun {n : Nat} {i} (d : decode jdk_68_method_71_code n = .ok i) => hb hby d
  have hml : c.maxLocals = 2 := hml0
  have hown : s.vm.findClass "java/lang/AbstractStringBuilder" = some m.cls := findClass_of_methodNamed Bd.named
  have hnm := (name_of_methodNamed Bd.named Bd.method).1
  have X0 : Stand p l e ({ frames := 1, cells := 0, slots := 0, locals := 13 } : Room) s m #[(.ref o0), (.ref o1)] below meth c s₁ [] 0 0 := Stand.of_body Bd
  have e0 : s₁.heap = h0 := by rw [← hh, Bd.state]; rfl
  have K0 : ∀ t, Steps p.tables e below (s₁.setTop (mkF m 0 #[vr o0, vr o1] [])) t → Steps p.tables e below (s₁.setTop (entryFrame m #[(.ref o0), (.ref o1)] 2)) t := fun t k => castTop (ef_26 m o0 o1) k
  generalize s₁.setTop (entryFrame m #[(.ref o0), (.ref o1)] 2) = B0 at K0 ⊢
  show Own.Fin p e below B0 s (({ frames := 1, cells := 0, slots := 0, locals := 13 } : Room)).cells (({ frames := 1, cells := 0, slots := 0, locals := 13 } : Room)).slots (fun v h L => v = none ∧ L = [] ∧ h = h0)
  obtain ⟨E0, F0, F1, F2, A0, hne, hok, hcs⟩ := SBX
  obtain ⟨T1, X1, e1, st1⟩ := Own.getS (Ls := #[vr o0, vr o1]) X0 hx hZ e0 hown (host := "") (Or.inl (W_ hw 101 rfl)) Via.refl SC (S := []) (D d26_0)
  have K2 := fun t k => K0 t (st1 t k)
  have K3 : Own.To p e below B0 T1 (mkF m 7 #[vr o0, vr o1] [(.ref o0)]) := fun t k => K2 t (by
    refine Own.ifNo X1 hx (D d26_3) ((if0 _ _).trans (feq (hG1 : ¬ (G1 = (0 : Int32)))).1) ?_
    refine Own.aloadN X1 hx (D d26_6) rfl rfl ?_
    exact k)
  obtain ⟨T4, X4, e4, st4⟩ := Own.getF (Ls := #[vr o0, vr o1]) X1 hx hZ e1 hown (host := "") (Or.inl (W_ hw 104 rfl)) Via.refl F1 (S := []) (D d26_7)
  have K5 := fun t k => K3 t (st4 t k)
  have K6 : Own.To p e below B0 T4 (mkF m 11 #[vr o0, vr o1] [(.ref o1), (.int 0)]) := fun t k => K5 t (by
    refine Own.aloadN X4 hx (D d26_10) rfl rfl ?_
    exact k)
  obtain ⟨T7, X7, e7, st7⟩ := Own.callVHO (Ls := #[vr o0, vr o1]) X4 hx hZ e4 o1 [] [(.int 0)] (cSCO l Z a0 hw o1 ds G1 h0 TX SC hG1) hown TX.exa (W_ hw 151 rfl) (W_ hw 59 rfl) (W_ hw 56 rfl) rfl (W_ hw 61 rfl) (W_ hw 60 rfl) (W_ hw 9 rfl) (W_ hw 62 rfl) (by decide) 1 rfl rfl (by decide) (by decide) (by decide) (by decide) (szOf hml rfl) (lenOf pd_2 rfl) rfl (Nat.le_of_eq rfl) (D d26_11)
  have K8 := fun t k => K6 t (st7 t k)
  have K9 : Own.To p e below B0 T7 (mkF m 21 #[vr o0, vr o1] []) := fun t k => K8 t (by
    refine Own.icmpYes X7 hx 21 (D d26_14) (teq (by decide : (0 : Int32) = (0 : Int32))).1 (by decide) (by decide) ?_
    exact k)
  exact Own.finV X7 hx (BodyLoose.notSynchronized Bd) Bd.returns (D d26_21) K9 (by decide) (by decide) ⟨rfl, rfl, e7⟩

theorem d27_0 : decode J3 0 = .ok (.aload_n 0, 1) := by decide +kernel
theorem d27_1 : decode J3 1 = .ok (.invokevirtual 335, 3) := by decide +kernel
theorem d27_4 : decode J3 4 = .ok (.iload_n 3, 1) := by decide +kernel
theorem d27_5 : decode J3 5 = .ok (.if_icmp .ne 23, 3) := by decide +kernel
theorem d27_8 : decode J3 8 = .ok (.aload_n 0, 1) := by decide +kernel
theorem d27_9 : decode J3 9 = .ok (.getfield 9, 3) := by decide +kernel
theorem d27_12 : decode J3 12 = .ok (.iconst 0, 1) := by decide +kernel
theorem d27_13 : decode J3 13 = .ok (.aload_n 1, 1) := by decide +kernel
theorem d27_14 : decode J3 14 = .ok (.iload_n 2, 1) := by decide +kernel
theorem d27_15 : decode J3 15 = .ok (.iload_n 3, 1) := by decide +kernel
theorem d27_16 : decode J3 16 = .ok (.ishl, 1) := by decide +kernel
theorem d27_17 : decode J3 17 = .ok (.aload_n 0, 1) := by decide +kernel
theorem d27_18 : decode J3 18 = .ok (.getfield 9, 3) := by decide +kernel
theorem d27_21 : decode J3 21 = .ok (.arraylength, 1) := by decide +kernel
theorem d27_22 : decode J3 22 = .ok (.invokestatic 212, 3) := by decide +kernel
theorem d27_25 : decode J3 25 = .ok (.goto 18, 3) := by decide +kernel
theorem d27_43 : decode J3 43 = .ok (.return_, 1) := by decide +kernel
theorem ef_27 (m : MethodId) (o0 : Addr) (o1 : Addr) (p2 : Int32) (p3 : Int32) : entryFrame m #[(.ref o0), (.ref o1), (.int p2), (.int p3)] 4 = mkF m 0 #[.val (.ref o0), .val (.ref o1), .val (.int p2), .val (.int p3)] [] := by first | (simp [entryFrame, mkF, argsToLocals, Value.category]; done) | rfl
set_option maxRecDepth 65536 in
set_option maxHeartbeats 40000000 in
theorem cGB (l : Launch) (Z : State) (a0 : Array Value) (hw : ∀ d ∈ tables_1, d.before a0 Z = true) (o0 : Addr) (o1 : Addr) (p2 : Int32) (n0 : Nat) (cs : List Int32) (ds : List Int32) (G1 : Int32) (h0 : Heap) (Z0 : n0 ≤ h0.size) (TX : own_Txt Z h0 o0 ds) (A1 : Own.CA Z h0 o1 .byte (own_B cs)) (hp2 : p2 = Int32.ofNat cs.length) (hlen : cs.length + ds.length ≤ 16) (gv : n0 ≤ o1) (SC : Sta Z h0 "java/lang/String" "COMPACT_STRINGS" "Z" (.int G1)) (hG1 : ¬ G1 = 0) : Own.Con l Z (⟨"java/lang/String", "getBytes", "([BIB)V"⟩ : MethodName) jdk_42_method_147_code 4 none ({ frames := 1, cells := 0, slots := 0, locals := 18 } : Room) #[(.ref o0), (.ref o1), (.int p2), (.int 0)] h0 (fun v h L => v = none ∧ Fr n0 L ∧ Keep h0 h [o1] ∧ Own.CA Z h o1 .byte (own_B (cs ++ ds))) := by
  intro ws
  refine MetFree.of_bodySF (plainFor_of_name pn_0) hisR ?_
  intro p e s m args below meth c s₁ Bd hml0 hP hK
  obtain ⟨rfl, hZ, hh⟩ := hP
  have hx := Bd.exec
  have hby := Bd.bytes
  have D := fun {n : Nat} {i} (d : decode jdk_42_method_147_code n = .ok i) => hb hby d
  have hml : c.maxLocals = 4 := hml0
  have hown : s.vm.findClass "java/lang/String" = some m.cls := findClass_of_methodNamed Bd.named
  have hnm := (name_of_methodNamed Bd.named Bd.method).1
  have X0 : Stand p l e ({ frames := 1, cells := 0, slots := 0, locals := 18 } : Room) s m #[(.ref o0), (.ref o1), (.int p2), (.int 0)] below meth c s₁ [] 0 0 := Stand.of_body Bd
  have e0 : s₁.heap = h0 := by rw [← hh, Bd.state]; rfl
  have K0 : ∀ t, Steps p.tables e below (s₁.setTop (mkF m 0 #[vr o0, vr o1, vi p2, vi 0] [])) t → Steps p.tables e below (s₁.setTop (entryFrame m #[(.ref o0), (.ref o1), (.int p2), (.int 0)] 4)) t := fun t k => castTop (ef_27 m o0 o1 p2 (0 : Int32)) k
  generalize s₁.setTop (entryFrame m #[(.ref o0), (.ref o1), (.int p2), (.int 0)] 4) = B0 at K0 ⊢
  show Own.Fin p e below B0 s (({ frames := 1, cells := 0, slots := 0, locals := 18 } : Room)).cells (({ frames := 1, cells := 0, slots := 0, locals := 18 } : Room)).slots (fun v h L => v = none ∧ Fr n0 L ∧ Keep h0 h [o1] ∧ Own.CA Z h o1 .byte (own_B (cs ++ ds)))
  have hcs0 : cs.length ≤ 16 := by omega
  obtain ⟨t0, E0, F0, F1, A0, hok, hcs⟩ := TX.opn
  have K1 : Own.To p e below B0 s₁ (mkF m 1 #[vr o0, vr o1, vi p2, vi 0] [(.ref o0)]) := fun t k => K0 t (by
    refine Own.aloadN X0 hx (D d27_0) rfl rfl ?_
    exact k)
  obtain ⟨T2, X2, e2, st2⟩ := Own.callVHO (Ls := #[vr o0, vr o1, vi p2, vi 0]) X0 hx hZ e0 o0 [] [] (cSCO l Z a0 hw o0 ds G1 h0 TX SC hG1) hown E0 (W_ hw 58 rfl) (W_ hw 59 rfl) (W_ hw 56 rfl) rfl (W_ hw 61 rfl) (W_ hw 60 rfl) (W_ hw 9 rfl) (W_ hw 62 rfl) (by decide) 0 rfl rfl (by decide) (by decide) (by decide) (by decide) (szOf hml rfl) (lenOf pd_2 rfl) rfl (Nat.le_of_eq rfl) (D d27_1)
  have K3 := fun t k => K1 t (st2 t k)
  have K4 : Own.To p e below B0 T2 (mkF m 5 #[vr o0, vr o1, vi p2, vi 0] [(.int 0), (.int 0)]) := fun t k => K3 t (by
    refine Own.iloadN X2 hx (D d27_4) rfl ?_
    exact k)
  have K5 : Own.To p e below B0 T2 (mkF m 9 #[vr o0, vr o1, vi p2, vi 0] [(.ref o0)]) := fun t k => K4 t (by
    refine Own.icmpNo X2 hx (D d27_5) (teq (by decide : (0 : Int32) = (0 : Int32))).2 ?_
    refine Own.aloadN X2 hx (D d27_8) rfl rfl ?_
    exact k)
  obtain ⟨T6, X6, e6, st6⟩ := Own.getF (Ls := #[vr o0, vr o1, vi p2, vi 0]) X2 hx hZ e2 hown (host := "") (Or.inl (W_ hw 27 rfl)) Via.refl F0 (S := []) (D d27_9)
  have K7 := fun t k => K5 t (st6 t k)
  have K8 : Own.To p e below B0 T6 (mkF m 18 #[vr o0, vr o1, vi p2, vi 0] [(.ref o0), (.int (p2 <<< ((0 : Int32) &&& 31))), (.ref o1), (.int 0), (.ref t0)]) := fun t k => K7 t (by
    refine Own.iconst X6 hx 0 (D d27_12) rfl ?_
    refine Own.aloadN X6 hx (D d27_13) rfl rfl ?_
    refine Own.iloadN X6 hx (D d27_14) rfl ?_
    refine Own.iloadN X6 hx (D d27_15) rfl ?_
    refine Own.ishl X6 hx (D d27_16) ?_
    refine Own.aloadN X6 hx (D d27_17) rfl rfl ?_
    exact k)
  obtain ⟨T9, X9, e9, st9⟩ := Own.getF (Ls := #[vr o0, vr o1, vi p2, vi 0]) X6 hx hZ e6 hown (host := "") (Or.inl (W_ hw 27 rfl)) Via.refl F0 (S := [(.int (p2 <<< ((0 : Int32) &&& 31))), (.ref o1), (.int 0), (.ref t0)]) (D d27_18)
  have K10 := fun t k => K8 t (st9 t k)
  obtain ⟨cq11, Aq11, lq11⟩ := Own.CA.len A0
  rw [own_lo_len ds] at lq11
  have K12 : Own.To p e below B0 T9 (mkF m 22 #[vr o0, vr o1, vi p2, vi 0] [(.int (Int32.ofNat ds.length)), (.int (p2 <<< ((0 : Int32) &&& 31))), (.ref o1), (.int 0), (.ref t0)]) := fun t k => K10 t (by
    refine Own.arraylength X9 hx (Int32.ofNat ds.length) hZ e9 Aq11 lq11 (D d27_21) ?_
    exact k)
  obtain ⟨T13, h13, L13, X13, e13, N13, K13, V13, st13⟩ := Own.cpC (n0 := n0) (Ls := #[vr o0, vr o1, vi p2, vi 0]) X9 hx hZ e9 hown (W_ hw 157 rfl) (W_ hw 160 rfl) (W_ hw 158 rfl) (W_ hw 159 rfl) (ty := .byte) rfl A0 A1 0 cs.length ds.length rfl ((own_shl0 p2).trans hp2) rfl (by rw [own_lo_len]; omega) (by rw [own_B_len hcs0]; exact hlen) (Fr.nil _) gv [] 0 (by decide) (by decide) (by rw [hml]; rfl) (Nat.le_of_eq rfl) (D d27_22)
  have V13' : Own.CA Z h13 o1 .byte (own_B (cs ++ ds)) := Eq.mp (congrArg (Own.CA Z h13 o1 .byte) (own_B_app hlen)) V13
  have m14 : h0.size ≤ h13.size := K13.1
  have K15 := fun t k => K12 t (st13 t k)
  have K16 : Own.To p e below B0 T13 (mkF m 43 #[vr o0, vr o1, vi p2, vi 0] []) := fun t k => K15 t (by
    refine Own.goto X13 hx 43 (D d27_25) (by decide) (by decide) ?_
    exact k)
  have kp := ((Keep.refl h0 [o1]).trans K13 (allS (Or.inl (List.mem_of_getElem? (i := 0) rfl)) all0))
  exact Own.finV X13 hx (BodyLoose.notSynchronized Bd) Bd.returns (D d27_43) K16 (by decide) (by decide) (by rw [e13]; exact ⟨rfl, N13, kp, V13'⟩)

theorem d25_0 : decode J31 0 = .ok (.aload_n 0, 1) := by decide +kernel
theorem d25_1 : decode J31 1 = .ok (.aload_n 2, 1) := by decide +kernel
theorem d25_2 : decode J31 2 = .ok (.invokevirtual 397, 3) := by decide +kernel
theorem d25_5 : decode J31 5 = .ok (.aload_n 2, 1) := by decide +kernel
theorem d25_6 : decode J31 6 = .ok (.aload_n 0, 1) := by decide +kernel
theorem d25_7 : decode J31 7 = .ok (.getfield 15, 3) := by decide +kernel
theorem d25_10 : decode J31 10 = .ok (.iload_n 1, 1) := by decide +kernel
theorem d25_11 : decode J31 11 = .ok (.aload_n 0, 1) := by decide +kernel
theorem d25_12 : decode J31 12 = .ok (.getfield 22, 3) := by decide +kernel
theorem d25_15 : decode J31 15 = .ok (.invokevirtual 399, 3) := by decide +kernel
theorem d25_18 : decode J31 18 = .ok (.return_, 1) := by decide +kernel
theorem pd_7 : parseMethodDescriptor "(Ljava/lang/String;)V" = some ⟨[(.object "java/lang/String")], none⟩ := by decide +kernel
theorem pd_8 : parseMethodDescriptor "([BIB)V" = some ⟨[(.array .byte), .int, .byte], none⟩ := by decide +kernel
theorem ef_25 (m : MethodId) (o0 : Addr) (p1 : Int32) (o2 : Addr) : entryFrame m #[(.ref o0), (.int p1), (.ref o2)] 3 = mkF m 0 #[.val (.ref o0), .val (.int p1), .val (.ref o2)] [] := by first | (simp [entryFrame, mkF, argsToLocals, Value.category]; done) | rfl
set_option maxRecDepth 65536 in
set_option maxHeartbeats 40000000 in
theorem cPUT (l : Launch) (Z : State) (a0 : Array Value) (hw : ∀ d ∈ tables_1, d.before a0 Z = true) (o0 : Addr) (p1 : Int32) (o2 : Addr) (n0 : Nat) (v0 : Addr) (cs : List Int32) (ds : List Int32) (G1 : Int32) (h0 : Heap) (Z0 : n0 ≤ h0.size) (SBX : own_SB Z h0 o0 v0 cs) (TX : own_Txt Z h0 o2 ds) (hp1 : p1 = Int32.ofNat cs.length) (hlen : cs.length + ds.length ≤ 16) (gv : n0 ≤ v0) (SC : Sta Z h0 "java/lang/String" "COMPACT_STRINGS" "Z" (.int G1)) (hG1 : ¬ G1 = 0) : Own.Con l Z (⟨"java/lang/AbstractStringBuilder", "putStringAt", "(ILjava/lang/String;)V"⟩ : MethodName) jdk_68_method_73_code 3 none ({ frames := 2, cells := 0, slots := 0, locals := 33 } : Room) #[(.ref o0), (.int p1), (.ref o2)] h0 (fun v h L => v = none ∧ Fr n0 L ∧ Keep h0 h [v0] ∧ Own.CA Z h v0 .byte (own_B (cs ++ ds))) := by
  intro ws
  refine MetFree.of_bodySF (plainFor_of_name pn_1) hisR ?_
  intro p e s m args below meth c s₁ Bd hml0 hP hK
  obtain ⟨rfl, hZ, hh⟩ := hP
  have hx := Bd.exec
  have hby := Bd.bytes
  have D := fun {n : Nat} {i} (d : decode jdk_68_method_73_code n = .ok i) => hb hby d
  have hml : c.maxLocals = 3 := hml0
  have hown : s.vm.findClass "java/lang/AbstractStringBuilder" = some m.cls := findClass_of_methodNamed Bd.named
  have hnm := (name_of_methodNamed Bd.named Bd.method).1
  have X0 : Stand p l e ({ frames := 2, cells := 0, slots := 0, locals := 33 } : Room) s m #[(.ref o0), (.int p1), (.ref o2)] below meth c s₁ [] 0 0 := Stand.of_body Bd
  have e0 : s₁.heap = h0 := by rw [← hh, Bd.state]; rfl
  have K0 : ∀ t, Steps p.tables e below (s₁.setTop (mkF m 0 #[vr o0, vi p1, vr o2] [])) t → Steps p.tables e below (s₁.setTop (entryFrame m #[(.ref o0), (.int p1), (.ref o2)] 3)) t := fun t k => castTop (ef_25 m o0 p1 o2) k
  generalize s₁.setTop (entryFrame m #[(.ref o0), (.int p1), (.ref o2)] 3) = B0 at K0 ⊢
  show Own.Fin p e below B0 s (({ frames := 2, cells := 0, slots := 0, locals := 33 } : Room)).cells (({ frames := 2, cells := 0, slots := 0, locals := 33 } : Room)).slots (fun v h L => v = none ∧ Fr n0 L ∧ Keep h0 h [v0] ∧ Own.CA Z h v0 .byte (own_B (cs ++ ds)))
  obtain ⟨E0, F0, F1, F2, A0, hne, hok, hcs⟩ := SBX
  have K1 : Own.To p e below B0 s₁ (mkF m 2 #[vr o0, vi p1, vr o2] [(.ref o2), (.ref o0)]) := fun t k => K0 t (by
    refine Own.aloadN X0 hx (D d25_0) rfl rfl ?_
    refine Own.aloadN X0 hx (D d25_1) rfl rfl ?_
    exact k)
  obtain ⟨T2, X2, e2, st2⟩ := Own.callVHO (Ls := #[vr o0, vi p1, vr o2]) X0 hx hZ e0 o0 [(.ref o2)] [] (cINF l Z a0 hw o0 o2 v0 cs ds G1 h0 (show own_SB Z h0 o0 v0 cs from ⟨E0, F0, F1, F2, A0, hne, hok, hcs⟩) TX SC hG1) hown E0 (W_ hw 146 rfl) (Own.declOf (W_ hw 147 rfl) (W_ hw 150 rfl)) (W_ hw 121 rfl) rfl (W_ hw 149 rfl) (W_ hw 147 rfl) (W_ hw 98 rfl) (W_ hw 150 rfl) (by decide) 0 rfl rfl (by decide) (by decide) (by decide) (by decide) (szOf hml rfl) (lenOf pd_7 rfl) rfl (Nat.le_of_eq rfl) (D d25_2)
  have K3 := fun t k => K1 t (st2 t k)
  have K4 : Own.To p e below B0 T2 (mkF m 7 #[vr o0, vi p1, vr o2] [(.ref o0), (.ref o2)]) := fun t k => K3 t (by
    refine Own.aloadN X2 hx (D d25_5) rfl rfl ?_
    refine Own.aloadN X2 hx (D d25_6) rfl rfl ?_
    exact k)
  obtain ⟨T5, X5, e5, st5⟩ := Own.getF (Ls := #[vr o0, vi p1, vr o2]) X2 hx hZ e2 hown (host := "") (Or.inl (W_ hw 102 rfl)) Via.refl F0 (S := [(.ref o2)]) (D d25_7)
  have K6 := fun t k => K4 t (st5 t k)
  have K7 : Own.To p e below B0 T5 (mkF m 12 #[vr o0, vi p1, vr o2] [(.ref o0), (.int p1), (.ref v0), (.ref o2)]) := fun t k => K6 t (by
    refine Own.iloadN X5 hx (D d25_10) rfl ?_
    refine Own.aloadN X5 hx (D d25_11) rfl rfl ?_
    exact k)
  obtain ⟨T8, X8, e8, st8⟩ := Own.getF (Ls := #[vr o0, vi p1, vr o2]) X5 hx hZ e5 hown (host := "") (Or.inl (W_ hw 104 rfl)) Via.refl F1 (S := [(.int p1), (.ref v0), (.ref o2)]) (D d25_12)
  have K9 := fun t k => K7 t (st8 t k)
  obtain ⟨T10, h10, v10, J10, L10, X10, e10, n10, hQ10, st10⟩ := Own.callVH (Ls := #[vr o0, vi p1, vr o2]) X8 hx hZ e8 o2 [(.ref v0), (.int p1), (.int 0)] [] (cGB l Z a0 hw o2 v0 p1 n0 cs ds G1 h0 (Nat.le_trans Z0 (Nat.le_refl _)) TX A0 hp1 hlen gv SC hG1) hown TX.exa (W_ hw 152 rfl) (W_ hw 153 rfl) (W_ hw 56 rfl) rfl (W_ hw 155 rfl) (W_ hw 154 rfl) (W_ hw 9 rfl) (W_ hw 156 rfl) (by decide) 0 (by decide) (by decide) (by decide) (by decide) (szOf hml rfl) (lenOf pd_8 rfl) rfl (Nat.le_of_eq rfl) (D d25_15)
  have X10 : Stand p l e ({ frames := 2, cells := 0, slots := 0, locals := 33 } : Room) s m #[(.ref o0), (.int p1), (.ref o2)] below meth c T10 L10 0 0 := X10
  obtain ⟨rfl, NN10, K10, V10⟩ := hQ10
  have N10 : Fr n0 L10 := n10 n0 (Fr.nil _) NN10
  have m11 : h0.size ≤ h10.size := K10.1
  have K12 := fun t k => K9 t (st10 t k)
  have kp := ((Keep.refl h0 [v0]).trans K10 (allS (Or.inl (List.mem_of_getElem? (i := 0) rfl)) all0))
  exact Own.finV X10 hx (BodyLoose.notSynchronized Bd) Bd.returns (D d25_18) K12 (by decide) (by decide) (by rw [e10]; exact ⟨rfl, N10, kp, V10⟩)

theorem d24_0 : decode J24 0 = .ok (.aload_n 1, 1) := by decide +kernel
theorem d24_1 : decode J24 1 = .ok (.ifnonnull 8, 3) := by decide +kernel
theorem d24_9 : decode J24 9 = .ok (.aload_n 1, 1) := by decide +kernel
theorem d24_10 : decode J24 10 = .ok (.invokevirtual 32, 3) := by decide +kernel
theorem d24_13 : decode J24 13 = .ok (.istore_n 2, 1) := by decide +kernel
theorem d24_14 : decode J24 14 = .ok (.aload_n 0, 1) := by decide +kernel
theorem d24_15 : decode J24 15 = .ok (.aload_n 0, 1) := by decide +kernel
theorem d24_16 : decode J24 16 = .ok (.getfield 79, 3) := by decide +kernel
theorem d24_19 : decode J24 19 = .ok (.iload_n 2, 1) := by decide +kernel
theorem d24_20 : decode J24 20 = .ok (.iadd, 1) := by decide +kernel
theorem d24_21 : decode J24 21 = .ok (.invokevirtual 100, 3) := by decide +kernel
theorem d24_24 : decode J24 24 = .ok (.aload_n 0, 1) := by decide +kernel
theorem d24_25 : decode J24 25 = .ok (.aload_n 0, 1) := by decide +kernel
theorem d24_26 : decode J24 26 = .ok (.getfield 79, 3) := by decide +kernel
theorem d24_29 : decode J24 29 = .ok (.aload_n 1, 1) := by decide +kernel
theorem d24_30 : decode J24 30 = .ok (.invokevirtual 208, 3) := by decide +kernel
theorem d24_33 : decode J24 33 = .ok (.aload_n 0, 1) := by decide +kernel
theorem d24_34 : decode J24 34 = .ok (.dup, 1) := by decide +kernel
theorem d24_35 : decode J24 35 = .ok (.getfield 79, 3) := by decide +kernel
theorem d24_38 : decode J24 38 = .ok (.iload_n 2, 1) := by decide +kernel
theorem d24_39 : decode J24 39 = .ok (.iadd, 1) := by decide +kernel
theorem d24_40 : decode J24 40 = .ok (.putfield 79, 3) := by decide +kernel
theorem d24_43 : decode J24 43 = .ok (.aload_n 0, 1) := by decide +kernel
theorem d24_44 : decode J24 44 = .ok (.areturn, 1) := by decide +kernel
theorem pd_9 : parseMethodDescriptor "(ILjava/lang/String;)V" = some ⟨[.int, (.object "java/lang/String")], none⟩ := by decide +kernel
theorem ef_24 (m : MethodId) (o0 : Addr) (o1 : Addr) : entryFrame m #[(.ref o0), (.ref o1)] 3 = mkF m 0 #[.val (.ref o0), .val (.ref o1), .unset] [] := by first | (simp [entryFrame, mkF, argsToLocals, Value.category]; done) | rfl
set_option maxRecDepth 65536 in
set_option maxHeartbeats 40000000 in
theorem cAS (l : Launch) (Z : State) (a0 : Array Value) (hw : ∀ d ∈ tables_1, d.before a0 Z = true) (o0 : Addr) (o1 : Addr) (n0 : Nat) (v0 : Addr) (cs : List Int32) (ds : List Int32) (G1 : Int32) (h0 : Heap) (Z0 : n0 ≤ h0.size) (SBX : own_SB Z h0 o0 v0 cs) (TX : own_Txt Z h0 o1 ds) (hlen : cs.length + ds.length ≤ 16) (g0 : n0 ≤ o0) (gv : n0 ≤ v0) (SC : Sta Z h0 "java/lang/String" "COMPACT_STRINGS" "Z" (.int G1)) (hG1 : ¬ G1 = 0) : Own.Con l Z (⟨"java/lang/AbstractStringBuilder", "append", "(Ljava/lang/String;)Ljava/lang/AbstractStringBuilder;"⟩ : MethodName) jdk_68_method_22_code 3 (some (.object "java/lang/AbstractStringBuilder")) ({ frames := 3, cells := 0, slots := 0, locals := 47 } : Room) #[(.ref o0), (.ref o1)] h0 (fun v h L => v = some (.ref o0) ∧ Fr n0 L ∧ Keep h0 h [o0, v0] ∧ own_SB Z h o0 v0 (cs ++ ds)) := by
  intro ws
  refine MetFree.of_bodySF (plainFor_of_name pn_1) hisR ?_
  intro p e s m args below meth c s₁ Bd hml0 hP hK
  obtain ⟨rfl, hZ, hh⟩ := hP
  have hx := Bd.exec
  have hby := Bd.bytes
  have D := fun {n : Nat} {i} (d : decode jdk_68_method_22_code n = .ok i) => hb hby d
  have hml : c.maxLocals = 3 := hml0
  have hown : s.vm.findClass "java/lang/AbstractStringBuilder" = some m.cls := findClass_of_methodNamed Bd.named
  have hnm := (name_of_methodNamed Bd.named Bd.method).1
  have X0 : Stand p l e ({ frames := 3, cells := 0, slots := 0, locals := 47 } : Room) s m #[(.ref o0), (.ref o1)] below meth c s₁ [] 0 0 := Stand.of_body Bd
  have e0 : s₁.heap = h0 := by rw [← hh, Bd.state]; rfl
  have K0 : ∀ t, Steps p.tables e below (s₁.setTop (mkF m 0 #[vr o0, vr o1, .unset] [])) t → Steps p.tables e below (s₁.setTop (entryFrame m #[(.ref o0), (.ref o1)] 3)) t := fun t k => castTop (ef_24 m o0 o1) k
  generalize s₁.setTop (entryFrame m #[(.ref o0), (.ref o1)] 3) = B0 at K0 ⊢
  show Own.Fin p e below B0 s (({ frames := 3, cells := 0, slots := 0, locals := 47 } : Room)).cells (({ frames := 3, cells := 0, slots := 0, locals := 47 } : Room)).slots (fun v h L => v = some (.ref o0) ∧ Fr n0 L ∧ Keep h0 h [o0, v0] ∧ own_SB Z h o0 v0 (cs ++ ds))
  obtain ⟨E0, F0, F1, F2, A0, hne, hok, hcs⟩ := SBX
  have K1 : Own.To p e below B0 s₁ (mkF m 10 #[vr o0, vr o1, .unset] [(.ref o1)]) := fun t k => K0 t (by
    refine Own.aloadN X0 hx (D d24_0) rfl rfl ?_
    refine Own.ifnonnullYes X0 hx 9 (D d24_1) (by decide) (by decide) ?_
    refine Own.aloadN X0 hx (D d24_9) rfl rfl ?_
    exact k)
  obtain ⟨T2, X2, e2, st2⟩ := Own.callVHO (Ls := #[vr o0, vr o1, .unset]) X0 hx hZ e0 o1 [] [] (cSLN l Z a0 hw o1 ds G1 h0 TX SC hG1) hown TX.exa (W_ hw 140 rfl) (W_ hw 54 rfl) (W_ hw 56 rfl) rfl (W_ hw 56 rfl) (W_ hw 55 rfl) (W_ hw 9 rfl) (W_ hw 57 rfl) (by decide) 0 rfl rfl (by decide) (by decide) (by decide) (by decide) (szOf hml rfl) (lenOf pd_3 rfl) rfl (Nat.le_of_eq rfl) (D d24_10)
  have K3 := fun t k => K1 t (st2 t k)
  have K4 : Own.To p e below B0 T2 (mkF m 16 #[vr o0, vr o1, vi (Int32.ofNat ds.length)] [(.ref o0), (.ref o0)]) := fun t k => K3 t (by
    refine Own.istoreN X2 hx #[vr o0, vr o1, vi (Int32.ofNat ds.length)] (D d24_13) rfl ?_
    refine Own.aloadN X2 hx (D d24_14) rfl rfl ?_
    refine Own.aloadN X2 hx (D d24_15) rfl rfl ?_
    exact k)
  obtain ⟨T5, X5, e5, st5⟩ := Own.getF (Ls := #[vr o0, vr o1, vi (Int32.ofNat ds.length)]) X2 hx hZ e2 hown (host := "") (Or.inl (W_ hw 116 rfl)) Via.refl F2 (S := [(.ref o0)]) (D d24_16)
  have K6 := fun t k => K4 t (st5 t k)
  have K7 : Own.To p e below B0 T5 (mkF m 21 #[vr o0, vr o1, vi (Int32.ofNat ds.length)] [(.int ((Int32.ofNat cs.length) + (Int32.ofNat ds.length))), (.ref o0)]) := fun t k => K6 t (by
    refine Own.iloadN X5 hx (D d24_19) rfl ?_
    refine Own.iadd X5 hx (D d24_20) ?_
    exact k)
  obtain ⟨T8, X8, e8, st8⟩ := Own.callVHO (Ls := #[vr o0, vr o1, vi (Int32.ofNat ds.length)]) X5 hx hZ e5 o0 [(.int ((Int32.ofNat cs.length) + (Int32.ofNat ds.length)))] [] (cENS l Z a0 hw o0 ((Int32.ofNat cs.length) + (Int32.ofNat ds.length)) v0 cs h0 (show own_SB Z h0 o0 v0 cs from ⟨E0, F0, F1, F2, A0, hne, hok, hcs⟩) (own_cap hlen)) hown E0 (W_ hw 118 rfl) (Own.declOf (W_ hw 119 rfl) (W_ hw 122 rfl)) (W_ hw 121 rfl) rfl (W_ hw 121 rfl) (W_ hw 119 rfl) (W_ hw 98 rfl) (W_ hw 122 rfl) (by decide) 0 rfl rfl (by decide) (by decide) (by decide) (by decide) (szOf hml rfl) (lenOf pd_1 rfl) rfl (Nat.le_of_eq rfl) (D d24_21)
  have K9 := fun t k => K7 t (st8 t k)
  have K10 : Own.To p e below B0 T8 (mkF m 26 #[vr o0, vr o1, vi (Int32.ofNat ds.length)] [(.ref o0), (.ref o0)]) := fun t k => K9 t (by
    refine Own.aloadN X8 hx (D d24_24) rfl rfl ?_
    refine Own.aloadN X8 hx (D d24_25) rfl rfl ?_
    exact k)
  obtain ⟨T11, X11, e11, st11⟩ := Own.getF (Ls := #[vr o0, vr o1, vi (Int32.ofNat ds.length)]) X8 hx hZ e8 hown (host := "") (Or.inl (W_ hw 116 rfl)) Via.refl F2 (S := [(.ref o0)]) (D d24_26)
  have K12 := fun t k => K10 t (st11 t k)
  have K13 : Own.To p e below B0 T11 (mkF m 30 #[vr o0, vr o1, vi (Int32.ofNat ds.length)] [(.ref o1), (.int (Int32.ofNat cs.length)), (.ref o0)]) := fun t k => K12 t (by
    refine Own.aloadN X11 hx (D d24_29) rfl rfl ?_
    exact k)
  obtain ⟨T14, h14, v14, J14, L14, X14, e14, n14, hQ14, st14⟩ := Own.callVH (Ls := #[vr o0, vr o1, vi (Int32.ofNat ds.length)]) X11 hx hZ e11 o0 [(.int (Int32.ofNat cs.length)), (.ref o1)] [] (cPUT l Z a0 hw o0 (Int32.ofNat cs.length) o1 n0 v0 cs ds G1 h0 (Nat.le_trans Z0 (Nat.le_refl _)) (show own_SB Z h0 o0 v0 cs from ⟨E0, F0, F1, F2, A0, hne, hok, hcs⟩) TX rfl hlen gv SC hG1) hown E0 (W_ hw 141 rfl) (Own.declOf (W_ hw 142 rfl) (W_ hw 145 rfl)) (W_ hw 121 rfl) rfl (W_ hw 144 rfl) (W_ hw 142 rfl) (W_ hw 98 rfl) (W_ hw 145 rfl) (by decide) 0 (by decide) (by decide) (by decide) (by decide) (szOf hml rfl) (lenOf pd_9 rfl) rfl (Nat.le_of_eq rfl) (D d24_30)
  have X14 : Stand p l e ({ frames := 3, cells := 0, slots := 0, locals := 47 } : Room) s m #[(.ref o0), (.ref o1)] below meth c T14 L14 0 0 := X14
  obtain ⟨rfl, NN14, K14, V14⟩ := hQ14
  have N14 : Fr n0 L14 := n14 n0 (Fr.nil _) NN14
  have m15 : h0.size ≤ h14.size := K14.1
  have K16 := fun t k => K13 t (st14 t k)
  have K17 : Own.To p e below B0 T14 (mkF m 35 #[vr o0, vr o1, vi (Int32.ofNat ds.length)] [(.ref o0), (.ref o0)]) := fun t k => K16 t (by
    refine Own.aloadN X14 hx (D d24_33) rfl rfl ?_
    refine Own.dup X14 hx (D d24_34) rfl ?_
    exact k)
  have f18 := (F2.keep K14 (ninS hne nin0))
  obtain ⟨T19, X19, e19, st19⟩ := Own.getF (Ls := #[vr o0, vr o1, vi (Int32.ofNat ds.length)]) X14 hx hZ e14 hown (host := "") (Or.inl (W_ hw 116 rfl)) Via.refl f18 (S := [(.ref o0)]) (D d24_35)
  have K20 := fun t k => K17 t (st19 t k)
  have K21 : Own.To p e below B0 T19 (mkF m 40 #[vr o0, vr o1, vi (Int32.ofNat ds.length)] [(.int ((Int32.ofNat cs.length) + (Int32.ofNat ds.length))), (.ref o0)]) := fun t k => K20 t (by
    refine Own.iloadN X19 hx (D d24_38) rfl ?_
    refine Own.iadd X19 hx (D d24_39) ?_
    exact k)
  have f22 := (E0.keep K14)
  obtain ⟨T23, h23, L23, X23, e23, n23, W23, F23, st23⟩ := Own.putF (Ls := #[vr o0, vr o1, vi (Int32.ofNat ds.length)]) (S := []) (v := (.int ((Int32.ofNat cs.length) + (Int32.ofNat ds.length)))) X19 hx hZ e19 hown (host := "") (Or.inl (W_ hw 116 rfl)) Via.refl f18 f22 (Or.inl (W_ hw 117 rfl)) (W_ hw 89 rfl) (ty := .int) (by decide) rfl rfl (D d24_40)
  have N23 : Fr n0 L23 := n23 n0 N14 g0
  have m24 : h14.size ≤ h23.size := Nat.le_of_eq W23.size.symm
  have K25 := fun t k => K21 t (st23 t k)
  have K26 : Own.To p e below B0 T23 (mkF m 44 #[vr o0, vr o1, vi (Int32.ofNat ds.length)] [(.ref o0)]) := fun t k => K25 t (by
    refine Own.aloadN X23 hx (D d24_43) rfl rfl ?_
    exact k)
  have f27 := (f22.wr W23)
  have f28 := ((F0.keep K14 (ninS hne nin0)).other W23 (Or.inr (slot_ne (Or.inl (W_ hw 103 rfl)) (Or.inl (W_ hw 117 rfl)) (by decide) (t := (.array .byte)) (t' := .int) (by decide) (by decide))))
  have f29 := ((F1.keep K14 (ninS hne nin0)).other W23 (Or.inr (slot_ne (Or.inl (W_ hw 105 rfl)) (Or.inl (W_ hw 117 rfl)) (by decide) (t := .byte) (t' := .int) (by decide) (by decide))))
  have f30 := (V14.other W23 (Ne.symm hne))
  have kp := (((Keep.refl h0 [o0, v0]).trans K14 (allS (Or.inl (List.mem_of_getElem? (i := 1) rfl)) all0)).wr W23 (Or.inl (List.mem_of_getElem? (i := 0) rfl)))
  have cn : Fld Z h23 o0 "java/lang/AbstractStringBuilder" "count" "I" (.int (Int32.ofNat (cs ++ ds).length)) := by rw [List.length_append, Int32.ofNat_add]; exact F23
  have okk : ∀ c ∈ cs ++ ds, ¬ c < 0 ∧ ¬ (255 : Int32) < c := fun c hc => (List.mem_append.mp hc).elim (hok c) (TX.opn.elim fun _ q => q.2.2.2.2.1 c)
  exact Own.finA X23 hx (BodyLoose.notSynchronized Bd) Bd.returns rfl rfl (D d24_44) K26 (by decide) (by decide) (by rw [e23]; exact ⟨rfl, N23, kp, f27, f28, f29, cn, f30, hne, okk, by rw [List.length_append]; exact hlen⟩)

theorem d23_0 : decode J22 0 = .ok (.aload_n 0, 1) := by decide +kernel
theorem d23_1 : decode J22 1 = .ok (.aload_n 1, 1) := by decide +kernel
theorem d23_2 : decode J22 2 = .ok (.invokespecial 29, 3) := by decide +kernel
theorem d23_5 : decode J22 5 = .ok (.pop, 1) := by decide +kernel
theorem d23_6 : decode J22 6 = .ok (.aload_n 0, 1) := by decide +kernel
theorem d23_7 : decode J22 7 = .ok (.areturn, 1) := by decide +kernel
theorem pd_10 : parseMethodDescriptor "(Ljava/lang/String;)Ljava/lang/AbstractStringBuilder;" = some ⟨[(.object "java/lang/String")], some (.object "java/lang/AbstractStringBuilder")⟩ := by decide +kernel
theorem ef_23 (m : MethodId) (o0 : Addr) (o1 : Addr) : entryFrame m #[(.ref o0), (.ref o1)] 2 = mkF m 0 #[.val (.ref o0), .val (.ref o1)] [] := by first | (simp [entryFrame, mkF, argsToLocals, Value.category]; done) | rfl
set_option maxRecDepth 65536 in
set_option maxHeartbeats 40000000 in
theorem cSAS (l : Launch) (Z : State) (a0 : Array Value) (hw : ∀ d ∈ tables_1, d.before a0 Z = true) (o0 : Addr) (o1 : Addr) (n0 : Nat) (v0 : Addr) (cs : List Int32) (ds : List Int32) (G1 : Int32) (h0 : Heap) (Z0 : n0 ≤ h0.size) (SBX : own_SB Z h0 o0 v0 cs) (TX : own_Txt Z h0 o1 ds) (hlen : cs.length + ds.length ≤ 16) (g0 : n0 ≤ o0) (gv : n0 ≤ v0) (SC : Sta Z h0 "java/lang/String" "COMPACT_STRINGS" "Z" (.int G1)) (hG1 : ¬ G1 = 0) : Own.Con l Z (⟨"java/lang/StringBuilder", "append", "(Ljava/lang/String;)Ljava/lang/StringBuilder;"⟩ : MethodName) jdk_67_method_7_code 2 (some (.object "java/lang/StringBuilder")) ({ frames := 4, cells := 0, slots := 0, locals := 61 } : Room) #[(.ref o0), (.ref o1)] h0 (fun v h L => v = some (.ref o0) ∧ Fr n0 L ∧ Keep h0 h [o0, v0] ∧ own_SB Z h o0 v0 (cs ++ ds)) := by
  intro ws
  refine MetFree.of_bodySF (plainFor_of_name pn_2) hisR ?_
  intro p e s m args below meth c s₁ Bd hml0 hP hK
  obtain ⟨rfl, hZ, hh⟩ := hP
  have hx := Bd.exec
  have hby := Bd.bytes
  have D := fun {n : Nat} {i} (d : decode jdk_67_method_7_code n = .ok i) => hb hby d
  have hml : c.maxLocals = 2 := hml0
  have hown : s.vm.findClass "java/lang/StringBuilder" = some m.cls := findClass_of_methodNamed Bd.named
  have hnm := (name_of_methodNamed Bd.named Bd.method).1
  have X0 : Stand p l e ({ frames := 4, cells := 0, slots := 0, locals := 61 } : Room) s m #[(.ref o0), (.ref o1)] below meth c s₁ [] 0 0 := Stand.of_body Bd
  have e0 : s₁.heap = h0 := by rw [← hh, Bd.state]; rfl
  have K0 : ∀ t, Steps p.tables e below (s₁.setTop (mkF m 0 #[vr o0, vr o1] [])) t → Steps p.tables e below (s₁.setTop (entryFrame m #[(.ref o0), (.ref o1)] 2)) t := fun t k => castTop (ef_23 m o0 o1) k
  generalize s₁.setTop (entryFrame m #[(.ref o0), (.ref o1)] 2) = B0 at K0 ⊢
  show Own.Fin p e below B0 s (({ frames := 4, cells := 0, slots := 0, locals := 61 } : Room)).cells (({ frames := 4, cells := 0, slots := 0, locals := 61 } : Room)).slots (fun v h L => v = some (.ref o0) ∧ Fr n0 L ∧ Keep h0 h [o0, v0] ∧ own_SB Z h o0 v0 (cs ++ ds))
  have K1 : Own.To p e below B0 s₁ (mkF m 2 #[vr o0, vr o1] [(.ref o1), (.ref o0)]) := fun t k => K0 t (by
    refine Own.aloadN X0 hx (D d23_0) rfl rfl ?_
    refine Own.aloadN X0 hx (D d23_1) rfl rfl ?_
    exact k)
  obtain ⟨T2, h2, v2, J2, L2, X2, e2, n2, hQ2, st2⟩ := Own.callSH (Ls := #[vr o0, vr o1]) X0 hx hZ e0 o0 [(.ref o1)] [] (cAS l Z a0 hw o0 o1 n0 v0 cs ds G1 h0 (Nat.le_trans Z0 (Nat.le_refl _)) SBX TX hlen g0 gv SC hG1) hown SBX.exa (W_ hw 136 rfl) (W_ hw 113 rfl) (W_ hw 121 rfl) rfl (W_ hw 137 rfl) (W_ hw 98 rfl) (W_ hw 139 rfl) (by decide) (by decide) 0 (by decide) (by decide) (by decide) (by decide) (szOf hml rfl) (lenOf pd_10 rfl) rfl (Nat.le_of_eq rfl) (D d23_2)
  have X2 : Stand p l e ({ frames := 4, cells := 0, slots := 0, locals := 61 } : Room) s m #[(.ref o0), (.ref o1)] below meth c T2 L2 0 0 := X2
  obtain ⟨rfl, NN2, K2, B2⟩ := hQ2
  have N2 : Fr n0 L2 := n2 n0 (Fr.nil _) NN2
  have m3 : h0.size ≤ h2.size := K2.1
  have K4 := fun t k => K1 t (st2 t k)
  have K5 : Own.To p e below B0 T2 (mkF m 7 #[vr o0, vr o1] [(.ref o0)]) := fun t k => K4 t (by
    refine Own.pop X2 hx (D d23_5) rfl ?_
    refine Own.aloadN X2 hx (D d23_6) rfl rfl ?_
    exact k)
  have kp := ((Keep.refl h0 [o0, v0]).trans K2 (allS (Or.inl (List.mem_of_getElem? (i := 0) rfl)) (allS (Or.inl (List.mem_of_getElem? (i := 1) rfl)) all0)))
  exact Own.finA X2 hx (BodyLoose.notSynchronized Bd) Bd.returns rfl rfl (D d23_7) K5 (by decide) (by decide) (by rw [e2]; exact ⟨rfl, N2, kp, B2⟩)

theorem d36_0 : decode J16 0 = .ok (.iload_n 1, 1) := by decide +kernel
theorem d36_1 : decode J16 1 = .ok (.iload_n 0, 1) := by decide +kernel
theorem d36_2 : decode J16 2 = .ok (.if_icmp .ge 35, 3) := by decide +kernel
theorem d36_37 : decode J16 37 = .ok (.return_, 1) := by decide +kernel
theorem pn_4 : plainName "java/util/Arrays" = true := by first | (simp [plainName, overriddenIn]; done) | decide +kernel
theorem ef_36 (m : MethodId) (p0 : Int32) (p1 : Int32) : entryFrame m #[(.int p0), (.int p1)] 2 = mkF m 0 #[.val (.int p0), .val (.int p1)] [] := by first | (simp [entryFrame, mkF, argsToLocals, Value.category]; done) | rfl
set_option maxRecDepth 65536 in
set_option maxHeartbeats 40000000 in
theorem cCKL (l : Launch) (Z : State) (a0 : Array Value) (hw : ∀ d ∈ tables_1, d.before a0 Z = true) (p1 : Int32) (h0 : Heap) (hck : ¬ p1 < (0 : Int32)) : Own.Con l Z (⟨"java/util/Arrays", "checkLength", "(II)V"⟩ : MethodName) jdk_65_method_131_code 2 none ({ frames := 0, cells := 0, slots := 0, locals := 0 } : Room) #[(.int 0), (.int p1)] h0 (fun v h L => v = none ∧ L = [] ∧ h = h0) := by
  intro ws
  refine MetFree.of_bodySF (plainFor_of_name pn_4) hisR ?_
  intro p e s m args below meth c s₁ Bd hml0 hP hK
  obtain ⟨rfl, hZ, hh⟩ := hP
  have hx := Bd.exec
  have hby := Bd.bytes
  have D := fun {n : Nat} {i} (d : decode jdk_65_method_131_code n = .ok i) => hb hby d
  have hml : c.maxLocals = 2 := hml0
  have hown : s.vm.findClass "java/util/Arrays" = some m.cls := findClass_of_methodNamed Bd.named
  have hnm := (name_of_methodNamed Bd.named Bd.method).1
  have X0 : Stand p l e ({ frames := 0, cells := 0, slots := 0, locals := 0 } : Room) s m #[(.int 0), (.int p1)] below meth c s₁ [] 0 0 := Stand.of_body Bd
  have e0 : s₁.heap = h0 := by rw [← hh, Bd.state]; rfl
  have K0 : ∀ t, Steps p.tables e below (s₁.setTop (mkF m 0 #[vi 0, vi p1] [])) t → Steps p.tables e below (s₁.setTop (entryFrame m #[(.int 0), (.int p1)] 2)) t := fun t k => castTop (ef_36 m (0 : Int32) p1) k
  generalize s₁.setTop (entryFrame m #[(.int 0), (.int p1)] 2) = B0 at K0 ⊢
  show Own.Fin p e below B0 s (({ frames := 0, cells := 0, slots := 0, locals := 0 } : Room)).cells (({ frames := 0, cells := 0, slots := 0, locals := 0 } : Room)).slots (fun v h L => v = none ∧ L = [] ∧ h = h0)
  have K1 : Own.To p e below B0 s₁ (mkF m 2 #[vi 0, vi p1] [(.int 0), (.int p1)]) := fun t k => K0 t (by
    refine Own.iloadN X0 hx (D d36_0) rfl ?_
    refine Own.iloadN X0 hx (D d36_1) rfl ?_
    exact k)
  have K2 : Own.To p e below B0 s₁ (mkF m 37 #[vi 0, vi p1] []) := fun t k => K1 t (by
    refine Own.icmpYes X0 hx 37 (D d36_2) (flt (hck : ¬ (p1 < (0 : Int32)))).2.1 (by decide) (by decide) ?_
    exact k)
  exact Own.finV X0 hx (BodyLoose.notSynchronized Bd) Bd.returns (D d36_37) K2 (by decide) (by decide) ⟨rfl, rfl, e0⟩

theorem d37_0 : decode J0 0 = .ok (.iload_n 0, 1) := by decide +kernel
theorem d37_1 : decode J0 1 = .ok (.iload_n 1, 1) := by decide +kernel
theorem d37_2 : decode J0 2 = .ok (.if_icmp .gt 7, 3) := by decide +kernel
theorem d37_5 : decode J0 5 = .ok (.iload_n 0, 1) := by decide +kernel
theorem d37_6 : decode J0 6 = .ok (.goto 4, 3) := by decide +kernel
theorem d37_9 : decode J0 9 = .ok (.iload_n 1, 1) := by decide +kernel
theorem d37_10 : decode J0 10 = .ok (.ireturn, 1) := by decide +kernel
theorem ef_37 (m : MethodId) (p0 : Int32) (p1 : Int32) : entryFrame m #[(.int p0), (.int p1)] 2 = mkF m 0 #[.val (.int p0), .val (.int p1)] [] := by first | (simp [entryFrame, mkF, argsToLocals, Value.category]; done) | rfl
def F37 (p0 : Int32) (p1 : Int32) : Int32 := (if p1 < p0 then p1 else p0)
set_option maxRecDepth 65536 in
set_option maxHeartbeats 40000000 in
theorem c37 (l : Launch) (Z : State) (a0 : Array Value) (hw : ∀ d ∈ tables_1, d.before a0 Z = true) (p0 : Int32) (p1 : Int32) (h0 : Heap) : Own.Con l Z (⟨"java/lang/Math", "min", "(II)I"⟩ : MethodName) jdk_29_method_69_code 2 (some .int) ({ frames := 0, cells := 0, slots := 0, locals := 0 } : Room) #[(.int p0), (.int p1)] h0 (Own.Pure (.int (F37 p0 p1)) h0) := by
  intro ws
  refine MetFree.of_bodySF (Jvm.Free.JP.mathPlain rfl (by decide +kernel)) hisR ?_
  intro p e s m args below meth c s₁ Bd hml0 hP hK
  obtain ⟨rfl, hZ, hh⟩ := hP
  have hx := Bd.exec
  have hby := Bd.bytes
  have D := fun {n : Nat} {i} (d : decode jdk_29_method_69_code n = .ok i) => hb hby d
  have hml : c.maxLocals = 2 := hml0
  have hown : s.vm.findClass "java/lang/Math" = some m.cls := findClass_of_methodNamed Bd.named
  have hnm := (name_of_methodNamed Bd.named Bd.method).1
  have X0 : Stand p l e ({ frames := 0, cells := 0, slots := 0, locals := 0 } : Room) s m #[(.int p0), (.int p1)] below meth c s₁ [] 0 0 := Stand.of_body Bd
  have e0 : s₁.heap = h0 := by rw [← hh, Bd.state]; rfl
  have K0 : ∀ t, Steps p.tables e below (s₁.setTop (mkF m 0 #[vi p0, vi p1] [])) t → Steps p.tables e below (s₁.setTop (entryFrame m #[(.int p0), (.int p1)] 2)) t := fun t k => castTop (ef_37 m p0 p1) k
  generalize s₁.setTop (entryFrame m #[(.int p0), (.int p1)] 2) = B0 at K0 ⊢
  show Own.Fin p e below B0 s (({ frames := 0, cells := 0, slots := 0, locals := 0 } : Room)).cells (({ frames := 0, cells := 0, slots := 0, locals := 0 } : Room)).slots (Own.Pure (.int (F37 p0 p1)) h0)
  have K1 : Own.To p e below B0 s₁ (mkF m 2 #[vi p0, vi p1] [(.int p1), (.int p0)]) := fun t k => K0 t (by
    refine Own.iloadN X0 hx (D d37_0) rfl ?_
    refine Own.iloadN X0 hx (D d37_1) rfl ?_
    exact k)
  obtain ⟨x5, hx5⟩ : ∃ z : Int32, z = (if p1 < p0 then p1 else p0) := ⟨_, rfl⟩
  obtain ⟨T6, X6, e6, K6⟩ : ∃ T' : State, Stand p l e ({ frames := 0, cells := 0, slots := 0, locals := 0 } : Room) s m #[(.int p0), (.int p1)] below meth c T' [] 0 0 ∧ T'.heap = h0 ∧ Own.To p e below B0 T' (mkF m 10 #[vi p0, vi p1] [(.int x5)]) := by
    by_cases hc2 : p1 < p0
    · have K3 : Own.To p e below B0 s₁ (mkF m 10 #[vi p0, vi p1] [(.int p1)]) := fun t k => K1 t (by
        refine Own.icmpYes X0 hx 9 (D d37_2) (tlt hc2).2.2.1 (by decide) (by decide) ?_
        refine Own.iloadN X0 hx (D d37_9) rfl ?_
        exact k)
      exact ⟨s₁, X0, e0, fun t k => K3 t (by rw [hx5, if_pos hc2] at k; exact k)⟩
    · have K4 : Own.To p e below B0 s₁ (mkF m 10 #[vi p0, vi p1] [(.int p0)]) := fun t k => K1 t (by
        refine Own.icmpNo X0 hx (D d37_2) (flt hc2).2.2.1 ?_
        refine Own.iloadN X0 hx (D d37_5) rfl ?_
        refine Own.goto X0 hx 10 (D d37_6) (by decide) (by decide) ?_
        exact k)
      exact ⟨s₁, X0, e0, fun t k => K4 t (by rw [hx5, if_neg hc2] at k; exact k)⟩
  exact Own.finI X6 hx (BodyLoose.notSynchronized Bd) Bd.returns (D d37_10) K6 (by decide) (by decide) ⟨by subst hx5; unfold F37; rfl, rfl, e6⟩

theorem own_min {n : Nat} (h : n ≤ 16) {p : Int32} (hp : p = Int32.ofNat n) : F37 (16 : Int32) (p - (0 : Int32)) = Int32.ofNat n := by
  subst hp
  have e : Int32.ofNat n - (0 : Int32) = Int32.ofNat n := by simp
  rw [e]
  unfold F37
  by_cases q : Int32.ofNat n < (16 : Int32)
  · rw [if_pos q]
  · rw [if_neg q]
    rw [Int32.lt_iff_toInt_lt, own_toN (by omega), show (16 : Int32).toInt = 16 by decide] at q
    have : n = 16 := by omega
    subst this; rfl
theorem own_sub0 {n : Nat} {p : Int32} (hp : p = Int32.ofNat n) : p - (0 : Int32) = Int32.ofNat n := by rw [hp]; simp

theorem d35_0 : decode J18 0 = .ok (.iload_n 1, 1) := by decide +kernel
theorem d35_1 : decode J18 1 = .ok (.iload_n 2, 1) := by decide +kernel
theorem d35_2 : decode J18 2 = .ok (.invokestatic 343, 3) := by decide +kernel
theorem d35_5 : decode J18 5 = .ok (.iload_n 2, 1) := by decide +kernel
theorem d35_6 : decode J18 6 = .ok (.iload_n 1, 1) := by decide +kernel
theorem d35_7 : decode J18 7 = .ok (.isub, 1) := by decide +kernel
theorem d35_8 : decode J18 8 = .ok (.istore_n 3, 1) := by decide +kernel
theorem d35_9 : decode J18 9 = .ok (.iload_n 3, 1) := by decide +kernel
theorem d35_10 : decode J18 10 = .ok (.newarray .byte, 2) := by decide +kernel
theorem d35_12 : decode J18 12 = .ok (.astore 4, 2) := by decide +kernel
theorem d35_14 : decode J18 14 = .ok (.aload_n 0, 1) := by decide +kernel
theorem d35_15 : decode J18 15 = .ok (.iload_n 1, 1) := by decide +kernel
theorem d35_16 : decode J18 16 = .ok (.aload 4, 2) := by decide +kernel
theorem d35_18 : decode J18 18 = .ok (.iconst 0, 1) := by decide +kernel
theorem d35_19 : decode J18 19 = .ok (.aload_n 0, 1) := by decide +kernel
theorem d35_20 : decode J18 20 = .ok (.arraylength, 1) := by decide +kernel
theorem d35_21 : decode J18 21 = .ok (.iload_n 1, 1) := by decide +kernel
theorem d35_22 : decode J18 22 = .ok (.isub, 1) := by decide +kernel
theorem d35_23 : decode J18 23 = .ok (.iload_n 3, 1) := by decide +kernel
theorem d35_24 : decode J18 24 = .ok (.invokestatic 304, 3) := by decide +kernel
theorem d35_27 : decode J18 27 = .ok (.invokestatic 150, 3) := by decide +kernel
theorem d35_30 : decode J18 30 = .ok (.aload 4, 2) := by decide +kernel
theorem d35_32 : decode J18 32 = .ok (.areturn, 1) := by decide +kernel
theorem pd_11 : parseMethodDescriptor "(II)V" = some ⟨[.int, .int], none⟩ := by decide +kernel
theorem pd_12 : parseMethodDescriptor "(II)I" = some ⟨[.int, .int], some .int⟩ := by decide +kernel
theorem ef_35 (m : MethodId) (o0 : Addr) (p1 : Int32) (p2 : Int32) : entryFrame m #[(.ref o0), (.int p1), (.int p2)] 5 = mkF m 0 #[.val (.ref o0), .val (.int p1), .val (.int p2), .unset, .unset] [] := by first | (simp [entryFrame, mkF, argsToLocals, Value.category]; done) | rfl
set_option maxRecDepth 65536 in
set_option maxHeartbeats 40000000 in
theorem cCRB (l : Launch) (Z : State) (a0 : Array Value) (hw : ∀ d ∈ tables_1, d.before a0 Z = true) (o0 : Addr) (p2 : Int32) (n0 : Nat) (cs : List Int32) (h0 : Heap) (Z0 : n0 ≤ h0.size) (A0 : Own.CA Z h0 o0 .byte (own_B cs)) (hp2 : p2 = Int32.ofNat cs.length) (hcs : cs.length ≤ 16) : Own.Con l Z (⟨"java/util/Arrays", "copyOfRangeByte", "([BII)[B"⟩ : MethodName) jdk_65_method_133_code 5 (some (.array .byte)) ({ frames := 1, cells := 1, slots := 16, locals := 18 } : Room) #[(.ref o0), (.int 0), (.int p2)] h0 (fun v h L => ∃ b, v = some (.ref b) ∧ h0.size ≤ b ∧ Fr n0 L ∧ Keep h0 h [] ∧ Own.CA Z h b .byte (cs.map StrChars.lo8)) := by
  intro ws
  refine MetFree.of_bodySF (plainFor_of_name pn_4) hisR ?_
  intro p e s m args below meth c s₁ Bd hml0 hP hK
  obtain ⟨rfl, hZ, hh⟩ := hP
  have hx := Bd.exec
  have hby := Bd.bytes
  have D := fun {n : Nat} {i} (d : decode jdk_65_method_133_code n = .ok i) => hb hby d
  have hml : c.maxLocals = 5 := hml0
  have hown : s.vm.findClass "java/util/Arrays" = some m.cls := findClass_of_methodNamed Bd.named
  have hnm := (name_of_methodNamed Bd.named Bd.method).1
  have X0 : Stand p l e ({ frames := 1, cells := 1, slots := 16, locals := 18 } : Room) s m #[(.ref o0), (.int 0), (.int p2)] below meth c s₁ [] 0 0 := Stand.of_body Bd
  have e0 : s₁.heap = h0 := by rw [← hh, Bd.state]; rfl
  have K0 : ∀ t, Steps p.tables e below (s₁.setTop (mkF m 0 #[vr o0, vi 0, vi p2, .unset, .unset] [])) t → Steps p.tables e below (s₁.setTop (entryFrame m #[(.ref o0), (.int 0), (.int p2)] 5)) t := fun t k => castTop (ef_35 m o0 (0 : Int32) p2) k
  generalize s₁.setTop (entryFrame m #[(.ref o0), (.int 0), (.int p2)] 5) = B0 at K0 ⊢
  show Own.Fin p e below B0 s (({ frames := 1, cells := 1, slots := 16, locals := 18 } : Room)).cells (({ frames := 1, cells := 1, slots := 16, locals := 18 } : Room)).slots (fun v h L => ∃ b, v = some (.ref b) ∧ h0.size ≤ b ∧ Fr n0 L ∧ Keep h0 h [] ∧ Own.CA Z h b .byte (cs.map StrChars.lo8))
  have K1 : Own.To p e below B0 s₁ (mkF m 2 #[vr o0, vi 0, vi p2, .unset, .unset] [(.int p2), (.int 0)]) := fun t k => K0 t (by
    refine Own.iloadN X0 hx (D d35_0) rfl ?_
    refine Own.iloadN X0 hx (D d35_1) rfl ?_
    exact k)
  obtain ⟨T2, X2, e2, st2⟩ := Own.callPO (Ls := #[vr o0, vi 0, vi p2, .unset, .unset]) X0 hx hZ e0 [(.int 0), (.int p2)] [] (cCKL l Z a0 hw p2 h0 (by rw [hp2]; exact own_nneg hcs)) hown (W_ hw 194 rfl) (W_ hw 195 rfl) (W_ hw 189 rfl) (W_ hw 196 rfl) (by decide) 0 rfl rfl (by decide) (by decide) (by decide) (by decide) (szOf hml rfl) (lenOf pd_11 rfl) rfl (Nat.le_of_eq rfl) (D d35_2)
  have K3 := fun t k => K1 t (st2 t k)
  have K4 : Own.To p e below B0 T2 (mkF m 10 #[vr o0, vi 0, vi p2, vi (p2 - (0 : Int32)), .unset] [(.int (p2 - (0 : Int32)))]) := fun t k => K3 t (by
    refine Own.iloadN X2 hx (D d35_5) rfl ?_
    refine Own.iloadN X2 hx (D d35_6) rfl ?_
    refine Own.isub X2 hx (D d35_7) ?_
    refine Own.istoreN X2 hx #[vr o0, vi 0, vi p2, vi (p2 - (0 : Int32)), .unset] (D d35_8) rfl ?_
    refine Own.iloadN X2 hx (D d35_9) rfl ?_
    exact k)
  obtain ⟨T5, h5, b5, X5, e5, E5, g5, V5, st5⟩ := Own.newA (Ls := #[vr o0, vi 0, vi p2, vi (p2 - (0 : Int32)), .unset]) (S := []) (z := (p2 - (0 : Int32))) X2 hx hZ e2 .byte rfl rfl (W_ hw 22 rfl) cs.length (own_sub0 hp2) (by omega) (D d35_10) (by decide) (show 0 + cs.length ≤ 16 by omega)
  have le_b5 : h0.size ≤ b5 := Nat.le_of_eq g5.symm
  have X5 : Stand p l e ({ frames := 1, cells := 1, slots := 16, locals := 18 } : Room) s m #[(.ref o0), (.int 0), (.int p2)] below meth c T5 [] 1 16 := Own.moreX X5 (by decide) (show 0 + cs.length ≤ 16 by omega)
  have m6 : h0.size ≤ h5.size := E5.1
  have K7 := fun t k => K4 t (st5 t k)
  have K8 : Own.To p e below B0 T5 (mkF m 20 #[vr o0, vi 0, vi p2, vi (p2 - (0 : Int32)), vr b5] [(.ref o0), (.int 0), (.ref b5), (.int 0), (.ref o0)]) := fun t k => K7 t (by
    refine Own.astore X5 hx #[vr o0, vi 0, vi p2, vi (p2 - (0 : Int32)), vr b5] (D d35_12) rfl rfl ?_
    refine Own.aloadN X5 hx (D d35_14) rfl rfl ?_
    refine Own.iloadN X5 hx (D d35_15) rfl ?_
    refine Own.aload X5 hx (D d35_16) rfl rfl ?_
    refine Own.iconst X5 hx 0 (D d35_18) rfl ?_
    refine Own.aloadN X5 hx (D d35_19) rfl rfl ?_
    exact k)
  have f9 := (A0.ext E5)
  obtain ⟨cq10, Aq10, lq10⟩ := Own.CA.len f9
  rw [own_B_len hcs] at lq10
  have K11 : Own.To p e below B0 T5 (mkF m 24 #[vr o0, vi 0, vi p2, vi (p2 - (0 : Int32)), vr b5] [(.int (p2 - (0 : Int32))), (.int 16), (.int 0), (.ref b5), (.int 0), (.ref o0)]) := fun t k => K8 t (by
    refine Own.arraylength X5 hx (16 : Int32) hZ e5 Aq10 lq10 (D d35_20) ?_
    refine Own.iloadN X5 hx (D d35_21) rfl ?_
    refine Own.isub X5 hx (D d35_22) ?_
    refine Own.iloadN X5 hx (D d35_23) rfl ?_
    exact k)
  obtain ⟨T12, X12, e12, st12⟩ := Own.callP (Ls := #[vr o0, vi 0, vi p2, vi (p2 - (0 : Int32)), vr b5]) X5 hx hZ e5 [(.int 16), (.int (p2 - (0 : Int32)))] [(.int 0), (.ref b5), (.int 0), (.ref o0)] (c37 l Z a0 hw (16 : Int32) (p2 - (0 : Int32))  h5 ) hown (W_ hw 197 rfl) (W_ hw 198 rfl) (W_ hw 199 rfl) (W_ hw 200 rfl) (by decide) 4 rfl rfl (by decide) (by decide) (by decide) (by decide) (szOf hml rfl) (lenOf pd_12 rfl) rfl (Nat.le_of_eq rfl) (D d35_24)
  have K13 := fun t k => K11 t (st12 t k)
  obtain ⟨T14, h14, L14, X14, e14, N14, K14, V14, st14⟩ := Own.cpC (n0 := n0) (Ls := #[vr o0, vi 0, vi p2, vi (p2 - (0 : Int32)), vr b5]) X12 hx hZ e12 hown (W_ hw 201 rfl) (W_ hw 160 rfl) (W_ hw 158 rfl) (W_ hw 159 rfl) (ty := .byte) rfl f9 V5 0 0 cs.length rfl rfl (own_min hcs hp2) (by rw [own_B_len hcs]; omega) (by rw [List.length_replicate]; omega) (Fr.nil _) (Nat.le_trans Z0 (Nat.le_trans (Nat.le_refl _) le_b5)) [] 0 (by decide) (by decide) (by rw [hml]; rfl) (Nat.le_of_eq rfl) (D d35_27)
  have V14' : Own.CA Z h14 b5 .byte (cs.map StrChars.lo8) := Eq.mp (congrArg (Own.CA Z h14 b5 .byte) (own_B_copy hcs)) V14
  have m15 : h5.size ≤ h14.size := K14.1
  have K16 := fun t k => K13 t (st14 t k)
  have K17 : Own.To p e below B0 T14 (mkF m 32 #[vr o0, vi 0, vi p2, vi (p2 - (0 : Int32)), vr b5] [(.ref b5)]) := fun t k => K16 t (by
    refine Own.aload X14 hx (D d35_30) rfl rfl ?_
    exact k)
  have kp := (((Keep.refl h0 []).ext E5).trans K14 (allS (Or.inr le_b5) all0))
  exact Own.finA X14 hx (BodyLoose.notSynchronized Bd) Bd.returns rfl rfl (D d35_32) K17 (by decide) (by decide) (by rw [e14]; exact ⟨_, rfl, le_b5, N14, kp, V14'⟩)

theorem d34_0 : decode J17 0 = .ok (.iload_n 1, 1) := by decide +kernel
theorem d34_1 : decode J17 1 = .ok (.ifCond .ne 9, 3) := by decide +kernel
theorem d34_4 : decode J17 4 = .ok (.iload_n 2, 1) := by decide +kernel
theorem d34_5 : decode J17 5 = .ok (.aload_n 0, 1) := by decide +kernel
theorem d34_6 : decode J17 6 = .ok (.arraylength, 1) := by decide +kernel
theorem d34_7 : decode J17 7 = .ok (.if_icmp .eq 10, 3) := by decide +kernel
theorem d34_10 : decode J17 10 = .ok (.aload_n 0, 1) := by decide +kernel
theorem d34_11 : decode J17 11 = .ok (.iload_n 1, 1) := by decide +kernel
theorem d34_12 : decode J17 12 = .ok (.iload_n 2, 1) := by decide +kernel
theorem d34_13 : decode J17 13 = .ok (.invokestatic 339, 3) := by decide +kernel
theorem d34_16 : decode J17 16 = .ok (.areturn, 1) := by decide +kernel
theorem pd_13 : parseMethodDescriptor "([BII)[B" = some ⟨[(.array .byte), .int, .int], some (.array .byte)⟩ := by decide +kernel
theorem ef_34 (m : MethodId) (o0 : Addr) (p1 : Int32) (p2 : Int32) : entryFrame m #[(.ref o0), (.int p1), (.int p2)] 3 = mkF m 0 #[.val (.ref o0), .val (.int p1), .val (.int p2)] [] := by first | (simp [entryFrame, mkF, argsToLocals, Value.category]; done) | rfl
set_option maxRecDepth 65536 in
set_option maxHeartbeats 40000000 in
theorem cCR (l : Launch) (Z : State) (a0 : Array Value) (hw : ∀ d ∈ tables_1, d.before a0 Z = true) (o0 : Addr) (p2 : Int32) (n0 : Nat) (cs : List Int32) (h0 : Heap) (Z0 : n0 ≤ h0.size) (A0 : Own.CA Z h0 o0 .byte (own_B cs)) (hp2 : p2 = Int32.ofNat cs.length) (hcs : cs.length ≤ 16) (hlt : cs.length < 16) : Own.Con l Z (⟨"java/util/Arrays", "copyOfRange", "([BII)[B"⟩ : MethodName) jdk_65_method_132_code 3 (some (.array .byte)) ({ frames := 2, cells := 1, slots := 16, locals := 34 } : Room) #[(.ref o0), (.int 0), (.int p2)] h0 (fun v h L => ∃ b, v = some (.ref b) ∧ h0.size ≤ b ∧ Fr n0 L ∧ Keep h0 h [] ∧ Own.CA Z h b .byte (cs.map StrChars.lo8)) := by
  intro ws
  refine MetFree.of_bodySF (plainFor_of_name pn_4) hisR ?_
  intro p e s m args below meth c s₁ Bd hml0 hP hK
  obtain ⟨rfl, hZ, hh⟩ := hP
  have hx := Bd.exec
  have hby := Bd.bytes
  have D := fun {n : Nat} {i} (d : decode jdk_65_method_132_code n = .ok i) => hb hby d
  have hml : c.maxLocals = 3 := hml0
  have hown : s.vm.findClass "java/util/Arrays" = some m.cls := findClass_of_methodNamed Bd.named
  have hnm := (name_of_methodNamed Bd.named Bd.method).1
  have X0 : Stand p l e ({ frames := 2, cells := 1, slots := 16, locals := 34 } : Room) s m #[(.ref o0), (.int 0), (.int p2)] below meth c s₁ [] 0 0 := Stand.of_body Bd
  have e0 : s₁.heap = h0 := by rw [← hh, Bd.state]; rfl
  have K0 : ∀ t, Steps p.tables e below (s₁.setTop (mkF m 0 #[vr o0, vi 0, vi p2] [])) t → Steps p.tables e below (s₁.setTop (entryFrame m #[(.ref o0), (.int 0), (.int p2)] 3)) t := fun t k => castTop (ef_34 m o0 (0 : Int32) p2) k
  generalize s₁.setTop (entryFrame m #[(.ref o0), (.int 0), (.int p2)] 3) = B0 at K0 ⊢
  show Own.Fin p e below B0 s (({ frames := 2, cells := 1, slots := 16, locals := 34 } : Room)).cells (({ frames := 2, cells := 1, slots := 16, locals := 34 } : Room)).slots (fun v h L => ∃ b, v = some (.ref b) ∧ h0.size ≤ b ∧ Fr n0 L ∧ Keep h0 h [] ∧ Own.CA Z h b .byte (cs.map StrChars.lo8))
  have K1 : Own.To p e below B0 s₁ (mkF m 1 #[vr o0, vi 0, vi p2] [(.int 0)]) := fun t k => K0 t (by
    refine Own.iloadN X0 hx (D d34_0) rfl ?_
    exact k)
  have K2 : Own.To p e below B0 s₁ (mkF m 6 #[vr o0, vi 0, vi p2] [(.ref o0), (.int p2)]) := fun t k => K1 t (by
    refine Own.ifNo X0 hx (D d34_1) ((if0 _ _).trans (teq (by decide : (0 : Int32) = (0 : Int32))).2) ?_
    refine Own.iloadN X0 hx (D d34_4) rfl ?_
    refine Own.aloadN X0 hx (D d34_5) rfl rfl ?_
    exact k)
  obtain ⟨cq3, Aq3, lq3⟩ := Own.CA.len A0
  rw [own_B_len hcs] at lq3
  have K4 : Own.To p e below B0 s₁ (mkF m 7 #[vr o0, vi 0, vi p2] [(.int 16), (.int p2)]) := fun t k => K2 t (by
    refine Own.arraylength X0 hx (16 : Int32) hZ e0 Aq3 lq3 (D d34_6) ?_
    exact k)
  have K5 : Own.To p e below B0 s₁ (mkF m 13 #[vr o0, vi 0, vi p2] [(.int p2), (.int 0), (.ref o0)]) := fun t k => K4 t (by
    refine Own.icmpNo X0 hx (D d34_7) (feq ((by rw [hp2]; exact own_n16 hlt) : ¬ (p2 = (16 : Int32)))).1 ?_
    refine Own.aloadN X0 hx (D d34_10) rfl rfl ?_
    refine Own.iloadN X0 hx (D d34_11) rfl ?_
    refine Own.iloadN X0 hx (D d34_12) rfl ?_
    exact k)
  obtain ⟨T6, h6, v6, J6, L6, X6, e6, n6, hQ6, st6⟩ := Own.callH (Ls := #[vr o0, vi 0, vi p2]) X0 hx hZ e0 [(.ref o0), (.int 0), (.int p2)] [] (cCRB l Z a0 hw o0 p2 n0 cs h0 (Nat.le_trans Z0 (Nat.le_refl _)) A0 hp2 hcs) hown (W_ hw 191 rfl) (W_ hw 192 rfl) (W_ hw 189 rfl) (W_ hw 193 rfl) (by decide) 0 (by decide) (by decide) (by decide) (by decide) (szOf hml rfl) (lenOf pd_13 rfl) rfl (Nat.le_of_eq rfl) (D d34_13)
  have X6 : Stand p l e ({ frames := 2, cells := 1, slots := 16, locals := 34 } : Room) s m #[(.ref o0), (.int 0), (.int p2)] below meth c T6 L6 1 16 := X6
  obtain ⟨br6, rfl, le6, NN6, K6, V6⟩ := hQ6
  have N6 : Fr n0 L6 := n6 n0 (Fr.nil _) NN6
  have m7 : h0.size ≤ h6.size := K6.1
  have K8 := fun t k => K5 t (st6 t k)
  have kp := ((Keep.refl h0 []).trans K6 all0)
  exact Own.finA X6 hx (BodyLoose.notSynchronized Bd) Bd.returns rfl rfl (D d34_16) K8 (by decide) (by decide) (by rw [e6]; exact ⟨_, rfl, le6, N6, kp, V6⟩)

theorem own_SB.other {Z : State} {h h' : Heap} {o v a : Addr} {cs : List Int32} {sl : Nat} {w : Value} (F : own_SB Z h o v cs) (W : Wr h h' a sl w) (n1 : o ≠ a) (n2 : v ≠ a) : own_SB Z h' o v cs := ⟨F.1.wr W, F.2.1.other W (Or.inl n1), F.2.2.1.other W (Or.inl n1), F.2.2.2.1.other W (Or.inl n1), F.2.2.2.2.1.other W n2, F.2.2.2.2.2⟩

theorem d30_0 : decode J5 0 = .ok (.aload_n 0, 1) := by decide +kernel
theorem d30_1 : decode J5 1 = .ok (.invokespecial 1, 3) := by decide +kernel
theorem d30_4 : decode J5 4 = .ok (.aload_n 1, 1) := by decide +kernel
theorem d30_5 : decode J5 5 = .ok (.invokevirtual 552, 3) := by decide +kernel
theorem d30_8 : decode J5 8 = .ok (.astore_n 3, 1) := by decide +kernel
theorem d30_9 : decode J5 9 = .ok (.aload_n 1, 1) := by decide +kernel
theorem d30_10 : decode J5 10 = .ok (.invokevirtual 549, 3) := by decide +kernel
theorem d30_13 : decode J5 13 = .ok (.istore 4, 2) := by decide +kernel
theorem d30_15 : decode J5 15 = .ok (.aload_n 1, 1) := by decide +kernel
theorem d30_16 : decode J5 16 = .ok (.invokevirtual 1047, 3) := by decide +kernel
theorem d30_19 : decode J5 19 = .ok (.ifCond .eq 22, 3) := by decide +kernel
theorem d30_22 : decode J5 22 = .ok (.aload_n 0, 1) := by decide +kernel
theorem d30_23 : decode J5 23 = .ok (.iconst 0, 1) := by decide +kernel
theorem d30_24 : decode J5 24 = .ok (.putfield 15, 3) := by decide +kernel
theorem d30_27 : decode J5 27 = .ok (.aload_n 0, 1) := by decide +kernel
theorem d30_28 : decode J5 28 = .ok (.aload_n 3, 1) := by decide +kernel
theorem d30_29 : decode J5 29 = .ok (.iconst 0, 1) := by decide +kernel
theorem d30_30 : decode J5 30 = .ok (.iload 4, 2) := by decide +kernel
theorem d30_32 : decode J5 32 = .ok (.invokestatic 54, 3) := by decide +kernel
theorem d30_35 : decode J5 35 = .ok (.putfield 9, 3) := by decide +kernel
theorem d30_38 : decode J5 38 = .ok (.goto 59, 3) := by decide +kernel
theorem d30_97 : decode J5 97 = .ok (.return_, 1) := by decide +kernel
theorem pd_14 : parseMethodDescriptor "()[B" = some ⟨[], some (.array .byte)⟩ := by decide +kernel
theorem ef_30n2 (m : MethodId) (o0 : Addr) (o1 : Addr) : entryFrame m #[(.ref o0), (.ref o1), .null] 5 = mkF m 0 #[.val (.ref o0), .val (.ref o1), .val .null, .unset, .unset] [] := by first | (simp [entryFrame, mkF, argsToLocals, Value.category]; done) | rfl
set_option maxRecDepth 65536 in
set_option maxHeartbeats 40000000 in
theorem cSIA (l : Launch) (Z : State) (a0 : Array Value) (hw : ∀ d ∈ tables_1, d.before a0 Z = true) (o0 : Addr) (o1 : Addr) (n0 : Nat) (v0 : Addr) (cs : List Int32) (G1 : Int32) (h0 : Heap) (Z0 : n0 ≤ h0.size) (E9 : Exa Z h0 o0 "java/lang/String") (F9 : Fld Z h0 o0 "java/lang/String" "value" "[B" .null) (F8 : Fld Z h0 o0 "java/lang/String" "coder" "B" (.int 0)) (g0 : n0 ≤ o0) (SBX : own_SB Z h0 o1 v0 cs) (hno : o1 ≠ o0) (hnv : v0 ≠ o0) (hlt : cs.length < 16) (SC : Sta Z h0 "java/lang/String" "COMPACT_STRINGS" "Z" (.int G1)) (hG1 : ¬ G1 = 0) : Own.Con l Z (⟨"java/lang/String", "<init>", "(Ljava/lang/AbstractStringBuilder;Ljava/lang/Void;)V"⟩ : MethodName) jdk_42_method_150_code 5 none ({ frames := 3, cells := 1, slots := 16, locals := 49 } : Room) #[(.ref o0), (.ref o1), .null] h0 (fun v h L => v = none ∧ Fr n0 L ∧ Keep h0 h [o0] ∧ own_Txt Z h o0 cs) := by
  intro ws
  refine MetFree.of_bodySF (plainFor_of_name pn_0) hisR ?_
  intro p e s m args below meth c s₁ Bd hml0 hP hK
  obtain ⟨rfl, hZ, hh⟩ := hP
  have hx := Bd.exec
  have hby := Bd.bytes
  have D := fun {n : Nat} {i} (d : decode jdk_42_method_150_code n = .ok i) => hb hby d
  have hml : c.maxLocals = 5 := hml0
  have hown : s.vm.findClass "java/lang/String" = some m.cls := findClass_of_methodNamed Bd.named
  have hnm := (name_of_methodNamed Bd.named Bd.method).1
  have X0 : Stand p l e ({ frames := 3, cells := 1, slots := 16, locals := 49 } : Room) s m #[(.ref o0), (.ref o1), .null] below meth c s₁ [] 0 0 := Stand.of_body Bd
  have e0 : s₁.heap = h0 := by rw [← hh, Bd.state]; rfl
  have K0 : ∀ t, Steps p.tables e below (s₁.setTop (mkF m 0 #[vr o0, vr o1, .val .null, .unset, .unset] [])) t → Steps p.tables e below (s₁.setTop (entryFrame m #[(.ref o0), (.ref o1), .null] 5)) t := fun t k => castTop (ef_30n2 m o0 o1) k
  generalize s₁.setTop (entryFrame m #[(.ref o0), (.ref o1), .null] 5) = B0 at K0 ⊢
  show Own.Fin p e below B0 s (({ frames := 3, cells := 1, slots := 16, locals := 49 } : Room)).cells (({ frames := 3, cells := 1, slots := 16, locals := 49 } : Room)).slots (fun v h L => v = none ∧ Fr n0 L ∧ Keep h0 h [o0] ∧ own_Txt Z h o0 cs)
  have hcs : cs.length ≤ 16 := by omega
  have K1 : Own.To p e below B0 s₁ (mkF m 1 #[vr o0, vr o1, .val .null, .unset, .unset] [(.ref o0)]) := fun t k => K0 t (by
    refine Own.aloadN X0 hx (D d30_0) rfl rfl ?_
    exact k)
  obtain ⟨T2, X2, e2, st2⟩ := Own.initO (Ls := #[vr o0, vr o1, .val .null, .unset, .unset]) (S := []) (a := o0) X0 hx hZ e0 hown (W_ hw 18 rfl) (W_ hw 19 rfl) (W_ hw 20 rfl) (by rw [hml]; rfl) (D d30_1) (by decide) 0 (Nat.le_of_eq rfl) (by decide)
  have K3 := fun t k => K1 t (st2 t k)
  have K4 : Own.To p e below B0 T2 (mkF m 5 #[vr o0, vr o1, .val .null, .unset, .unset] [(.ref o1)]) := fun t k => K3 t (by
    refine Own.aloadN X2 hx (D d30_4) rfl rfl ?_
    exact k)
  obtain ⟨T5, X5, e5, st5⟩ := Own.callVHO (Ls := #[vr o0, vr o1, .val .null, .unset, .unset]) X2 hx hZ e2 o1 [] [] (cGV l Z a0 hw o1 v0 cs h0 SBX) hown SBX.exa (W_ hw 173 rfl) (W_ hw 174 rfl) (W_ hw 121 rfl) rfl (W_ hw 176 rfl) (W_ hw 175 rfl) (W_ hw 98 rfl) (W_ hw 177 rfl) (by decide) 0 rfl rfl (by decide) (by decide) (by decide) (by decide) (szOf hml rfl) (lenOf pd_14 rfl) rfl (Nat.le_of_eq rfl) (D d30_5)
  have K6 := fun t k => K4 t (st5 t k)
  have K7 : Own.To p e below B0 T5 (mkF m 10 #[vr o0, vr o1, .val .null, vr v0, .unset] [(.ref o1)]) := fun t k => K6 t (by
    refine Own.astoreN X5 hx #[vr o0, vr o1, .val .null, vr v0, .unset] (D d30_8) rfl rfl ?_
    refine Own.aloadN X5 hx (D d30_9) rfl rfl ?_
    exact k)
  obtain ⟨T8, X8, e8, st8⟩ := Own.callVHO (Ls := #[vr o0, vr o1, .val .null, vr v0, .unset]) X5 hx hZ e5 o1 [] [] (cSLEN l Z a0 hw o1 v0 cs h0 SBX) hown SBX.exa (W_ hw 178 rfl) (W_ hw 179 rfl) (W_ hw 121 rfl) rfl (W_ hw 181 rfl) (W_ hw 182 rfl) (W_ hw 90 rfl) (W_ hw 183 rfl) (by decide) 0 rfl rfl (by decide) (by decide) (by decide) (by decide) (szOf hml rfl) (lenOf pd_3 rfl) rfl (Nat.le_of_eq rfl) (D d30_10)
  have K9 := fun t k => K7 t (st8 t k)
  have K10 : Own.To p e below B0 T8 (mkF m 16 #[vr o0, vr o1, .val .null, vr v0, vi (Int32.ofNat cs.length)] [(.ref o1)]) := fun t k => K9 t (by
    refine Own.istore X8 hx #[vr o0, vr o1, .val .null, vr v0, vi (Int32.ofNat cs.length)] (D d30_13) rfl ?_
    refine Own.aloadN X8 hx (D d30_15) rfl rfl ?_
    exact k)
  obtain ⟨T11, X11, e11, st11⟩ := Own.callVHO (Ls := #[vr o0, vr o1, .val .null, vr v0, vi (Int32.ofNat cs.length)]) X8 hx hZ e8 o1 [] [] (cISL l Z a0 hw o1 v0 cs G1 h0 SBX SC hG1) hown SBX.exa (W_ hw 186 rfl) (W_ hw 124 rfl) (W_ hw 121 rfl) rfl (W_ hw 126 rfl) (W_ hw 125 rfl) (W_ hw 98 rfl) (W_ hw 127 rfl) (by decide) 0 rfl rfl (by decide) (by decide) (by decide) (by decide) (szOf hml rfl) (lenOf pd_4 rfl) rfl (Nat.le_of_eq rfl) (D d30_16)
  have K12 := fun t k => K10 t (st11 t k)
  have K13 : Own.To p e below B0 T11 (mkF m 24 #[vr o0, vr o1, .val .null, vr v0, vi (Int32.ofNat cs.length)] [(.int 0), (.ref o0)]) := fun t k => K12 t (by
    refine Own.ifNo X11 hx (D d30_19) ((if0 _ _).trans (feq (by decide : ¬ ((1 : Int32) = (0 : Int32)))).1) ?_
    refine Own.aloadN X11 hx (D d30_22) rfl rfl ?_
    refine Own.iconst X11 hx 0 (D d30_23) rfl ?_
    exact k)
  obtain ⟨T14, h14, L14, X14, e14, n14, W14, F14, st14⟩ := Own.putF (Ls := #[vr o0, vr o1, .val .null, vr v0, vi (Int32.ofNat cs.length)]) (S := []) (v := (.int 0)) X11 hx hZ e11 hown (host := "") (Or.inl (W_ hw 28 rfl)) Via.refl F8 E9 (Or.inr ⟨(W_ hw 24 rfl), rfl, hnm⟩) (W_ hw 8 rfl) (ty := .byte) (by decide) rfl rfl (D d30_24)
  have N14 : Fr n0 L14 := n14 n0 (Fr.nil _) g0
  have m15 : h0.size ≤ h14.size := Nat.le_of_eq W14.size.symm
  have K16 := fun t k => K13 t (st14 t k)
  have f17 := (SBX.arr.other W14 hnv)
  have K18 : Own.To p e below B0 T14 (mkF m 32 #[vr o0, vr o1, .val .null, vr v0, vi (Int32.ofNat cs.length)] [(.int (Int32.ofNat cs.length)), (.int 0), (.ref v0), (.ref o0)]) := fun t k => K16 t (by
    refine Own.aloadN X14 hx (D d30_27) rfl rfl ?_
    refine Own.aloadN X14 hx (D d30_28) rfl rfl ?_
    refine Own.iconst X14 hx 0 (D d30_29) rfl ?_
    refine Own.iload X14 hx (D d30_30) rfl ?_
    exact k)
  obtain ⟨T19, h19, v19, J19, L19, X19, e19, n19, hQ19, st19⟩ := Own.callH (Ls := #[vr o0, vr o1, .val .null, vr v0, vi (Int32.ofNat cs.length)]) X14 hx hZ e14 [(.ref v0), (.int 0), (.int (Int32.ofNat cs.length))] [(.ref o0)] (cCR l Z a0 hw v0 (Int32.ofNat cs.length) n0 cs h14 (Nat.le_trans Z0 m15) f17 rfl hcs hlt) hown (W_ hw 187 rfl) (W_ hw 188 rfl) (W_ hw 189 rfl) (W_ hw 190 rfl) (by decide) 1 (by decide) (by decide) (by decide) (by decide) (szOf hml rfl) (lenOf pd_13 rfl) rfl (Nat.le_of_eq rfl) (D d30_32)
  have X19 : Stand p l e ({ frames := 3, cells := 1, slots := 16, locals := 49 } : Room) s m #[(.ref o0), (.ref o1), .null] below meth c T19 L19 1 16 := X19
  obtain ⟨br19, rfl, le19, NN19, K19, V19⟩ := hQ19
  have N19 : Fr n0 L19 := n19 n0 N14 NN19
  have m20 : h14.size ≤ h19.size := K19.1
  have K21 := fun t k => K18 t (st19 t k)
  have f22 := ((F9.other W14 (Or.inr (slot_ne (Or.inr (W_ hw 23 rfl)) (Or.inr (W_ hw 24 rfl)) (by decide) (t := (.array .byte)) (t' := .byte) (by decide) (by decide)))).keep K19 nin0)
  have f23 := ((E9.wr W14).keep K19)
  obtain ⟨T24, h24, L24, X24, e24, n24, W24, F24, st24⟩ := Own.putF (Ls := #[vr o0, vr o1, .val .null, vr v0, vi (Int32.ofNat cs.length)]) (S := []) (v := (.ref br19)) X19 hx hZ e19 hown (host := "") (Or.inl (W_ hw 27 rfl)) Via.refl f22 f23 (Or.inr ⟨(W_ hw 23 rfl), rfl, hnm⟩) (W_ hw 8 rfl) (ty := (.array .byte)) (by decide) rfl rfl (D d30_35)
  have N24 : Fr n0 L24 := n24 n0 N19 g0
  have m25 : h19.size ≤ h24.size := Nat.le_of_eq W24.size.symm
  have K26 := fun t k => K21 t (st24 t k)
  have K27 : Own.To p e below B0 T24 (mkF m 97 #[vr o0, vr o1, .val .null, vr v0, vi (Int32.ofNat cs.length)] []) := fun t k => K26 t (by
    refine Own.goto X24 hx 97 (D d30_38) (by decide) (by decide) ?_
    exact k)
  have f28 := (f23.wr W24)
  have f29 := ((F14.keep K19 nin0).other W24 (Or.inr (slot_ne (Or.inr (W_ hw 24 rfl)) (Or.inr (W_ hw 23 rfl)) (by decide) (t := .byte) (t' := (.array .byte)) (by decide) (by decide))))
  have f30 := (V19.other W24 (Ne.symm (Nat.ne_of_lt (Nat.lt_of_lt_of_le (E9.wr W14).lt le19))))
  have kp := ((((Keep.refl h0 [o0]).wr W14 (Or.inl (List.mem_of_getElem? (i := 0) rfl))).trans K19 all0).wr W24 (Or.inl (List.mem_of_getElem? (i := 0) rfl)))
  exact Own.finV X24 hx (BodyLoose.notSynchronized Bd) Bd.returns (D d30_97) K27 (by decide) (by decide) (by rw [e24]; exact ⟨rfl, N24, kp, own_Txt.mk' f28 F24 f29 f30 SBX.2.2.2.2.2.2.1 (by omega)⟩)

theorem d29_0 : decode J10 0 = .ok (.aload_n 0, 1) := by decide +kernel
theorem d29_1 : decode J10 1 = .ok (.aload_n 1, 1) := by decide +kernel
theorem d29_2 : decode J10 2 = .ok (.aconst_null, 1) := by decide +kernel
theorem d29_3 : decode J10 3 = .ok (.invokespecial 489, 3) := by decide +kernel
theorem d29_6 : decode J10 6 = .ok (.return_, 1) := by decide +kernel
theorem pd_15 : parseMethodDescriptor "(Ljava/lang/AbstractStringBuilder;Ljava/lang/Void;)V" = some ⟨[(.object "java/lang/AbstractStringBuilder"), (.object "java/lang/Void")], none⟩ := by decide +kernel
theorem ef_29 (m : MethodId) (o0 : Addr) (o1 : Addr) : entryFrame m #[(.ref o0), (.ref o1)] 2 = mkF m 0 #[.val (.ref o0), .val (.ref o1)] [] := by first | (simp [entryFrame, mkF, argsToLocals, Value.category]; done) | rfl
set_option maxRecDepth 65536 in
set_option maxHeartbeats 40000000 in
theorem cSIB (l : Launch) (Z : State) (a0 : Array Value) (hw : ∀ d ∈ tables_1, d.before a0 Z = true) (o0 : Addr) (o1 : Addr) (n0 : Nat) (v0 : Addr) (cs : List Int32) (G1 : Int32) (h0 : Heap) (Z0 : n0 ≤ h0.size) (E9 : Exa Z h0 o0 "java/lang/String") (F9 : Fld Z h0 o0 "java/lang/String" "value" "[B" .null) (F8 : Fld Z h0 o0 "java/lang/String" "coder" "B" (.int 0)) (g0 : n0 ≤ o0) (SBX : own_SB Z h0 o1 v0 cs) (hno : o1 ≠ o0) (hnv : v0 ≠ o0) (hlt : cs.length < 16) (SC : Sta Z h0 "java/lang/String" "COMPACT_STRINGS" "Z" (.int G1)) (hG1 : ¬ G1 = 0) : Own.Con l Z (⟨"java/lang/String", "<init>", "(Ljava/lang/StringBuilder;)V"⟩ : MethodName) jdk_42_method_53_code 2 none ({ frames := 4, cells := 1, slots := 16, locals := 65 } : Room) #[(.ref o0), (.ref o1)] h0 (fun v h L => v = none ∧ Fr n0 L ∧ Keep h0 h [o0] ∧ own_Txt Z h o0 cs) := by
  intro ws
  refine MetFree.of_bodySF (plainFor_of_name pn_0) hisR ?_
  intro p e s m args below meth c s₁ Bd hml0 hP hK
  obtain ⟨rfl, hZ, hh⟩ := hP
  have hx := Bd.exec
  have hby := Bd.bytes
  have D := fun {n : Nat} {i} (d : decode jdk_42_method_53_code n = .ok i) => hb hby d
  have hml : c.maxLocals = 2 := hml0
  have hown : s.vm.findClass "java/lang/String" = some m.cls := findClass_of_methodNamed Bd.named
  have hnm := (name_of_methodNamed Bd.named Bd.method).1
  have X0 : Stand p l e ({ frames := 4, cells := 1, slots := 16, locals := 65 } : Room) s m #[(.ref o0), (.ref o1)] below meth c s₁ [] 0 0 := Stand.of_body Bd
  have e0 : s₁.heap = h0 := by rw [← hh, Bd.state]; rfl
  have K0 : ∀ t, Steps p.tables e below (s₁.setTop (mkF m 0 #[vr o0, vr o1] [])) t → Steps p.tables e below (s₁.setTop (entryFrame m #[(.ref o0), (.ref o1)] 2)) t := fun t k => castTop (ef_29 m o0 o1) k
  generalize s₁.setTop (entryFrame m #[(.ref o0), (.ref o1)] 2) = B0 at K0 ⊢
  show Own.Fin p e below B0 s (({ frames := 4, cells := 1, slots := 16, locals := 65 } : Room)).cells (({ frames := 4, cells := 1, slots := 16, locals := 65 } : Room)).slots (fun v h L => v = none ∧ Fr n0 L ∧ Keep h0 h [o0] ∧ own_Txt Z h o0 cs)
  have K1 : Own.To p e below B0 s₁ (mkF m 3 #[vr o0, vr o1] [.null, (.ref o1), (.ref o0)]) := fun t k => K0 t (by
    refine Own.aloadN X0 hx (D d29_0) rfl rfl ?_
    refine Own.aloadN X0 hx (D d29_1) rfl rfl ?_
    refine Own.aconstNull X0 hx (D d29_2) ?_
    exact k)
  obtain ⟨T2, h2, v2, J2, L2, X2, e2, n2, hQ2, st2⟩ := Own.callI (Ls := #[vr o0, vr o1]) X0 hx hZ e0 rfl o0 [(.ref o1), .null] [] (cSIA l Z a0 hw o0 o1 n0 v0 cs G1 h0 (Nat.le_trans Z0 (Nat.le_refl _)) E9 F9 F8 g0 SBX hno hnv hlt SC hG1) hown (W_ hw 170 rfl) (W_ hw 171 rfl) (W_ hw 9 rfl) (W_ hw 172 rfl) (by decide) 0 (by decide) (by decide) (by decide) (by decide) (szOf hml rfl) (lenOf pd_15 rfl) rfl (Nat.le_of_eq rfl) (D d29_3)
  have X2 : Stand p l e ({ frames := 4, cells := 1, slots := 16, locals := 65 } : Room) s m #[(.ref o0), (.ref o1)] below meth c T2 L2 1 16 := X2
  obtain ⟨rfl, NN2, K2, t2⟩ := hQ2
  have N2 : Fr n0 L2 := n2 n0 (Fr.nil _) NN2
  have m3 : h0.size ≤ h2.size := K2.1
  have K4 := fun t k => K1 t (st2 t k)
  have kp := ((Keep.refl h0 [o0]).trans K2 (allS (Or.inl (List.mem_of_getElem? (i := 0) rfl)) all0))
  exact Own.finV X2 hx (BodyLoose.notSynchronized Bd) Bd.returns (D d29_6) K4 (by decide) (by decide) (by rw [e2]; exact ⟨rfl, N2, kp, t2⟩)

theorem d28_0 : decode J21 0 = .ok (.new 18, 3) := by decide +kernel
theorem d28_3 : decode J21 3 = .ok (.dup, 1) := by decide +kernel
theorem d28_4 : decode J21 4 = .ok (.aload_n 0, 1) := by decide +kernel
theorem d28_5 : decode J21 5 = .ok (.invokespecial 137, 3) := by decide +kernel
theorem d28_8 : decode J21 8 = .ok (.areturn, 1) := by decide +kernel
theorem pd_16 : parseMethodDescriptor "(Ljava/lang/StringBuilder;)V" = some ⟨[(.object "java/lang/StringBuilder")], none⟩ := by decide +kernel
theorem ef_28 (m : MethodId) (o0 : Addr) : entryFrame m #[(.ref o0)] 1 = mkF m 0 #[.val (.ref o0)] [] := by first | (simp [entryFrame, mkF, argsToLocals, Value.category]; done) | rfl
set_option maxRecDepth 65536 in
set_option maxHeartbeats 40000000 in
theorem cTS (l : Launch) (Z : State) (a0 : Array Value) (hw : ∀ d ∈ tables_1, d.before a0 Z = true) (o0 : Addr) (n0 : Nat) (v0 : Addr) (cs : List Int32) (G1 : Int32) (h0 : Heap) (Z0 : n0 ≤ h0.size) (SBX : own_SB Z h0 o0 v0 cs) (hlt : cs.length < 16) (SC : Sta Z h0 "java/lang/String" "COMPACT_STRINGS" "Z" (.int G1)) (hG1 : ¬ G1 = 0) : Own.Con l Z (⟨"java/lang/StringBuilder", "toString", "()Ljava/lang/String;"⟩ : MethodName) jdk_67_method_42_code 1 (some (.object "java/lang/String")) ({ frames := 5, cells := 2, slots := 20, locals := 79 } : Room) #[(.ref o0)] h0 (fun v h L => ∃ b, v = some (.ref b) ∧ h0.size ≤ b ∧ Fr n0 L ∧ Keep h0 h [] ∧ own_Txt Z h b cs) := by
  intro ws
  refine MetFree.of_bodySF (plainFor_of_name pn_2) hisR ?_
  intro p e s m args below meth c s₁ Bd hml0 hP hK
  obtain ⟨rfl, hZ, hh⟩ := hP
  have hx := Bd.exec
  have hby := Bd.bytes
  have D := fun {n : Nat} {i} (d : decode jdk_67_method_42_code n = .ok i) => hb hby d
  have hml : c.maxLocals = 1 := hml0
  have hown : s.vm.findClass "java/lang/StringBuilder" = some m.cls := findClass_of_methodNamed Bd.named
  have hnm := (name_of_methodNamed Bd.named Bd.method).1
  have X0 : Stand p l e ({ frames := 5, cells := 2, slots := 20, locals := 79 } : Room) s m #[(.ref o0)] below meth c s₁ [] 0 0 := Stand.of_body Bd
  have e0 : s₁.heap = h0 := by rw [← hh, Bd.state]; rfl
  have K0 : ∀ t, Steps p.tables e below (s₁.setTop (mkF m 0 #[vr o0] [])) t → Steps p.tables e below (s₁.setTop (entryFrame m #[(.ref o0)] 1)) t := fun t k => castTop (ef_28 m o0) k
  generalize s₁.setTop (entryFrame m #[(.ref o0)] 1) = B0 at K0 ⊢
  show Own.Fin p e below B0 s (({ frames := 5, cells := 2, slots := 20, locals := 79 } : Room)).cells (({ frames := 5, cells := 2, slots := 20, locals := 79 } : Room)).slots (fun v h L => ∃ b, v = some (.ref b) ∧ h0.size ≤ b ∧ Fr n0 L ∧ Keep h0 h [] ∧ own_Txt Z h b cs)
  obtain ⟨T1, h1, b1, X1, e1, E1, g1, A1, D1, st1⟩ := Own.newO (Ls := #[vr o0]) (S := []) X0 hx hZ e0 hown (W_ hw 166 rfl) (W_ hw 8 rfl) (W_ hw 9 rfl) (D d28_0) (by decide) (by decide)
  have le_b1 : h0.size ≤ b1 := Nat.le_of_eq g1.symm
  have X1 : Stand p l e ({ frames := 5, cells := 2, slots := 20, locals := 79 } : Room) s m #[(.ref o0)] below meth c T1 [] 1 4 := X1
  have m2 : h0.size ≤ h1.size := E1.1
  have F1_value : Fld Z h1 b1 "java/lang/String" "value" "[B" .null := D1 (Or.inr (W_ hw 23 rfl)) (ty := (.array .byte)) (by decide)
  have F1_coder : Fld Z h1 b1 "java/lang/String" "coder" "B" (.int 0) := D1 (Or.inr (W_ hw 24 rfl)) (ty := .byte) (by decide)
  have K3 := fun t k => K0 t (st1 t k)
  have f4 := (SBX.ext E1)
  have f5 := (SC.ext E1)
  have K6 : Own.To p e below B0 T1 (mkF m 5 #[vr o0] [(.ref o0), (.ref b1), (.ref b1)]) := fun t k => K3 t (by
    refine Own.dup X1 hx (D d28_3) rfl ?_
    refine Own.aloadN X1 hx (D d28_4) rfl rfl ?_
    exact k)
  obtain ⟨T7, h7, v7, J7, L7, X7, e7, n7, hQ7, st7⟩ := Own.callI (Ls := #[vr o0]) X1 hx hZ e1 rfl b1 [(.ref o0)] [(.ref b1)] (cSIB l Z a0 hw b1 o0 n0 v0 cs G1 h1 (Nat.le_trans Z0 m2) A1 F1_value F1_coder (Nat.le_trans Z0 (Nat.le_trans (Nat.le_refl _) le_b1)) f4 (Nat.ne_of_lt (Nat.lt_of_lt_of_le SBX.exa.lt le_b1)) (Nat.ne_of_lt (Nat.lt_of_lt_of_le SBX.arr.lt le_b1)) hlt f5 hG1) hown (W_ hw 167 rfl) (W_ hw 168 rfl) (W_ hw 9 rfl) (W_ hw 169 rfl) (by decide) 1 (by decide) (by decide) (by decide) (by decide) (szOf hml rfl) (lenOf pd_16 rfl) rfl (Nat.le_of_eq rfl) (D d28_5)
  have X7 : Stand p l e ({ frames := 5, cells := 2, slots := 20, locals := 79 } : Room) s m #[(.ref o0)] below meth c T7 L7 2 20 := X7
  obtain ⟨rfl, NN7, K7, t7⟩ := hQ7
  have N7 : Fr n0 L7 := n7 n0 (Fr.nil _) NN7
  have m8 : h1.size ≤ h7.size := K7.1
  have K9 := fun t k => K6 t (st7 t k)
  have kp := (((Keep.refl h0 []).ext E1).trans K7 (allS (Or.inr le_b1) all0))
  exact Own.finA X7 hx (BodyLoose.notSynchronized Bd) Bd.returns rfl rfl (D d28_8) K9 (by decide) (by decide) (by rw [e7]; exact ⟨_, rfl, le_b1, N7, kp, t7⟩)

theorem d14_0 : decode J14 0 = .ok (.iconst 0, 1) := by decide +kernel
theorem d14_1 : decode J14 1 = .ok (.istore 5, 2) := by decide +kernel
theorem d14_3 : decode J14 3 = .ok (.iload 5, 2) := by decide +kernel
theorem d14_5 : decode J14 5 = .ok (.iload 4, 2) := by decide +kernel
theorem d14_7 : decode J14 7 = .ok (.if_icmp .ge 26, 3) := by decide +kernel
theorem d14_10 : decode J14 10 = .ok (.aload_n 2, 1) := by decide +kernel
theorem d14_11 : decode J14 11 = .ok (.iload_n 3, 1) := by decide +kernel
theorem d14_12 : decode J14 12 = .ok (.iinc 3 1, 3) := by decide +kernel
theorem d14_15 : decode J14 15 = .ok (.aload_n 0, 1) := by decide +kernel
theorem d14_16 : decode J14 16 = .ok (.iload_n 1, 1) := by decide +kernel
theorem d14_17 : decode J14 17 = .ok (.iinc 1 1, 3) := by decide +kernel
theorem d14_20 : decode J14 20 = .ok (.baload, 1) := by decide +kernel
theorem d14_21 : decode J14 21 = .ok (.sipush 255, 3) := by decide +kernel
theorem d14_24 : decode J14 24 = .ok (.iand, 1) := by decide +kernel
theorem d14_25 : decode J14 25 = .ok (.i2c, 1) := by decide +kernel
theorem d14_26 : decode J14 26 = .ok (.castore, 1) := by decide +kernel
theorem d14_27 : decode J14 27 = .ok (.iinc 5 1, 3) := by decide +kernel
theorem d14_30 : decode J14 30 = .ok (.goto (-27), 3) := by decide +kernel
theorem d14_33 : decode J14 33 = .ok (.return_, 1) := by decide +kernel
theorem ef_14 (m : MethodId) (o0 : Addr) (p1 : Int32) (o2 : Addr) (p3 : Int32) (p4 : Int32) : entryFrame m #[(.ref o0), (.int p1), (.ref o2), (.int p3), (.int p4)] 6 = mkF m 0 #[.val (.ref o0), .val (.int p1), .val (.ref o2), .val (.int p3), .val (.int p4), .unset] [] := by first | (simp [entryFrame, mkF, argsToLocals, Value.category]; done) | rfl
set_option maxRecDepth 65536 in
set_option maxHeartbeats 40000000 in
theorem cIL0 (l : Launch) (Z : State) (a0 : Array Value) (hw : ∀ d ∈ tables_1, d.before a0 Z = true) (o0 : Addr) (o2 : Addr) (n0 : Nat) (h0 : Heap) (Z0 : n0 ≤ h0.size) (A0 : Own.CA Z h0 o0 .byte ([] : List Int32)) (A2 : Own.CA Z h0 o2 .char ([] : List Int32)) (g2 : n0 ≤ o2) (hne : o0 ≠ o2) : Own.Con l Z (⟨"java/lang/StringLatin1", "inflate", "([BI[CII)V"⟩ : MethodName) jdk_43_method_49_code 6 none ({ frames := 0, cells := 0, slots := 0, locals := 0 } : Room) #[(.ref o0), (.int 0), (.ref o2), (.int 0), (.int 0)] h0 (fun v h L => v = none ∧ Fr n0 L ∧ Keep h0 h [o2] ∧ Own.CA Z h o2 .char ([] : List Int32)) := by
  intro ws
  refine MetFree.of_bodySF (plainFor_of_name pn_3) hisR ?_
  intro p e s m args below meth c s₁ Bd hml0 hP hK
  obtain ⟨rfl, hZ, hh⟩ := hP
  have hx := Bd.exec
  have hby := Bd.bytes
  have D := fun {n : Nat} {i} (d : decode jdk_43_method_49_code n = .ok i) => hb hby d
  have hml : c.maxLocals = 6 := hml0
  have hown : s.vm.findClass "java/lang/StringLatin1" = some m.cls := findClass_of_methodNamed Bd.named
  have hnm := (name_of_methodNamed Bd.named Bd.method).1
  have X0 : Stand p l e ({ frames := 0, cells := 0, slots := 0, locals := 0 } : Room) s m #[(.ref o0), (.int 0), (.ref o2), (.int 0), (.int 0)] below meth c s₁ [] 0 0 := Stand.of_body Bd
  have e0 : s₁.heap = h0 := by rw [← hh, Bd.state]; rfl
  have K0 : ∀ t, Steps p.tables e below (s₁.setTop (mkF m 0 #[vr o0, vi 0, vr o2, vi 0, vi 0, .unset] [])) t → Steps p.tables e below (s₁.setTop (entryFrame m #[(.ref o0), (.int 0), (.ref o2), (.int 0), (.int 0)] 6)) t := fun t k => castTop (ef_14 m o0 (0 : Int32) o2 (0 : Int32) (0 : Int32)) k
  generalize s₁.setTop (entryFrame m #[(.ref o0), (.int 0), (.ref o2), (.int 0), (.int 0)] 6) = B0 at K0 ⊢
  show Own.Fin p e below B0 s (({ frames := 0, cells := 0, slots := 0, locals := 0 } : Room)).cells (({ frames := 0, cells := 0, slots := 0, locals := 0 } : Room)).slots (fun v h L => v = none ∧ Fr n0 L ∧ Keep h0 h [o2] ∧ Own.CA Z h o2 .char ([] : List Int32))
  have K1 : Own.To p e below B0 s₁ (mkF m 7 #[vr o0, vi 0, vr o2, vi 0, vi 0, vi 0] [(.int 0), (.int 0)]) := fun t k => K0 t (by
    refine Own.iconst X0 hx 0 (D d14_0) rfl ?_
    refine Own.istore X0 hx #[vr o0, vi 0, vr o2, vi 0, vi 0, vi 0] (D d14_1) rfl ?_
    refine Own.iload X0 hx (D d14_3) rfl ?_
    refine Own.iload X0 hx (D d14_5) rfl ?_
    exact k)
  have K2 : Own.To p e below B0 s₁ (mkF m 33 #[vr o0, vi 0, vr o2, vi 0, vi 0, vi 0] []) := fun t k => K1 t (by
    refine Own.icmpYes X0 hx 33 (D d14_7) (flt (by decide : ¬ ((0 : Int32) < (0 : Int32)))).2.1 (by decide) (by decide) ?_
    exact k)
  have kp := (Keep.refl h0 [o2])
  exact Own.finV X0 hx (BodyLoose.notSynchronized Bd) Bd.returns (D d14_33) K2 (by decide) (by decide) (by rw [e0]; exact ⟨rfl, Fr.nil _, kp, A2⟩)

set_option maxRecDepth 65536 in
set_option maxHeartbeats 40000000 in
theorem cIL1 (l : Launch) (Z : State) (a0 : Array Value) (hw : ∀ d ∈ tables_1, d.before a0 Z = true) (o0 : Addr) (o2 : Addr) (n0 : Nat) (ch0 : Int32) (h0 : Heap) (Z0 : n0 ≤ h0.size) (A0 : Own.CA Z h0 o0 .byte [(StrChars.lo8 ch0)]) (A2 : Own.CA Z h0 o2 .char [(0 : Int32)]) (g2 : n0 ≤ o2) (hne : o0 ≠ o2) (hch0 : own_ok ch0) : Own.Con l Z (⟨"java/lang/StringLatin1", "inflate", "([BI[CII)V"⟩ : MethodName) jdk_43_method_49_code 6 none ({ frames := 0, cells := 0, slots := 0, locals := 0 } : Room) #[(.ref o0), (.int 0), (.ref o2), (.int 0), (.int 1)] h0 (fun v h L => v = none ∧ Fr n0 L ∧ Keep h0 h [o2] ∧ Own.CA Z h o2 .char [ch0]) := by
  intro ws
  refine MetFree.of_bodySF (plainFor_of_name pn_3) hisR ?_
  intro p e s m args below meth c s₁ Bd hml0 hP hK
  obtain ⟨rfl, hZ, hh⟩ := hP
  have hx := Bd.exec
  have hby := Bd.bytes
  have D := fun {n : Nat} {i} (d : decode jdk_43_method_49_code n = .ok i) => hb hby d
  have hml : c.maxLocals = 6 := hml0
  have hown : s.vm.findClass "java/lang/StringLatin1" = some m.cls := findClass_of_methodNamed Bd.named
  have hnm := (name_of_methodNamed Bd.named Bd.method).1
  have X0 : Stand p l e ({ frames := 0, cells := 0, slots := 0, locals := 0 } : Room) s m #[(.ref o0), (.int 0), (.ref o2), (.int 0), (.int 1)] below meth c s₁ [] 0 0 := Stand.of_body Bd
  have e0 : s₁.heap = h0 := by rw [← hh, Bd.state]; rfl
  have K0 : ∀ t, Steps p.tables e below (s₁.setTop (mkF m 0 #[vr o0, vi 0, vr o2, vi 0, vi 1, .unset] [])) t → Steps p.tables e below (s₁.setTop (entryFrame m #[(.ref o0), (.int 0), (.ref o2), (.int 0), (.int 1)] 6)) t := fun t k => castTop (ef_14 m o0 (0 : Int32) o2 (0 : Int32) (1 : Int32)) k
  generalize s₁.setTop (entryFrame m #[(.ref o0), (.int 0), (.ref o2), (.int 0), (.int 1)] 6) = B0 at K0 ⊢
  show Own.Fin p e below B0 s (({ frames := 0, cells := 0, slots := 0, locals := 0 } : Room)).cells (({ frames := 0, cells := 0, slots := 0, locals := 0 } : Room)).slots (fun v h L => v = none ∧ Fr n0 L ∧ Keep h0 h [o2] ∧ Own.CA Z h o2 .char [ch0])
  have K1 : Own.To p e below B0 s₁ (mkF m 7 #[vr o0, vi 0, vr o2, vi 0, vi 1, vi 0] [(.int 1), (.int 0)]) := fun t k => K0 t (by
    refine Own.iconst X0 hx 0 (D d14_0) rfl ?_
    refine Own.istore X0 hx #[vr o0, vi 0, vr o2, vi 0, vi 1, vi 0] (D d14_1) rfl ?_
    refine Own.iload X0 hx (D d14_3) rfl ?_
    refine Own.iload X0 hx (D d14_5) rfl ?_
    exact k)
  have K2 : Own.To p e below B0 s₁ (mkF m 20 #[vr o0, vi 1, vr o2, vi 1, vi 1, vi 0] [(.int 0), (.ref o0), (.int 0), (.ref o2)]) := fun t k => K1 t (by
    refine Own.icmpNo X0 hx (D d14_7) (tlt (by decide : (0 : Int32) < (1 : Int32))).2.1 ?_
    refine Own.aloadN X0 hx (D d14_10) rfl rfl ?_
    refine Own.iloadN X0 hx (D d14_11) rfl ?_
    refine Own.iinc X0 hx (1 : Int32) #[vr o0, vi 0, vr o2, vi 1, vi 1, vi 0] (D d14_12) rfl rfl rfl ?_
    refine Own.aloadN X0 hx (D d14_15) rfl rfl ?_
    refine Own.iloadN X0 hx (D d14_16) rfl ?_
    refine Own.iinc X0 hx (1 : Int32) #[vr o0, vi 1, vr o2, vi 1, vi 1, vi 0] (D d14_17) rfl rfl rfl ?_
    exact k)
  have K3 : Own.To p e below B0 s₁ (mkF m 26 #[vr o0, vi 1, vr o2, vi 1, vi 1, vi 0] [(.int (((StrChars.lo8 ch0) &&& (255 : Int32)).toUInt32.toUInt16.toUInt32.toInt32)), (.int 0), (.ref o2)]) := fun t k => K2 t (by
    refine Own.bal X0 hx hZ e0 A0 (StrChars.lo8 ch0) (by decide) (show (0 : Int32).toNatClampNeg < 1 by decide) rfl (D d14_20) ?_
    refine Own.sipush X0 hx 255 (D d14_21) rfl ?_
    refine Own.iand X0 hx (D d14_24) ?_
    refine Own.i2c X0 hx (D d14_25) ?_
    exact k)
  obtain ⟨T4, h4, L4, X4, e4, n4, W4, V4, st4⟩ := Own.stc (Ls := #[vr o0, vi 1, vr o2, vi 1, vi 1, vi 0]) (S := []) (x := (((StrChars.lo8 ch0) &&& (255 : Int32)).toUInt32.toUInt16.toUInt32.toInt32)) (j := (0 : Int32)) X0 hx hZ e0 A2 0 rfl (by decide) (show 0 < 1 by decide) (D d14_26)
  have V4 : Own.CA Z h4 o2 .char [ch0] := (by rw [show ch0 = nar .char (((StrChars.lo8 ch0) &&& (255 : Int32)).toUInt32.toUInt16.toUInt32.toInt32) from (own_lo8c hch0).symm]; exact V4)
  have N4 : Fr n0 L4 := n4 n0 (Fr.nil _) g2
  have m5 : h0.size ≤ h4.size := Nat.le_of_eq W4.size.symm
  have K6 := fun t k => K3 t (st4 t k)
  have K7 : Own.To p e below B0 T4 (mkF m 7 #[vr o0, vi 1, vr o2, vi 1, vi 1, vi 1] [(.int 1), (.int 1)]) := fun t k => K6 t (by
    refine Own.iinc X4 hx (1 : Int32) #[vr o0, vi 1, vr o2, vi 1, vi 1, vi 1] (D d14_27) rfl rfl rfl ?_
    refine Own.goto X4 hx 3 (D d14_30) (by decide) (by decide) ?_
    refine Own.iload X4 hx (D d14_3) rfl ?_
    refine Own.iload X4 hx (D d14_5) rfl ?_
    exact k)
  have K8 : Own.To p e below B0 T4 (mkF m 33 #[vr o0, vi 1, vr o2, vi 1, vi 1, vi 1] []) := fun t k => K7 t (by
    refine Own.icmpYes X4 hx 33 (D d14_7) (flt (by decide : ¬ ((1 : Int32) < (1 : Int32)))).2.1 (by decide) (by decide) ?_
    exact k)
  have kp := ((Keep.refl h0 [o2]).wr W4 (Or.inl (List.mem_of_getElem? (i := 0) rfl)))
  exact Own.finV X4 hx (BodyLoose.notSynchronized Bd) Bd.returns (D d14_33) K8 (by decide) (by decide) (by rw [e4]; exact ⟨rfl, N4, kp, V4⟩)

set_option maxRecDepth 65536 in
set_option maxHeartbeats 40000000 in
theorem cIL2 (l : Launch) (Z : State) (a0 : Array Value) (hw : ∀ d ∈ tables_1, d.before a0 Z = true) (o0 : Addr) (o2 : Addr) (n0 : Nat) (ch0 : Int32) (ch1 : Int32) (h0 : Heap) (Z0 : n0 ≤ h0.size) (A0 : Own.CA Z h0 o0 .byte [(StrChars.lo8 ch0), (StrChars.lo8 ch1)]) (A2 : Own.CA Z h0 o2 .char [(0 : Int32), (0 : Int32)]) (g2 : n0 ≤ o2) (hne : o0 ≠ o2) (hch0 : own_ok ch0) (hch1 : own_ok ch1) : Own.Con l Z (⟨"java/lang/StringLatin1", "inflate", "([BI[CII)V"⟩ : MethodName) jdk_43_method_49_code 6 none ({ frames := 0, cells := 0, slots := 0, locals := 0 } : Room) #[(.ref o0), (.int 0), (.ref o2), (.int 0), (.int 2)] h0 (fun v h L => v = none ∧ Fr n0 L ∧ Keep h0 h [o2] ∧ Own.CA Z h o2 .char [ch0, ch1]) := by
  intro ws
  refine MetFree.of_bodySF (plainFor_of_name pn_3) hisR ?_
  intro p e s m args below meth c s₁ Bd hml0 hP hK
  obtain ⟨rfl, hZ, hh⟩ := hP
  have hx := Bd.exec
  have hby := Bd.bytes
  have D := fun {n : Nat} {i} (d : decode jdk_43_method_49_code n = .ok i) => hb hby d
  have hml : c.maxLocals = 6 := hml0
  have hown : s.vm.findClass "java/lang/StringLatin1" = some m.cls := findClass_of_methodNamed Bd.named
  have hnm := (name_of_methodNamed Bd.named Bd.method).1
  have X0 : Stand p l e ({ frames := 0, cells := 0, slots := 0, locals := 0 } : Room) s m #[(.ref o0), (.int 0), (.ref o2), (.int 0), (.int 2)] below meth c s₁ [] 0 0 := Stand.of_body Bd
  have e0 : s₁.heap = h0 := by rw [← hh, Bd.state]; rfl
  have K0 : ∀ t, Steps p.tables e below (s₁.setTop (mkF m 0 #[vr o0, vi 0, vr o2, vi 0, vi 2, .unset] [])) t → Steps p.tables e below (s₁.setTop (entryFrame m #[(.ref o0), (.int 0), (.ref o2), (.int 0), (.int 2)] 6)) t := fun t k => castTop (ef_14 m o0 (0 : Int32) o2 (0 : Int32) (2 : Int32)) k
  generalize s₁.setTop (entryFrame m #[(.ref o0), (.int 0), (.ref o2), (.int 0), (.int 2)] 6) = B0 at K0 ⊢
  show Own.Fin p e below B0 s (({ frames := 0, cells := 0, slots := 0, locals := 0 } : Room)).cells (({ frames := 0, cells := 0, slots := 0, locals := 0 } : Room)).slots (fun v h L => v = none ∧ Fr n0 L ∧ Keep h0 h [o2] ∧ Own.CA Z h o2 .char [ch0, ch1])
  have K1 : Own.To p e below B0 s₁ (mkF m 7 #[vr o0, vi 0, vr o2, vi 0, vi 2, vi 0] [(.int 2), (.int 0)]) := fun t k => K0 t (by
    refine Own.iconst X0 hx 0 (D d14_0) rfl ?_
    refine Own.istore X0 hx #[vr o0, vi 0, vr o2, vi 0, vi 2, vi 0] (D d14_1) rfl ?_
    refine Own.iload X0 hx (D d14_3) rfl ?_
    refine Own.iload X0 hx (D d14_5) rfl ?_
    exact k)
  have K2 : Own.To p e below B0 s₁ (mkF m 20 #[vr o0, vi 1, vr o2, vi 1, vi 2, vi 0] [(.int 0), (.ref o0), (.int 0), (.ref o2)]) := fun t k => K1 t (by
    refine Own.icmpNo X0 hx (D d14_7) (tlt (by decide : (0 : Int32) < (2 : Int32))).2.1 ?_
    refine Own.aloadN X0 hx (D d14_10) rfl rfl ?_
    refine Own.iloadN X0 hx (D d14_11) rfl ?_
    refine Own.iinc X0 hx (1 : Int32) #[vr o0, vi 0, vr o2, vi 1, vi 2, vi 0] (D d14_12) rfl rfl rfl ?_
    refine Own.aloadN X0 hx (D d14_15) rfl rfl ?_
    refine Own.iloadN X0 hx (D d14_16) rfl ?_
    refine Own.iinc X0 hx (1 : Int32) #[vr o0, vi 1, vr o2, vi 1, vi 2, vi 0] (D d14_17) rfl rfl rfl ?_
    exact k)
  have K3 : Own.To p e below B0 s₁ (mkF m 26 #[vr o0, vi 1, vr o2, vi 1, vi 2, vi 0] [(.int (((StrChars.lo8 ch0) &&& (255 : Int32)).toUInt32.toUInt16.toUInt32.toInt32)), (.int 0), (.ref o2)]) := fun t k => K2 t (by
    refine Own.bal X0 hx hZ e0 A0 (StrChars.lo8 ch0) (by decide) (show (0 : Int32).toNatClampNeg < 2 by decide) rfl (D d14_20) ?_
    refine Own.sipush X0 hx 255 (D d14_21) rfl ?_
    refine Own.iand X0 hx (D d14_24) ?_
    refine Own.i2c X0 hx (D d14_25) ?_
    exact k)
  obtain ⟨T4, h4, L4, X4, e4, n4, W4, V4, st4⟩ := Own.stc (Ls := #[vr o0, vi 1, vr o2, vi 1, vi 2, vi 0]) (S := []) (x := (((StrChars.lo8 ch0) &&& (255 : Int32)).toUInt32.toUInt16.toUInt32.toInt32)) (j := (0 : Int32)) X0 hx hZ e0 A2 0 rfl (by decide) (show 0 < 2 by decide) (D d14_26)
  have V4 : Own.CA Z h4 o2 .char [ch0, (0 : Int32)] := (by rw [show ch0 = nar .char (((StrChars.lo8 ch0) &&& (255 : Int32)).toUInt32.toUInt16.toUInt32.toInt32) from (own_lo8c hch0).symm]; exact V4)
  have N4 : Fr n0 L4 := n4 n0 (Fr.nil _) g2
  have m5 : h0.size ≤ h4.size := Nat.le_of_eq W4.size.symm
  have K6 := fun t k => K3 t (st4 t k)
  have K7 : Own.To p e below B0 T4 (mkF m 7 #[vr o0, vi 1, vr o2, vi 1, vi 2, vi 1] [(.int 2), (.int 1)]) := fun t k => K6 t (by
    refine Own.iinc X4 hx (1 : Int32) #[vr o0, vi 1, vr o2, vi 1, vi 2, vi 1] (D d14_27) rfl rfl rfl ?_
    refine Own.goto X4 hx 3 (D d14_30) (by decide) (by decide) ?_
    refine Own.iload X4 hx (D d14_3) rfl ?_
    refine Own.iload X4 hx (D d14_5) rfl ?_
    exact k)
  have K8 : Own.To p e below B0 T4 (mkF m 20 #[vr o0, vi 2, vr o2, vi 2, vi 2, vi 1] [(.int 1), (.ref o0), (.int 1), (.ref o2)]) := fun t k => K7 t (by
    refine Own.icmpNo X4 hx (D d14_7) (tlt (by decide : (1 : Int32) < (2 : Int32))).2.1 ?_
    refine Own.aloadN X4 hx (D d14_10) rfl rfl ?_
    refine Own.iloadN X4 hx (D d14_11) rfl ?_
    refine Own.iinc X4 hx (2 : Int32) #[vr o0, vi 1, vr o2, vi 2, vi 2, vi 1] (D d14_12) rfl rfl rfl ?_
    refine Own.aloadN X4 hx (D d14_15) rfl rfl ?_
    refine Own.iloadN X4 hx (D d14_16) rfl ?_
    refine Own.iinc X4 hx (2 : Int32) #[vr o0, vi 2, vr o2, vi 2, vi 2, vi 1] (D d14_17) rfl rfl rfl ?_
    exact k)
  have f9 := (A0.other W4 hne)
  have K10 : Own.To p e below B0 T4 (mkF m 26 #[vr o0, vi 2, vr o2, vi 2, vi 2, vi 1] [(.int (((StrChars.lo8 ch1) &&& (255 : Int32)).toUInt32.toUInt16.toUInt32.toInt32)), (.int 1), (.ref o2)]) := fun t k => K8 t (by
    refine Own.bal X4 hx hZ e4 f9 (StrChars.lo8 ch1) (by decide) (show (1 : Int32).toNatClampNeg < 2 by decide) rfl (D d14_20) ?_
    refine Own.sipush X4 hx 255 (D d14_21) rfl ?_
    refine Own.iand X4 hx (D d14_24) ?_
    refine Own.i2c X4 hx (D d14_25) ?_
    exact k)
  obtain ⟨T11, h11, L11, X11, e11, n11, W11, V11, st11⟩ := Own.stc (Ls := #[vr o0, vi 2, vr o2, vi 2, vi 2, vi 1]) (S := []) (x := (((StrChars.lo8 ch1) &&& (255 : Int32)).toUInt32.toUInt16.toUInt32.toInt32)) (j := (1 : Int32)) X4 hx hZ e4 V4 1 rfl (by decide) (show 1 < 2 by decide) (D d14_26)
  have V11 : Own.CA Z h11 o2 .char [ch0, ch1] := (by rw [show ch1 = nar .char (((StrChars.lo8 ch1) &&& (255 : Int32)).toUInt32.toUInt16.toUInt32.toInt32) from (own_lo8c hch1).symm]; exact V11)
  have N11 : Fr n0 L11 := n11 n0 N4 g2
  have m12 : h4.size ≤ h11.size := Nat.le_of_eq W11.size.symm
  have K13 := fun t k => K10 t (st11 t k)
  have K14 : Own.To p e below B0 T11 (mkF m 7 #[vr o0, vi 2, vr o2, vi 2, vi 2, vi 2] [(.int 2), (.int 2)]) := fun t k => K13 t (by
    refine Own.iinc X11 hx (2 : Int32) #[vr o0, vi 2, vr o2, vi 2, vi 2, vi 2] (D d14_27) rfl rfl rfl ?_
    refine Own.goto X11 hx 3 (D d14_30) (by decide) (by decide) ?_
    refine Own.iload X11 hx (D d14_3) rfl ?_
    refine Own.iload X11 hx (D d14_5) rfl ?_
    exact k)
  have K15 : Own.To p e below B0 T11 (mkF m 33 #[vr o0, vi 2, vr o2, vi 2, vi 2, vi 2] []) := fun t k => K14 t (by
    refine Own.icmpYes X11 hx 33 (D d14_7) (flt (by decide : ¬ ((2 : Int32) < (2 : Int32)))).2.1 (by decide) (by decide) ?_
    exact k)
  have kp := (((Keep.refl h0 [o2]).wr W4 (Or.inl (List.mem_of_getElem? (i := 0) rfl))).wr W11 (Or.inl (List.mem_of_getElem? (i := 0) rfl)))
  exact Own.finV X11 hx (BodyLoose.notSynchronized Bd) Bd.returns (D d14_33) K15 (by decide) (by decide) (by rw [e11]; exact ⟨rfl, N11, kp, V11⟩)

set_option maxRecDepth 65536 in
set_option maxHeartbeats 40000000 in
theorem cIL3 (l : Launch) (Z : State) (a0 : Array Value) (hw : ∀ d ∈ tables_1, d.before a0 Z = true) (o0 : Addr) (o2 : Addr) (n0 : Nat) (ch0 : Int32) (ch1 : Int32) (ch2 : Int32) (h0 : Heap) (Z0 : n0 ≤ h0.size) (A0 : Own.CA Z h0 o0 .byte [(StrChars.lo8 ch0), (StrChars.lo8 ch1), (StrChars.lo8 ch2)]) (A2 : Own.CA Z h0 o2 .char [(0 : Int32), (0 : Int32), (0 : Int32)]) (g2 : n0 ≤ o2) (hne : o0 ≠ o2) (hch0 : own_ok ch0) (hch1 : own_ok ch1) (hch2 : own_ok ch2) : Own.Con l Z (⟨"java/lang/StringLatin1", "inflate", "([BI[CII)V"⟩ : MethodName) jdk_43_method_49_code 6 none ({ frames := 0, cells := 0, slots := 0, locals := 0 } : Room) #[(.ref o0), (.int 0), (.ref o2), (.int 0), (.int 3)] h0 (fun v h L => v = none ∧ Fr n0 L ∧ Keep h0 h [o2] ∧ Own.CA Z h o2 .char [ch0, ch1, ch2]) := by
  intro ws
  refine MetFree.of_bodySF (plainFor_of_name pn_3) hisR ?_
  intro p e s m args below meth c s₁ Bd hml0 hP hK
  obtain ⟨rfl, hZ, hh⟩ := hP
  have hx := Bd.exec
  have hby := Bd.bytes
  have D := fun {n : Nat} {i} (d : decode jdk_43_method_49_code n = .ok i) => hb hby d
  have hml : c.maxLocals = 6 := hml0
  have hown : s.vm.findClass "java/lang/StringLatin1" = some m.cls := findClass_of_methodNamed Bd.named
  have hnm := (name_of_methodNamed Bd.named Bd.method).1
  have X0 : Stand p l e ({ frames := 0, cells := 0, slots := 0, locals := 0 } : Room) s m #[(.ref o0), (.int 0), (.ref o2), (.int 0), (.int 3)] below meth c s₁ [] 0 0 := Stand.of_body Bd
  have e0 : s₁.heap = h0 := by rw [← hh, Bd.state]; rfl
  have K0 : ∀ t, Steps p.tables e below (s₁.setTop (mkF m 0 #[vr o0, vi 0, vr o2, vi 0, vi 3, .unset] [])) t → Steps p.tables e below (s₁.setTop (entryFrame m #[(.ref o0), (.int 0), (.ref o2), (.int 0), (.int 3)] 6)) t := fun t k => castTop (ef_14 m o0 (0 : Int32) o2 (0 : Int32) (3 : Int32)) k
  generalize s₁.setTop (entryFrame m #[(.ref o0), (.int 0), (.ref o2), (.int 0), (.int 3)] 6) = B0 at K0 ⊢
  show Own.Fin p e below B0 s (({ frames := 0, cells := 0, slots := 0, locals := 0 } : Room)).cells (({ frames := 0, cells := 0, slots := 0, locals := 0 } : Room)).slots (fun v h L => v = none ∧ Fr n0 L ∧ Keep h0 h [o2] ∧ Own.CA Z h o2 .char [ch0, ch1, ch2])
  have K1 : Own.To p e below B0 s₁ (mkF m 7 #[vr o0, vi 0, vr o2, vi 0, vi 3, vi 0] [(.int 3), (.int 0)]) := fun t k => K0 t (by
    refine Own.iconst X0 hx 0 (D d14_0) rfl ?_
    refine Own.istore X0 hx #[vr o0, vi 0, vr o2, vi 0, vi 3, vi 0] (D d14_1) rfl ?_
    refine Own.iload X0 hx (D d14_3) rfl ?_
    refine Own.iload X0 hx (D d14_5) rfl ?_
    exact k)
  have K2 : Own.To p e below B0 s₁ (mkF m 20 #[vr o0, vi 1, vr o2, vi 1, vi 3, vi 0] [(.int 0), (.ref o0), (.int 0), (.ref o2)]) := fun t k => K1 t (by
    refine Own.icmpNo X0 hx (D d14_7) (tlt (by decide : (0 : Int32) < (3 : Int32))).2.1 ?_
    refine Own.aloadN X0 hx (D d14_10) rfl rfl ?_
    refine Own.iloadN X0 hx (D d14_11) rfl ?_
    refine Own.iinc X0 hx (1 : Int32) #[vr o0, vi 0, vr o2, vi 1, vi 3, vi 0] (D d14_12) rfl rfl rfl ?_
    refine Own.aloadN X0 hx (D d14_15) rfl rfl ?_
    refine Own.iloadN X0 hx (D d14_16) rfl ?_
    refine Own.iinc X0 hx (1 : Int32) #[vr o0, vi 1, vr o2, vi 1, vi 3, vi 0] (D d14_17) rfl rfl rfl ?_
    exact k)
  have K3 : Own.To p e below B0 s₁ (mkF m 26 #[vr o0, vi 1, vr o2, vi 1, vi 3, vi 0] [(.int (((StrChars.lo8 ch0) &&& (255 : Int32)).toUInt32.toUInt16.toUInt32.toInt32)), (.int 0), (.ref o2)]) := fun t k => K2 t (by
    refine Own.bal X0 hx hZ e0 A0 (StrChars.lo8 ch0) (by decide) (show (0 : Int32).toNatClampNeg < 3 by decide) rfl (D d14_20) ?_
    refine Own.sipush X0 hx 255 (D d14_21) rfl ?_
    refine Own.iand X0 hx (D d14_24) ?_
    refine Own.i2c X0 hx (D d14_25) ?_
    exact k)
  obtain ⟨T4, h4, L4, X4, e4, n4, W4, V4, st4⟩ := Own.stc (Ls := #[vr o0, vi 1, vr o2, vi 1, vi 3, vi 0]) (S := []) (x := (((StrChars.lo8 ch0) &&& (255 : Int32)).toUInt32.toUInt16.toUInt32.toInt32)) (j := (0 : Int32)) X0 hx hZ e0 A2 0 rfl (by decide) (show 0 < 3 by decide) (D d14_26)
  have V4 : Own.CA Z h4 o2 .char [ch0, (0 : Int32), (0 : Int32)] := (by rw [show ch0 = nar .char (((StrChars.lo8 ch0) &&& (255 : Int32)).toUInt32.toUInt16.toUInt32.toInt32) from (own_lo8c hch0).symm]; exact V4)
  have N4 : Fr n0 L4 := n4 n0 (Fr.nil _) g2
  have m5 : h0.size ≤ h4.size := Nat.le_of_eq W4.size.symm
  have K6 := fun t k => K3 t (st4 t k)
  have K7 : Own.To p e below B0 T4 (mkF m 7 #[vr o0, vi 1, vr o2, vi 1, vi 3, vi 1] [(.int 3), (.int 1)]) := fun t k => K6 t (by
    refine Own.iinc X4 hx (1 : Int32) #[vr o0, vi 1, vr o2, vi 1, vi 3, vi 1] (D d14_27) rfl rfl rfl ?_
    refine Own.goto X4 hx 3 (D d14_30) (by decide) (by decide) ?_
    refine Own.iload X4 hx (D d14_3) rfl ?_
    refine Own.iload X4 hx (D d14_5) rfl ?_
    exact k)
  have K8 : Own.To p e below B0 T4 (mkF m 20 #[vr o0, vi 2, vr o2, vi 2, vi 3, vi 1] [(.int 1), (.ref o0), (.int 1), (.ref o2)]) := fun t k => K7 t (by
    refine Own.icmpNo X4 hx (D d14_7) (tlt (by decide : (1 : Int32) < (3 : Int32))).2.1 ?_
    refine Own.aloadN X4 hx (D d14_10) rfl rfl ?_
    refine Own.iloadN X4 hx (D d14_11) rfl ?_
    refine Own.iinc X4 hx (2 : Int32) #[vr o0, vi 1, vr o2, vi 2, vi 3, vi 1] (D d14_12) rfl rfl rfl ?_
    refine Own.aloadN X4 hx (D d14_15) rfl rfl ?_
    refine Own.iloadN X4 hx (D d14_16) rfl ?_
    refine Own.iinc X4 hx (2 : Int32) #[vr o0, vi 2, vr o2, vi 2, vi 3, vi 1] (D d14_17) rfl rfl rfl ?_
    exact k)
  have f9 := (A0.other W4 hne)
  have K10 : Own.To p e below B0 T4 (mkF m 26 #[vr o0, vi 2, vr o2, vi 2, vi 3, vi 1] [(.int (((StrChars.lo8 ch1) &&& (255 : Int32)).toUInt32.toUInt16.toUInt32.toInt32)), (.int 1), (.ref o2)]) := fun t k => K8 t (by
    refine Own.bal X4 hx hZ e4 f9 (StrChars.lo8 ch1) (by decide) (show (1 : Int32).toNatClampNeg < 3 by decide) rfl (D d14_20) ?_
    refine Own.sipush X4 hx 255 (D d14_21) rfl ?_
    refine Own.iand X4 hx (D d14_24) ?_
    refine Own.i2c X4 hx (D d14_25) ?_
    exact k)
  obtain ⟨T11, h11, L11, X11, e11, n11, W11, V11, st11⟩ := Own.stc (Ls := #[vr o0, vi 2, vr o2, vi 2, vi 3, vi 1]) (S := []) (x := (((StrChars.lo8 ch1) &&& (255 : Int32)).toUInt32.toUInt16.toUInt32.toInt32)) (j := (1 : Int32)) X4 hx hZ e4 V4 1 rfl (by decide) (show 1 < 3 by decide) (D d14_26)
  have V11 : Own.CA Z h11 o2 .char [ch0, ch1, (0 : Int32)] := (by rw [show ch1 = nar .char (((StrChars.lo8 ch1) &&& (255 : Int32)).toUInt32.toUInt16.toUInt32.toInt32) from (own_lo8c hch1).symm]; exact V11)
  have N11 : Fr n0 L11 := n11 n0 N4 g2
  have m12 : h4.size ≤ h11.size := Nat.le_of_eq W11.size.symm
  have K13 := fun t k => K10 t (st11 t k)
  have K14 : Own.To p e below B0 T11 (mkF m 7 #[vr o0, vi 2, vr o2, vi 2, vi 3, vi 2] [(.int 3), (.int 2)]) := fun t k => K13 t (by
    refine Own.iinc X11 hx (2 : Int32) #[vr o0, vi 2, vr o2, vi 2, vi 3, vi 2] (D d14_27) rfl rfl rfl ?_
    refine Own.goto X11 hx 3 (D d14_30) (by decide) (by decide) ?_
    refine Own.iload X11 hx (D d14_3) rfl ?_
    refine Own.iload X11 hx (D d14_5) rfl ?_
    exact k)
  have K15 : Own.To p e below B0 T11 (mkF m 20 #[vr o0, vi 3, vr o2, vi 3, vi 3, vi 2] [(.int 2), (.ref o0), (.int 2), (.ref o2)]) := fun t k => K14 t (by
    refine Own.icmpNo X11 hx (D d14_7) (tlt (by decide : (2 : Int32) < (3 : Int32))).2.1 ?_
    refine Own.aloadN X11 hx (D d14_10) rfl rfl ?_
    refine Own.iloadN X11 hx (D d14_11) rfl ?_
    refine Own.iinc X11 hx (3 : Int32) #[vr o0, vi 2, vr o2, vi 3, vi 3, vi 2] (D d14_12) rfl rfl rfl ?_
    refine Own.aloadN X11 hx (D d14_15) rfl rfl ?_
    refine Own.iloadN X11 hx (D d14_16) rfl ?_
    refine Own.iinc X11 hx (3 : Int32) #[vr o0, vi 3, vr o2, vi 3, vi 3, vi 2] (D d14_17) rfl rfl rfl ?_
    exact k)
  have f16 := (f9.other W11 hne)
  have K17 : Own.To p e below B0 T11 (mkF m 26 #[vr o0, vi 3, vr o2, vi 3, vi 3, vi 2] [(.int (((StrChars.lo8 ch2) &&& (255 : Int32)).toUInt32.toUInt16.toUInt32.toInt32)), (.int 2), (.ref o2)]) := fun t k => K15 t (by
    refine Own.bal X11 hx hZ e11 f16 (StrChars.lo8 ch2) (by decide) (show (2 : Int32).toNatClampNeg < 3 by decide) rfl (D d14_20) ?_
    refine Own.sipush X11 hx 255 (D d14_21) rfl ?_
    refine Own.iand X11 hx (D d14_24) ?_
    refine Own.i2c X11 hx (D d14_25) ?_
    exact k)
  obtain ⟨T18, h18, L18, X18, e18, n18, W18, V18, st18⟩ := Own.stc (Ls := #[vr o0, vi 3, vr o2, vi 3, vi 3, vi 2]) (S := []) (x := (((StrChars.lo8 ch2) &&& (255 : Int32)).toUInt32.toUInt16.toUInt32.toInt32)) (j := (2 : Int32)) X11 hx hZ e11 V11 2 rfl (by decide) (show 2 < 3 by decide) (D d14_26)
  have V18 : Own.CA Z h18 o2 .char [ch0, ch1, ch2] := (by rw [show ch2 = nar .char (((StrChars.lo8 ch2) &&& (255 : Int32)).toUInt32.toUInt16.toUInt32.toInt32) from (own_lo8c hch2).symm]; exact V18)
  have N18 : Fr n0 L18 := n18 n0 N11 g2
  have m19 : h11.size ≤ h18.size := Nat.le_of_eq W18.size.symm
  have K20 := fun t k => K17 t (st18 t k)
  have K21 : Own.To p e below B0 T18 (mkF m 7 #[vr o0, vi 3, vr o2, vi 3, vi 3, vi 3] [(.int 3), (.int 3)]) := fun t k => K20 t (by
    refine Own.iinc X18 hx (3 : Int32) #[vr o0, vi 3, vr o2, vi 3, vi 3, vi 3] (D d14_27) rfl rfl rfl ?_
    refine Own.goto X18 hx 3 (D d14_30) (by decide) (by decide) ?_
    refine Own.iload X18 hx (D d14_3) rfl ?_
    refine Own.iload X18 hx (D d14_5) rfl ?_
    exact k)
  have K22 : Own.To p e below B0 T18 (mkF m 33 #[vr o0, vi 3, vr o2, vi 3, vi 3, vi 3] []) := fun t k => K21 t (by
    refine Own.icmpYes X18 hx 33 (D d14_7) (flt (by decide : ¬ ((3 : Int32) < (3 : Int32)))).2.1 (by decide) (by decide) ?_
    exact k)
  have kp := ((((Keep.refl h0 [o2]).wr W4 (Or.inl (List.mem_of_getElem? (i := 0) rfl))).wr W11 (Or.inl (List.mem_of_getElem? (i := 0) rfl))).wr W18 (Or.inl (List.mem_of_getElem? (i := 0) rfl)))
  exact Own.finV X18 hx (BodyLoose.notSynchronized Bd) Bd.returns (D d14_33) K22 (by decide) (by decide) (by rw [e18]; exact ⟨rfl, N18, kp, V18⟩)

set_option maxRecDepth 65536 in
set_option maxHeartbeats 40000000 in
theorem cIL4 (l : Launch) (Z : State) (a0 : Array Value) (hw : ∀ d ∈ tables_1, d.before a0 Z = true) (o0 : Addr) (o2 : Addr) (n0 : Nat) (ch0 : Int32) (ch1 : Int32) (ch2 : Int32) (ch3 : Int32) (h0 : Heap) (Z0 : n0 ≤ h0.size) (A0 : Own.CA Z h0 o0 .byte [(StrChars.lo8 ch0), (StrChars.lo8 ch1), (StrChars.lo8 ch2), (StrChars.lo8 ch3)]) (A2 : Own.CA Z h0 o2 .char [(0 : Int32), (0 : Int32), (0 : Int32), (0 : Int32)]) (g2 : n0 ≤ o2) (hne : o0 ≠ o2) (hch0 : own_ok ch0) (hch1 : own_ok ch1) (hch2 : own_ok ch2) (hch3 : own_ok ch3) : Own.Con l Z (⟨"java/lang/StringLatin1", "inflate", "([BI[CII)V"⟩ : MethodName) jdk_43_method_49_code 6 none ({ frames := 0, cells := 0, slots := 0, locals := 0 } : Room) #[(.ref o0), (.int 0), (.ref o2), (.int 0), (.int 4)] h0 (fun v h L => v = none ∧ Fr n0 L ∧ Keep h0 h [o2] ∧ Own.CA Z h o2 .char [ch0, ch1, ch2, ch3]) := by
  intro ws
  refine MetFree.of_bodySF (plainFor_of_name pn_3) hisR ?_
  intro p e s m args below meth c s₁ Bd hml0 hP hK
  obtain ⟨rfl, hZ, hh⟩ := hP
  have hx := Bd.exec
  have hby := Bd.bytes
  have D := fun {n : Nat} {i} (d : decode jdk_43_method_49_code n = .ok i) => hb hby d
  have hml : c.maxLocals = 6 := hml0
  have hown : s.vm.findClass "java/lang/StringLatin1" = some m.cls := findClass_of_methodNamed Bd.named
  have hnm := (name_of_methodNamed Bd.named Bd.method).1
  have X0 : Stand p l e ({ frames := 0, cells := 0, slots := 0, locals := 0 } : Room) s m #[(.ref o0), (.int 0), (.ref o2), (.int 0), (.int 4)] below meth c s₁ [] 0 0 := Stand.of_body Bd
  have e0 : s₁.heap = h0 := by rw [← hh, Bd.state]; rfl
  have K0 : ∀ t, Steps p.tables e below (s₁.setTop (mkF m 0 #[vr o0, vi 0, vr o2, vi 0, vi 4, .unset] [])) t → Steps p.tables e below (s₁.setTop (entryFrame m #[(.ref o0), (.int 0), (.ref o2), (.int 0), (.int 4)] 6)) t := fun t k => castTop (ef_14 m o0 (0 : Int32) o2 (0 : Int32) (4 : Int32)) k
  generalize s₁.setTop (entryFrame m #[(.ref o0), (.int 0), (.ref o2), (.int 0), (.int 4)] 6) = B0 at K0 ⊢
  show Own.Fin p e below B0 s (({ frames := 0, cells := 0, slots := 0, locals := 0 } : Room)).cells (({ frames := 0, cells := 0, slots := 0, locals := 0 } : Room)).slots (fun v h L => v = none ∧ Fr n0 L ∧ Keep h0 h [o2] ∧ Own.CA Z h o2 .char [ch0, ch1, ch2, ch3])
  have K1 : Own.To p e below B0 s₁ (mkF m 7 #[vr o0, vi 0, vr o2, vi 0, vi 4, vi 0] [(.int 4), (.int 0)]) := fun t k => K0 t (by
    refine Own.iconst X0 hx 0 (D d14_0) rfl ?_
    refine Own.istore X0 hx #[vr o0, vi 0, vr o2, vi 0, vi 4, vi 0] (D d14_1) rfl ?_
    refine Own.iload X0 hx (D d14_3) rfl ?_
    refine Own.iload X0 hx (D d14_5) rfl ?_
    exact k)
  have K2 : Own.To p e below B0 s₁ (mkF m 20 #[vr o0, vi 1, vr o2, vi 1, vi 4, vi 0] [(.int 0), (.ref o0), (.int 0), (.ref o2)]) := fun t k => K1 t (by
    refine Own.icmpNo X0 hx (D d14_7) (tlt (by decide : (0 : Int32) < (4 : Int32))).2.1 ?_
    refine Own.aloadN X0 hx (D d14_10) rfl rfl ?_
    refine Own.iloadN X0 hx (D d14_11) rfl ?_
    refine Own.iinc X0 hx (1 : Int32) #[vr o0, vi 0, vr o2, vi 1, vi 4, vi 0] (D d14_12) rfl rfl rfl ?_
    refine Own.aloadN X0 hx (D d14_15) rfl rfl ?_
    refine Own.iloadN X0 hx (D d14_16) rfl ?_
    refine Own.iinc X0 hx (1 : Int32) #[vr o0, vi 1, vr o2, vi 1, vi 4, vi 0] (D d14_17) rfl rfl rfl ?_
    exact k)
  have K3 : Own.To p e below B0 s₁ (mkF m 26 #[vr o0, vi 1, vr o2, vi 1, vi 4, vi 0] [(.int (((StrChars.lo8 ch0) &&& (255 : Int32)).toUInt32.toUInt16.toUInt32.toInt32)), (.int 0), (.ref o2)]) := fun t k => K2 t (by
    refine Own.bal X0 hx hZ e0 A0 (StrChars.lo8 ch0) (by decide) (show (0 : Int32).toNatClampNeg < 4 by decide) rfl (D d14_20) ?_
    refine Own.sipush X0 hx 255 (D d14_21) rfl ?_
    refine Own.iand X0 hx (D d14_24) ?_
    refine Own.i2c X0 hx (D d14_25) ?_
    exact k)
  obtain ⟨T4, h4, L4, X4, e4, n4, W4, V4, st4⟩ := Own.stc (Ls := #[vr o0, vi 1, vr o2, vi 1, vi 4, vi 0]) (S := []) (x := (((StrChars.lo8 ch0) &&& (255 : Int32)).toUInt32.toUInt16.toUInt32.toInt32)) (j := (0 : Int32)) X0 hx hZ e0 A2 0 rfl (by decide) (show 0 < 4 by decide) (D d14_26)
  have V4 : Own.CA Z h4 o2 .char [ch0, (0 : Int32), (0 : Int32), (0 : Int32)] := (by rw [show ch0 = nar .char (((StrChars.lo8 ch0) &&& (255 : Int32)).toUInt32.toUInt16.toUInt32.toInt32) from (own_lo8c hch0).symm]; exact V4)
  have N4 : Fr n0 L4 := n4 n0 (Fr.nil _) g2
  have m5 : h0.size ≤ h4.size := Nat.le_of_eq W4.size.symm
  have K6 := fun t k => K3 t (st4 t k)
  have K7 : Own.To p e below B0 T4 (mkF m 7 #[vr o0, vi 1, vr o2, vi 1, vi 4, vi 1] [(.int 4), (.int 1)]) := fun t k => K6 t (by
    refine Own.iinc X4 hx (1 : Int32) #[vr o0, vi 1, vr o2, vi 1, vi 4, vi 1] (D d14_27) rfl rfl rfl ?_
    refine Own.goto X4 hx 3 (D d14_30) (by decide) (by decide) ?_
    refine Own.iload X4 hx (D d14_3) rfl ?_
    refine Own.iload X4 hx (D d14_5) rfl ?_
    exact k)
  have K8 : Own.To p e below B0 T4 (mkF m 20 #[vr o0, vi 2, vr o2, vi 2, vi 4, vi 1] [(.int 1), (.ref o0), (.int 1), (.ref o2)]) := fun t k => K7 t (by
    refine Own.icmpNo X4 hx (D d14_7) (tlt (by decide : (1 : Int32) < (4 : Int32))).2.1 ?_
    refine Own.aloadN X4 hx (D d14_10) rfl rfl ?_
    refine Own.iloadN X4 hx (D d14_11) rfl ?_
    refine Own.iinc X4 hx (2 : Int32) #[vr o0, vi 1, vr o2, vi 2, vi 4, vi 1] (D d14_12) rfl rfl rfl ?_
    refine Own.aloadN X4 hx (D d14_15) rfl rfl ?_
    refine Own.iloadN X4 hx (D d14_16) rfl ?_
    refine Own.iinc X4 hx (2 : Int32) #[vr o0, vi 2, vr o2, vi 2, vi 4, vi 1] (D d14_17) rfl rfl rfl ?_
    exact k)
  have f9 := (A0.other W4 hne)
  have K10 : Own.To p e below B0 T4 (mkF m 26 #[vr o0, vi 2, vr o2, vi 2, vi 4, vi 1] [(.int (((StrChars.lo8 ch1) &&& (255 : Int32)).toUInt32.toUInt16.toUInt32.toInt32)), (.int 1), (.ref o2)]) := fun t k => K8 t (by
    refine Own.bal X4 hx hZ e4 f9 (StrChars.lo8 ch1) (by decide) (show (1 : Int32).toNatClampNeg < 4 by decide) rfl (D d14_20) ?_
    refine Own.sipush X4 hx 255 (D d14_21) rfl ?_
    refine Own.iand X4 hx (D d14_24) ?_
    refine Own.i2c X4 hx (D d14_25) ?_
    exact k)
  obtain ⟨T11, h11, L11, X11, e11, n11, W11, V11, st11⟩ := Own.stc (Ls := #[vr o0, vi 2, vr o2, vi 2, vi 4, vi 1]) (S := []) (x := (((StrChars.lo8 ch1) &&& (255 : Int32)).toUInt32.toUInt16.toUInt32.toInt32)) (j := (1 : Int32)) X4 hx hZ e4 V4 1 rfl (by decide) (show 1 < 4 by decide) (D d14_26)
  have V11 : Own.CA Z h11 o2 .char [ch0, ch1, (0 : Int32), (0 : Int32)] := (by rw [show ch1 = nar .char (((StrChars.lo8 ch1) &&& (255 : Int32)).toUInt32.toUInt16.toUInt32.toInt32) from (own_lo8c hch1).symm]; exact V11)
  have N11 : Fr n0 L11 := n11 n0 N4 g2
  have m12 : h4.size ≤ h11.size := Nat.le_of_eq W11.size.symm
  have K13 := fun t k => K10 t (st11 t k)
  have K14 : Own.To p e below B0 T11 (mkF m 7 #[vr o0, vi 2, vr o2, vi 2, vi 4, vi 2] [(.int 4), (.int 2)]) := fun t k => K13 t (by
    refine Own.iinc X11 hx (2 : Int32) #[vr o0, vi 2, vr o2, vi 2, vi 4, vi 2] (D d14_27) rfl rfl rfl ?_
    refine Own.goto X11 hx 3 (D d14_30) (by decide) (by decide) ?_
    refine Own.iload X11 hx (D d14_3) rfl ?_
    refine Own.iload X11 hx (D d14_5) rfl ?_
    exact k)
  have K15 : Own.To p e below B0 T11 (mkF m 20 #[vr o0, vi 3, vr o2, vi 3, vi 4, vi 2] [(.int 2), (.ref o0), (.int 2), (.ref o2)]) := fun t k => K14 t (by
    refine Own.icmpNo X11 hx (D d14_7) (tlt (by decide : (2 : Int32) < (4 : Int32))).2.1 ?_
    refine Own.aloadN X11 hx (D d14_10) rfl rfl ?_
    refine Own.iloadN X11 hx (D d14_11) rfl ?_
    refine Own.iinc X11 hx (3 : Int32) #[vr o0, vi 2, vr o2, vi 3, vi 4, vi 2] (D d14_12) rfl rfl rfl ?_
    refine Own.aloadN X11 hx (D d14_15) rfl rfl ?_
    refine Own.iloadN X11 hx (D d14_16) rfl ?_
    refine Own.iinc X11 hx (3 : Int32) #[vr o0, vi 3, vr o2, vi 3, vi 4, vi 2] (D d14_17) rfl rfl rfl ?_
    exact k)
  have f16 := (f9.other W11 hne)
  have K17 : Own.To p e below B0 T11 (mkF m 26 #[vr o0, vi 3, vr o2, vi 3, vi 4, vi 2] [(.int (((StrChars.lo8 ch2) &&& (255 : Int32)).toUInt32.toUInt16.toUInt32.toInt32)), (.int 2), (.ref o2)]) := fun t k => K15 t (by
    refine Own.bal X11 hx hZ e11 f16 (StrChars.lo8 ch2) (by decide) (show (2 : Int32).toNatClampNeg < 4 by decide) rfl (D d14_20) ?_
    refine Own.sipush X11 hx 255 (D d14_21) rfl ?_
    refine Own.iand X11 hx (D d14_24) ?_
    refine Own.i2c X11 hx (D d14_25) ?_
    exact k)
  obtain ⟨T18, h18, L18, X18, e18, n18, W18, V18, st18⟩ := Own.stc (Ls := #[vr o0, vi 3, vr o2, vi 3, vi 4, vi 2]) (S := []) (x := (((StrChars.lo8 ch2) &&& (255 : Int32)).toUInt32.toUInt16.toUInt32.toInt32)) (j := (2 : Int32)) X11 hx hZ e11 V11 2 rfl (by decide) (show 2 < 4 by decide) (D d14_26)
  have V18 : Own.CA Z h18 o2 .char [ch0, ch1, ch2, (0 : Int32)] := (by rw [show ch2 = nar .char (((StrChars.lo8 ch2) &&& (255 : Int32)).toUInt32.toUInt16.toUInt32.toInt32) from (own_lo8c hch2).symm]; exact V18)
  have N18 : Fr n0 L18 := n18 n0 N11 g2
  have m19 : h11.size ≤ h18.size := Nat.le_of_eq W18.size.symm
  have K20 := fun t k => K17 t (st18 t k)
  have K21 : Own.To p e below B0 T18 (mkF m 7 #[vr o0, vi 3, vr o2, vi 3, vi 4, vi 3] [(.int 4), (.int 3)]) := fun t k => K20 t (by
    refine Own.iinc X18 hx (3 : Int32) #[vr o0, vi 3, vr o2, vi 3, vi 4, vi 3] (D d14_27) rfl rfl rfl ?_
    refine Own.goto X18 hx 3 (D d14_30) (by decide) (by decide) ?_
    refine Own.iload X18 hx (D d14_3) rfl ?_
    refine Own.iload X18 hx (D d14_5) rfl ?_
    exact k)
  have K22 : Own.To p e below B0 T18 (mkF m 20 #[vr o0, vi 4, vr o2, vi 4, vi 4, vi 3] [(.int 3), (.ref o0), (.int 3), (.ref o2)]) := fun t k => K21 t (by
    refine Own.icmpNo X18 hx (D d14_7) (tlt (by decide : (3 : Int32) < (4 : Int32))).2.1 ?_
    refine Own.aloadN X18 hx (D d14_10) rfl rfl ?_
    refine Own.iloadN X18 hx (D d14_11) rfl ?_
    refine Own.iinc X18 hx (4 : Int32) #[vr o0, vi 3, vr o2, vi 4, vi 4, vi 3] (D d14_12) rfl rfl rfl ?_
    refine Own.aloadN X18 hx (D d14_15) rfl rfl ?_
    refine Own.iloadN X18 hx (D d14_16) rfl ?_
    refine Own.iinc X18 hx (4 : Int32) #[vr o0, vi 4, vr o2, vi 4, vi 4, vi 3] (D d14_17) rfl rfl rfl ?_
    exact k)
  have f23 := (f16.other W18 hne)
  have K24 : Own.To p e below B0 T18 (mkF m 26 #[vr o0, vi 4, vr o2, vi 4, vi 4, vi 3] [(.int (((StrChars.lo8 ch3) &&& (255 : Int32)).toUInt32.toUInt16.toUInt32.toInt32)), (.int 3), (.ref o2)]) := fun t k => K22 t (by
    refine Own.bal X18 hx hZ e18 f23 (StrChars.lo8 ch3) (by decide) (show (3 : Int32).toNatClampNeg < 4 by decide) rfl (D d14_20) ?_
    refine Own.sipush X18 hx 255 (D d14_21) rfl ?_
    refine Own.iand X18 hx (D d14_24) ?_
    refine Own.i2c X18 hx (D d14_25) ?_
    exact k)
  obtain ⟨T25, h25, L25, X25, e25, n25, W25, V25, st25⟩ := Own.stc (Ls := #[vr o0, vi 4, vr o2, vi 4, vi 4, vi 3]) (S := []) (x := (((StrChars.lo8 ch3) &&& (255 : Int32)).toUInt32.toUInt16.toUInt32.toInt32)) (j := (3 : Int32)) X18 hx hZ e18 V18 3 rfl (by decide) (show 3 < 4 by decide) (D d14_26)
  have V25 : Own.CA Z h25 o2 .char [ch0, ch1, ch2, ch3] := (by rw [show ch3 = nar .char (((StrChars.lo8 ch3) &&& (255 : Int32)).toUInt32.toUInt16.toUInt32.toInt32) from (own_lo8c hch3).symm]; exact V25)
  have N25 : Fr n0 L25 := n25 n0 N18 g2
  have m26 : h18.size ≤ h25.size := Nat.le_of_eq W25.size.symm
  have K27 := fun t k => K24 t (st25 t k)
  have K28 : Own.To p e below B0 T25 (mkF m 7 #[vr o0, vi 4, vr o2, vi 4, vi 4, vi 4] [(.int 4), (.int 4)]) := fun t k => K27 t (by
    refine Own.iinc X25 hx (4 : Int32) #[vr o0, vi 4, vr o2, vi 4, vi 4, vi 4] (D d14_27) rfl rfl rfl ?_
    refine Own.goto X25 hx 3 (D d14_30) (by decide) (by decide) ?_
    refine Own.iload X25 hx (D d14_3) rfl ?_
    refine Own.iload X25 hx (D d14_5) rfl ?_
    exact k)
  have K29 : Own.To p e below B0 T25 (mkF m 33 #[vr o0, vi 4, vr o2, vi 4, vi 4, vi 4] []) := fun t k => K28 t (by
    refine Own.icmpYes X25 hx 33 (D d14_7) (flt (by decide : ¬ ((4 : Int32) < (4 : Int32)))).2.1 (by decide) (by decide) ?_
    exact k)
  have kp := (((((Keep.refl h0 [o2]).wr W4 (Or.inl (List.mem_of_getElem? (i := 0) rfl))).wr W11 (Or.inl (List.mem_of_getElem? (i := 0) rfl))).wr W18 (Or.inl (List.mem_of_getElem? (i := 0) rfl))).wr W25 (Or.inl (List.mem_of_getElem? (i := 0) rfl)))
  exact Own.finV X25 hx (BodyLoose.notSynchronized Bd) Bd.returns (D d14_33) K29 (by decide) (by decide) (by rw [e25]; exact ⟨rfl, N25, kp, V25⟩)

theorem cILg (l : Launch) (Z : State) (a0 : Array Value) (hw : ∀ d ∈ tables_1, d.before a0 Z = true) (o0 o2 : Addr) (n0 : Nat) (cs : List Int32) (h0 : Heap) (Z0 : n0 ≤ h0.size) (hcs4 : cs.length ≤ 4) (A0 : Own.CA Z h0 o0 .byte (cs.map StrChars.lo8)) (A2 : Own.CA Z h0 o2 .char (List.replicate cs.length 0)) (g2 : n0 ≤ o2) (hne : o0 ≠ o2) (hk : ∀ c ∈ cs, own_ok c) :
    Own.Con l Z (⟨"java/lang/StringLatin1", "inflate", "([BI[CII)V"⟩ : MethodName) jdk_43_method_49_code 6 none ({ frames := 0, cells := 0, slots := 0, locals := 0 } : Room) #[(.ref o0), (.int 0), (.ref o2), (.int 0), (.int (Int32.ofNat cs.length))] h0 (fun v h L => v = none ∧ Fr n0 L ∧ Keep h0 h [o2] ∧ Own.CA Z h o2 .char cs) :=
  match cs, hcs4, A0, A2, hk with
  | [], _, A0, A2, hk => cIL0 l Z a0 hw o0 o2 n0  h0 Z0 A0 A2 g2 hne 
  | [a], _, A0, A2, hk => cIL1 l Z a0 hw o0 o2 n0 a h0 Z0 A0 A2 g2 hne (hk a (List.mem_of_getElem? (i := 0) rfl))
  | [a, b], _, A0, A2, hk => cIL2 l Z a0 hw o0 o2 n0 a b h0 Z0 A0 A2 g2 hne (hk a (List.mem_of_getElem? (i := 0) rfl)) (hk b (List.mem_of_getElem? (i := 1) rfl))
  | [a, b, c], _, A0, A2, hk => cIL3 l Z a0 hw o0 o2 n0 a b c h0 Z0 A0 A2 g2 hne (hk a (List.mem_of_getElem? (i := 0) rfl)) (hk b (List.mem_of_getElem? (i := 1) rfl)) (hk c (List.mem_of_getElem? (i := 2) rfl))
  | [a, b, c, d], _, A0, A2, hk => cIL4 l Z a0 hw o0 o2 n0 a b c d h0 Z0 A0 A2 g2 hne (hk a (List.mem_of_getElem? (i := 0) rfl)) (hk b (List.mem_of_getElem? (i := 1) rfl)) (hk c (List.mem_of_getElem? (i := 2) rfl)) (hk d (List.mem_of_getElem? (i := 3) rfl))
  | _ :: _ :: _ :: _ :: _ :: _, h, _, _, _ => absurd h (by simp only [List.length_cons]; omega)

theorem d13_0 : decode J15 0 = .ok (.aload_n 0, 1) := by decide +kernel
theorem d13_1 : decode J15 1 = .ok (.arraylength, 1) := by decide +kernel
theorem d13_2 : decode J15 2 = .ok (.newarray .char, 2) := by decide +kernel
theorem d13_4 : decode J15 4 = .ok (.astore_n 1, 1) := by decide +kernel
theorem d13_5 : decode J15 5 = .ok (.aload_n 0, 1) := by decide +kernel
theorem d13_6 : decode J15 6 = .ok (.iconst 0, 1) := by decide +kernel
theorem d13_7 : decode J15 7 = .ok (.aload_n 1, 1) := by decide +kernel
theorem d13_8 : decode J15 8 = .ok (.iconst 0, 1) := by decide +kernel
theorem d13_9 : decode J15 9 = .ok (.aload_n 0, 1) := by decide +kernel
theorem d13_10 : decode J15 10 = .ok (.arraylength, 1) := by decide +kernel
theorem d13_11 : decode J15 11 = .ok (.invokestatic 13, 3) := by decide +kernel
theorem d13_14 : decode J15 14 = .ok (.aload_n 1, 1) := by decide +kernel
theorem d13_15 : decode J15 15 = .ok (.areturn, 1) := by decide +kernel
theorem pd_17 : parseMethodDescriptor "([BI[CII)V" = some ⟨[(.array .byte), .int, (.array .char), .int, .int], none⟩ := by decide +kernel
theorem ef_13 (m : MethodId) (o0 : Addr) : entryFrame m #[(.ref o0)] 2 = mkF m 0 #[.val (.ref o0), .unset] [] := by first | (simp [entryFrame, mkF, argsToLocals, Value.category]; done) | rfl
set_option maxRecDepth 65536 in
set_option maxHeartbeats 40000000 in
theorem cTCS (l : Launch) (Z : State) (a0 : Array Value) (hw : ∀ d ∈ tables_1, d.before a0 Z = true) (o0 : Addr) (n0 : Nat) (cs : List Int32) (h0 : Heap) (Z0 : n0 ≤ h0.size) (hcs4 : cs.length ≤ 4) (A0 : Own.CA Z h0 o0 .byte (cs.map StrChars.lo8)) (hk : ∀ c ∈ cs, own_ok c) : Own.Con l Z (⟨"java/lang/StringLatin1", "toChars", "([B)[C"⟩ : MethodName) jdk_43_method_9_code 2 (some (.array .char)) ({ frames := 1, cells := 1, slots := 4, locals := 17 } : Room) #[(.ref o0)] h0 (fun v h L => ∃ b, v = some (.ref b) ∧ h0.size ≤ b ∧ Fr n0 L ∧ Keep h0 h [] ∧ Own.CA Z h b .char cs) := by
  intro ws
  refine MetFree.of_bodySF (plainFor_of_name pn_3) hisR ?_
  intro p e s m args below meth c s₁ Bd hml0 hP hK
  obtain ⟨rfl, hZ, hh⟩ := hP
  have hx := Bd.exec
  have hby := Bd.bytes
  have D := fun {n : Nat} {i} (d : decode jdk_43_method_9_code n = .ok i) => hb hby d
  have hml : c.maxLocals = 2 := hml0
  have hown : s.vm.findClass "java/lang/StringLatin1" = some m.cls := findClass_of_methodNamed Bd.named
  have hnm := (name_of_methodNamed Bd.named Bd.method).1
  have X0 : Stand p l e ({ frames := 1, cells := 1, slots := 4, locals := 17 } : Room) s m #[(.ref o0)] below meth c s₁ [] 0 0 := Stand.of_body Bd
  have e0 : s₁.heap = h0 := by rw [← hh, Bd.state]; rfl
  have K0 : ∀ t, Steps p.tables e below (s₁.setTop (mkF m 0 #[vr o0, .unset] [])) t → Steps p.tables e below (s₁.setTop (entryFrame m #[(.ref o0)] 2)) t := fun t k => castTop (ef_13 m o0) k
  generalize s₁.setTop (entryFrame m #[(.ref o0)] 2) = B0 at K0 ⊢
  show Own.Fin p e below B0 s (({ frames := 1, cells := 1, slots := 4, locals := 17 } : Room)).cells (({ frames := 1, cells := 1, slots := 4, locals := 17 } : Room)).slots (fun v h L => ∃ b, v = some (.ref b) ∧ h0.size ≤ b ∧ Fr n0 L ∧ Keep h0 h [] ∧ Own.CA Z h b .char cs)
  have K1 : Own.To p e below B0 s₁ (mkF m 1 #[vr o0, .unset] [(.ref o0)]) := fun t k => K0 t (by
    refine Own.aloadN X0 hx (D d13_0) rfl rfl ?_
    exact k)
  obtain ⟨cq2, Aq2, lq2⟩ := Own.CA.len A0
  rw [own_lo_len cs] at lq2
  have K3 : Own.To p e below B0 s₁ (mkF m 2 #[vr o0, .unset] [(.int (Int32.ofNat cs.length))]) := fun t k => K1 t (by
    refine Own.arraylength X0 hx (Int32.ofNat cs.length) hZ e0 Aq2 lq2 (D d13_1) ?_
    exact k)
  obtain ⟨T4, h4, b4, X4, e4, E4, g4, V4, st4⟩ := Own.newA (Ls := #[vr o0, .unset]) (S := []) (z := (Int32.ofNat cs.length)) X0 hx hZ e0 .char rfl rfl (W_ hw 10 rfl) cs.length rfl (by omega) (D d13_2) (by decide) (show 0 + cs.length ≤ 4 by omega)
  have le_b4 : h0.size ≤ b4 := Nat.le_of_eq g4.symm
  have X4 : Stand p l e ({ frames := 1, cells := 1, slots := 4, locals := 17 } : Room) s m #[(.ref o0)] below meth c T4 [] 1 4 := Own.moreX X4 (by decide) (show 0 + cs.length ≤ 4 by omega)
  have m5 : h0.size ≤ h4.size := E4.1
  have K6 := fun t k => K3 t (st4 t k)
  have K7 : Own.To p e below B0 T4 (mkF m 10 #[vr o0, vr b4] [(.ref o0), (.int 0), (.ref b4), (.int 0), (.ref o0)]) := fun t k => K6 t (by
    refine Own.astoreN X4 hx #[vr o0, vr b4] (D d13_4) rfl rfl ?_
    refine Own.aloadN X4 hx (D d13_5) rfl rfl ?_
    refine Own.iconst X4 hx 0 (D d13_6) rfl ?_
    refine Own.aloadN X4 hx (D d13_7) rfl rfl ?_
    refine Own.iconst X4 hx 0 (D d13_8) rfl ?_
    refine Own.aloadN X4 hx (D d13_9) rfl rfl ?_
    exact k)
  have f8 := (A0.ext E4)
  obtain ⟨cq9, Aq9, lq9⟩ := Own.CA.len f8
  rw [own_lo_len cs] at lq9
  have K10 : Own.To p e below B0 T4 (mkF m 11 #[vr o0, vr b4] [(.int (Int32.ofNat cs.length)), (.int 0), (.ref b4), (.int 0), (.ref o0)]) := fun t k => K7 t (by
    refine Own.arraylength X4 hx (Int32.ofNat cs.length) hZ e4 Aq9 lq9 (D d13_10) ?_
    exact k)
  obtain ⟨T11, h11, v11, J11, L11, X11, e11, n11, hQ11, st11⟩ := Own.callH (Ls := #[vr o0, vr b4]) X4 hx hZ e4 [(.ref o0), (.int 0), (.ref b4), (.int 0), (.int (Int32.ofNat cs.length))] [] (cILg l Z a0 hw o0 b4 n0 cs h4 (Nat.le_trans Z0 m5) hcs4 f8 V4 (Nat.le_trans Z0 (Nat.le_trans (Nat.le_refl _) le_b4)) (Nat.ne_of_lt (Nat.lt_of_lt_of_le A0.lt le_b4)) hk) hown (W_ hw 80 rfl) (W_ hw 81 rfl) (W_ hw 78 rfl) (W_ hw 82 rfl) (by decide) 0 (by decide) (by decide) (by decide) (by decide) (szOf hml rfl) (lenOf pd_17 rfl) rfl (Nat.le_of_eq rfl) (D d13_11)
  have X11 : Stand p l e ({ frames := 1, cells := 1, slots := 4, locals := 17 } : Room) s m #[(.ref o0)] below meth c T11 L11 1 4 := X11
  obtain ⟨rfl, NN11, K11, V11⟩ := hQ11
  have N11 : Fr n0 L11 := n11 n0 (Fr.nil _) NN11
  have m12 : h4.size ≤ h11.size := K11.1
  have K13 := fun t k => K10 t (st11 t k)
  have K14 : Own.To p e below B0 T11 (mkF m 15 #[vr o0, vr b4] [(.ref b4)]) := fun t k => K13 t (by
    refine Own.aloadN X11 hx (D d13_14) rfl rfl ?_
    exact k)
  have kp := (((Keep.refl h0 []).ext E4).trans K11 (allS (Or.inr le_b4) all0))
  exact Own.finA X11 hx (BodyLoose.notSynchronized Bd) Bd.returns rfl rfl (D d13_15) K14 (by decide) (by decide) (by rw [e11]; exact ⟨_, rfl, le_b4, N11, kp, V11⟩)

theorem d11_0 : decode J1 0 = .ok (.aload_n 0, 1) := by decide +kernel
theorem d11_1 : decode J1 1 = .ok (.invokevirtual 492, 3) := by decide +kernel
theorem d11_4 : decode J1 4 = .ok (.ifCond .eq 13, 3) := by decide +kernel
theorem d11_7 : decode J1 7 = .ok (.aload_n 0, 1) := by decide +kernel
theorem d11_8 : decode J1 8 = .ok (.getfield 9, 3) := by decide +kernel
theorem d11_11 : decode J1 11 = .ok (.invokestatic 299, 3) := by decide +kernel
theorem d11_14 : decode J1 14 = .ok (.goto 10, 3) := by decide +kernel
theorem d11_24 : decode J1 24 = .ok (.areturn, 1) := by decide +kernel
theorem pd_18 : parseMethodDescriptor "([B)[C" = some ⟨[(.array .byte)], some (.array .char)⟩ := by decide +kernel
theorem ef_11 (m : MethodId) (o0 : Addr) : entryFrame m #[(.ref o0)] 1 = mkF m 0 #[.val (.ref o0)] [] := by first | (simp [entryFrame, mkF, argsToLocals, Value.category]; done) | rfl
set_option maxRecDepth 65536 in
set_option maxHeartbeats 40000000 in
theorem cTCg (l : Launch) (Z : State) (a0 : Array Value) (hw : ∀ d ∈ tables_1, d.before a0 Z = true) (o0 : Addr) (n0 : Nat) (cs : List Int32) (G1 : Int32) (h0 : Heap) (Z0 : n0 ≤ h0.size) (TX : own_Txt Z h0 o0 cs) (hcs4 : cs.length ≤ 4) (SC : Sta Z h0 "java/lang/String" "COMPACT_STRINGS" "Z" (.int G1)) (hG1 : ¬ G1 = 0) : Own.Con l Z (⟨"java/lang/String", "toCharArray", "()[C"⟩ : MethodName) jdk_42_method_129_code 1 (some (.array .char)) ({ frames := 2, cells := 1, slots := 4, locals := 30 } : Room) #[(.ref o0)] h0 (fun v h L => ∃ b, v = some (.ref b) ∧ h0.size ≤ b ∧ Fr n0 L ∧ Keep h0 h [] ∧ Own.CA Z h b .char cs) := by
  intro ws
  refine MetFree.of_bodySF (plainFor_of_name pn_0) hisR ?_
  intro p e s m args below meth c s₁ Bd hml0 hP hK
  obtain ⟨rfl, hZ, hh⟩ := hP
  have hx := Bd.exec
  have hby := Bd.bytes
  have D := fun {n : Nat} {i} (d : decode jdk_42_method_129_code n = .ok i) => hb hby d
  have hml : c.maxLocals = 1 := hml0
  have hown : s.vm.findClass "java/lang/String" = some m.cls := findClass_of_methodNamed Bd.named
  have hnm := (name_of_methodNamed Bd.named Bd.method).1
  have X0 : Stand p l e ({ frames := 2, cells := 1, slots := 4, locals := 30 } : Room) s m #[(.ref o0)] below meth c s₁ [] 0 0 := Stand.of_body Bd
  have e0 : s₁.heap = h0 := by rw [← hh, Bd.state]; rfl
  have K0 : ∀ t, Steps p.tables e below (s₁.setTop (mkF m 0 #[vr o0] [])) t → Steps p.tables e below (s₁.setTop (entryFrame m #[(.ref o0)] 1)) t := fun t k => castTop (ef_11 m o0) k
  generalize s₁.setTop (entryFrame m #[(.ref o0)] 1) = B0 at K0 ⊢
  show Own.Fin p e below B0 s (({ frames := 2, cells := 1, slots := 4, locals := 30 } : Room)).cells (({ frames := 2, cells := 1, slots := 4, locals := 30 } : Room)).slots (fun v h L => ∃ b, v = some (.ref b) ∧ h0.size ≤ b ∧ Fr n0 L ∧ Keep h0 h [] ∧ Own.CA Z h b .char cs)
  obtain ⟨t0, E0, F0, F1, A0, hok, hcs⟩ := TX.opn
  have K1 : Own.To p e below B0 s₁ (mkF m 1 #[vr o0] [(.ref o0)]) := fun t k => K0 t (by
    refine Own.aloadN X0 hx (D d11_0) rfl rfl ?_
    exact k)
  obtain ⟨T2, X2, e2, st2⟩ := Own.callVHO (Ls := #[vr o0]) X0 hx hZ e0 o0 [] [] (cSIL l Z a0 hw o0 cs G1 h0 TX SC hG1) hown E0 (W_ hw 71 rfl) (W_ hw 72 rfl) (W_ hw 56 rfl) rfl (W_ hw 74 rfl) (W_ hw 73 rfl) (W_ hw 9 rfl) (W_ hw 75 rfl) (by decide) 0 rfl rfl (by decide) (by decide) (by decide) (by decide) (szOf hml rfl) (lenOf pd_4 rfl) rfl (Nat.le_of_eq rfl) (D d11_1)
  have K3 := fun t k => K1 t (st2 t k)
  have K4 : Own.To p e below B0 T2 (mkF m 8 #[vr o0] [(.ref o0)]) := fun t k => K3 t (by
    refine Own.ifNo X2 hx (D d11_4) ((if0 _ _).trans (feq (by decide : ¬ ((1 : Int32) = (0 : Int32)))).1) ?_
    refine Own.aloadN X2 hx (D d11_7) rfl rfl ?_
    exact k)
  obtain ⟨T5, X5, e5, st5⟩ := Own.getF (Ls := #[vr o0]) X2 hx hZ e2 hown (host := "") (Or.inl (W_ hw 27 rfl)) Via.refl F0 (S := []) (D d11_8)
  have K6 := fun t k => K4 t (st5 t k)
  obtain ⟨T7, h7, v7, J7, L7, X7, e7, n7, hQ7, st7⟩ := Own.callH (Ls := #[vr o0]) X5 hx hZ e5 [(.ref t0)] [] (cTCS l Z a0 hw t0 n0 cs h0 (Nat.le_trans Z0 (Nat.le_refl _)) hcs4 A0 hok) hown (W_ hw 76 rfl) (W_ hw 77 rfl) (W_ hw 78 rfl) (W_ hw 79 rfl) (by decide) 0 (by decide) (by decide) (by decide) (by decide) (szOf hml rfl) (lenOf pd_18 rfl) rfl (Nat.le_of_eq rfl) (D d11_11)
  have X7 : Stand p l e ({ frames := 2, cells := 1, slots := 4, locals := 30 } : Room) s m #[(.ref o0)] below meth c T7 L7 1 4 := X7
  obtain ⟨bc7, rfl, le7, NN7, K7, V7⟩ := hQ7
  have N7 : Fr n0 L7 := n7 n0 (Fr.nil _) NN7
  have m8 : h0.size ≤ h7.size := K7.1
  have K9 := fun t k => K6 t (st7 t k)
  have K10 : Own.To p e below B0 T7 (mkF m 24 #[vr o0] [(.ref bc7)]) := fun t k => K9 t (by
    refine Own.goto X7 hx 24 (D d11_14) (by decide) (by decide) ?_
    exact k)
  have kp := ((Keep.refl h0 []).trans K7 all0)
  exact Own.finA X7 hx (BodyLoose.notSynchronized Bd) Bd.returns rfl rfl (D d11_24) K10 (by decide) (by decide) (by rw [e7]; exact ⟨_, rfl, le7, N7, kp, V7⟩)

def own_let (c : Int32) : Prop := ¬ c < 97 ∧ ¬ (122 : Int32) < c
def own_kd (c : Int32) : Int32 := if c = 97 ∨ c = 101 ∨ c = 105 ∨ c = 111 ∨ c = 117 then 1 else if c = 121 then 2 else 0
def own_KD (Z : State) (h : Heap) (w : Addr) : Prop := ∃ cl, Arr Z h w cl .byte ∧ cl.slots.size.toInt32 = 128 ∧ ∀ c, own_let c → cl.slots[c.toNatClampNeg]? = some (.int (own_kd c))
theorem own_KD.ext {Z : State} {h h' : Heap} {w : Addr} (F : own_KD Z h w) (E : Ext h h') : own_KD Z h' w := by obtain ⟨c, A, r⟩ := F; exact ⟨c, A.ext E, r⟩
theorem own_KD.other {Z : State} {h h' : Heap} {w a : Addr} {sl : Nat} {v : Value} (F : own_KD Z h w) (W : Wr h h' a sl v) (n : w ≠ a) : own_KD Z h' w := by obtain ⟨c, A, r⟩ := F; exact ⟨c, A.other W n, r⟩
theorem own_KD.keep {Z : State} {h h' : Heap} {w : Addr} {ws : List Addr} (F : own_KD Z h w) (K : Keep h h' ws) (n : w ∉ ws) : own_KD Z h' w := by obtain ⟨c, A, r⟩ := F; exact ⟨c, ⟨K.2.1 w c A.1 n, A.2⟩, r⟩
theorem own_KD.lt {Z : State} {h : Heap} {w : Addr} (F : own_KD Z h w) : w < h.size := by obtain ⟨c, A, r⟩ := F; exact A.lt
theorem own_let_ok {c : Int32} (h : own_let c) : own_ok c := by
  obtain ⟨h1, h2⟩ := h
  unfold own_ok
  rw [Int32.lt_iff_toInt_lt] at h1 h2 ⊢
  rw [Int32.lt_iff_toInt_lt]
  rw [show (97 : Int32).toInt = 97 by decide] at h1
  rw [show (122 : Int32).toInt = 122 by decide] at h2
  rw [show (0 : Int32).toInt = 0 by decide, show (255 : Int32).toInt = 255 by decide]
  omega
theorem own_let127 {c : Int32} (h : own_let c) : ¬ (127 : Int32) < c := by
  obtain ⟨h1, h2⟩ := h
  rw [Int32.lt_iff_toInt_lt] at h2 ⊢
  rw [show (122 : Int32).toInt = 122 by decide] at h2
  rw [show (127 : Int32).toInt = 127 by decide]; omega
theorem own_kd3 (c : Int32) : own_kd c = 0 ∨ own_kd c = 1 ∨ own_kd c = 2 := by
  unfold own_kd; split
  · exact Or.inr (Or.inl rfl)
  · split
    · exact Or.inr (Or.inr rfl)
    · exact Or.inl rfl
def own_TxN (Z : State) (h : Heap) (x : Addr) (cs : List Int32) (o B : Nat) : Prop := ∃ (t : Addr) (kb : ClassId), (Exa Z h x "java/lang/String" ∧ Fld Z h x "java/lang/String" "value" "[B" (.ref t) ∧ Fld Z h x "java/lang/String" "coder" "B" (.int 0) ∧ Arv Z h t kb .byte (Int32.ofNat cs.length) ((cs.map StrChars.lo8).map Value.int) (.int 0) ∧ (∀ c ∈ cs, ¬ c < 0 ∧ ¬ (255 : Int32) < c) ∧ cs.length ≤ 4000) ∧ x ≠ o ∧ t ≠ o ∧ x < B ∧ t < B
theorem own_TxN.txt {Z : State} {h : Heap} {x : Addr} {cs : List Int32} {o B : Nat} (F : own_TxN Z h x cs o B) : own_Txt Z h x cs := by obtain ⟨t, kb, f, -⟩ := F; exact ⟨t, kb, f⟩
theorem own_TxN.lt {Z : State} {h : Heap} {x : Addr} {cs : List Int32} {o B : Nat} (F : own_TxN Z h x cs o B) : x < h.size := F.txt.lt
theorem own_TxN.ext {Z : State} {h h' : Heap} {x : Addr} {cs : List Int32} {o B : Nat} (F : own_TxN Z h x cs o B) (E : Ext h h') : own_TxN Z h' x cs o B := by
  obtain ⟨t, kb, ⟨f1, f2, f3, f4, f5, f6⟩, r⟩ := F
  exact ⟨t, kb, ⟨f1.ext E, f2.ext E, f3.ext E, f4.ext E, f5, f6⟩, r⟩
theorem own_TxN.keepW {Z : State} {h h' : Heap} {x : Addr} {cs : List Int32} {o B : Nat} {ws : List Addr} (F : own_TxN Z h x cs o B) (K : Keep h h' ws) (q : ∀ w ∈ ws, w = o ∨ B ≤ w) : own_TxN Z h' x cs o B := by
  obtain ⟨t, kb, ⟨f1, f2, f3, f4, f5, f6⟩, n1, n2, b1, b2⟩ := F
  have nx : x ∉ ws := fun z => (q x z).elim n1 fun u => absurd (Nat.lt_of_lt_of_le b1 u) (Nat.lt_irrefl _)
  have nt : t ∉ ws := fun z => (q t z).elim n2 fun u => absurd (Nat.lt_of_lt_of_le b2 u) (Nat.lt_irrefl _)
  exact ⟨t, kb, ⟨f1.keep K, f2.keep K nx, f3.keep K nx, f4.keep K nt, f5, f6⟩, n1, n2, b1, b2⟩
theorem own_TxN.wrW {Z : State} {h h' : Heap} {x a : Addr} {cs : List Int32} {o B sl : Nat} {v : Value} (F : own_TxN Z h x cs o B) (W : Wr h h' a sl v) (q : a = o ∨ B ≤ a) : own_TxN Z h' x cs o B := F.keepW (Keep.of_wr W) fun w hw => by rw [List.mem_singleton.mp hw]; exact q
theorem own_Txt.toN {Z : State} {h h' : Heap} {x : Addr} {cs : List Int32} {o : Nat} (F : own_Txt Z h x cs) (E : Ext h h') (le : h.size ≤ o) : own_TxN Z h' x cs o h'.size := by
  have l1 := F.lt
  obtain ⟨t, kb, f1, f2, f3, f4, f5, f6⟩ := F
  have l2 := f4.lt
  have l3 := E.1
  exact ⟨t, kb, ⟨f1.ext E, f2.ext E, f3.ext E, f4.ext E, f5, f6⟩, Nat.ne_of_lt (Nat.lt_of_lt_of_le l1 le), Nat.ne_of_lt (Nat.lt_of_lt_of_le l2 le), Nat.lt_of_lt_of_le l1 l3, Nat.lt_of_lt_of_le l2 l3⟩
theorem own_TxN.mono {Z : State} {h : Heap} {x : Addr} {cs : List Int32} {o B B' : Nat} (F : own_TxN Z h x cs o B) (le : B ≤ B') : own_TxN Z h x cs o B' := by
  obtain ⟨t, kb, f, n1, n2, b1, b2⟩ := F; exact ⟨t, kb, f, n1, n2, Nat.lt_of_lt_of_le b1 le, Nat.lt_of_lt_of_le b2 le⟩
theorem own_l97 : own_let 97 := ⟨by decide, by decide⟩
theorem own_l98 : own_let 98 := ⟨by decide, by decide⟩
theorem own_k3 (c : Int32) : own_kd c ∈ ([0, 1, 2] : List Int32) := by
  rcases own_kd3 c with h | h | h <;> rw [h] <;> decide
theorem own_y2 (c : Int32) : (if c = (121 : Int32) then (1 : Int32) else (0 : Int32)) = (if own_kd c = (2 : Int32) then (1 : Int32) else (0 : Int32)) := by
  unfold own_kd
  by_cases h : c = 121
  · subst h; decide
  · rw [if_neg h]
    split
    · decide
    · first | decide | (rw [if_neg h]; decide)

theorem d39_0 : decode J40 0 = .ok (.getstatic 54, 3) := by decide +kernel
theorem d39_3 : decode J40 3 = .ok (.iload_n 0, 1) := by decide +kernel
theorem d39_4 : decode J40 4 = .ok (.getstatic 54, 3) := by decide +kernel
theorem d39_7 : decode J40 7 = .ok (.arraylength, 1) := by decide +kernel
theorem d39_8 : decode J40 8 = .ok (.iconst 1, 1) := by decide +kernel
theorem d39_9 : decode J40 9 = .ok (.isub, 1) := by decide +kernel
theorem d39_10 : decode J40 10 = .ok (.invokestatic 58, 3) := by decide +kernel
theorem d39_13 : decode J40 13 = .ok (.baload, 1) := by decide +kernel
theorem d39_14 : decode J40 14 = .ok (.ireturn, 1) := by decide +kernel
theorem pn_5 : plainName "com/example/stemshear/stemshear/Condition" = true := by first | (simp [plainName, overriddenIn]; done) | decide +kernel
theorem ef_39 (m : MethodId) (p0 : Int32) : entryFrame m #[(.int p0)] 1 = mkF m 0 #[.val (.int p0)] [] := by first | (simp [entryFrame, mkF, argsToLocals, Value.category]; done) | rfl
set_option maxRecDepth 65536 in
set_option maxHeartbeats 40000000 in
theorem cKI (l : Launch) (Z : State) (a0 : Array Value) (hw : ∀ d ∈ tables_1, d.before a0 Z = true) (p0 : Int32) (wK : Addr) (h0 : Heap) (SK : Sta Z h0 "com/example/stemshear/stemshear/Condition" "KINDS" "[B" (.ref wK)) (KD : own_KD Z h0 wK) (hp : own_let p0) : Own.Con l Z (⟨"com/example/stemshear/stemshear/Condition", "kind", "(C)I"⟩ : MethodName) prog_10_method_7_code 1 (some .int) ({ frames := 1, cells := 0, slots := 0, locals := 14 } : Room) #[(.int p0)] h0 (Own.Pure (.int (own_kd p0)) h0) := by
  intro ws
  refine MetFree.of_bodySF (plainFor_of_name pn_5) hisR ?_
  intro p e s m args below meth c s₁ Bd hml0 hP hK
  obtain ⟨rfl, hZ, hh⟩ := hP
  have hx := Bd.exec
  have hby := Bd.bytes
  have D := fun {n : Nat} {i} (d : decode prog_10_method_7_code n = .ok i) => hb hby d
  have hml : c.maxLocals = 1 := hml0
  have hown : s.vm.findClass "com/example/stemshear/stemshear/Condition" = some m.cls := findClass_of_methodNamed Bd.named
  have hnm := (name_of_methodNamed Bd.named Bd.method).1
  have X0 : Stand p l e ({ frames := 1, cells := 0, slots := 0, locals := 14 } : Room) s m #[(.int p0)] below meth c s₁ [] 0 0 := Stand.of_body Bd
  have e0 : s₁.heap = h0 := by rw [← hh, Bd.state]; rfl
  have K0 : ∀ t, Steps p.tables e below (s₁.setTop (mkF m 0 #[vi p0] [])) t → Steps p.tables e below (s₁.setTop (entryFrame m #[(.int p0)] 1)) t := fun t k => castTop (ef_39 m p0) k
  generalize s₁.setTop (entryFrame m #[(.int p0)] 1) = B0 at K0 ⊢
  show Own.Fin p e below B0 s (({ frames := 1, cells := 0, slots := 0, locals := 14 } : Room)).cells (({ frames := 1, cells := 0, slots := 0, locals := 14 } : Room)).slots (Own.Pure (.int (own_kd p0)) h0)
  obtain ⟨T1, X1, e1, st1⟩ := Own.getS (Ls := #[vi p0]) X0 hx hZ e0 hown (host := "") (Or.inl (W_ hw 208 rfl)) Via.refl SK (S := []) (D d39_0)
  have K2 := fun t k => K0 t (st1 t k)
  have K3 : Own.To p e below B0 T1 (mkF m 4 #[vi p0] [(.int p0), (.ref wK)]) := fun t k => K2 t (by
    refine Own.iloadN X1 hx (D d39_3) rfl ?_
    exact k)
  obtain ⟨T4, X4, e4, st4⟩ := Own.getS (Ls := #[vi p0]) X1 hx hZ e1 hown (host := "") (Or.inl (W_ hw 208 rfl)) Via.refl SK (S := [(.int p0), (.ref wK)]) (D d39_4)
  have K5 := fun t k => K3 t (st4 t k)
  obtain ⟨cl, AK, hs, hK⟩ := KD
  have K6 : Own.To p e below B0 T4 (mkF m 10 #[vi p0] [(.int 127), (.int p0), (.ref wK)]) := fun t k => K5 t (by
    refine Own.arraylength X4 hx (128 : Int32) hZ e4 AK hs (D d39_7) ?_
    refine Own.iconst X4 hx 1 (D d39_8) rfl ?_
    refine Own.isub X4 hx (D d39_9) ?_
    exact k)
  obtain ⟨T7, X7, e7, st7⟩ := Own.callP (Ls := #[vi p0]) X4 hx hZ e4 [(.int p0), (.int 127)] [(.ref wK)] (c37 l Z a0 hw p0 (127 : Int32)  h0 ) hown (W_ hw 210 rfl) (W_ hw 198 rfl) (W_ hw 199 rfl) (W_ hw 200 rfl) (by decide) 1 rfl rfl (by decide) (by decide) (by decide) (by decide) (szOf hml rfl) (lenOf pd_12 rfl) rfl (Nat.le_of_eq rfl) (D d39_10)
  have K8 := fun t k => K6 t (st7 t k)
  have ej : (F37 p0 (127 : Int32)) = p0 := by unfold F37; rw [if_neg (own_let127 hp)]
  rw [ej] at K8
  have hin : ¬ (p0 < 0 ∨ cl.slots.size ≤ p0.toNatClampNeg) := fun q => q.elim (own_let_ok hp).1 fun q => by have := (Array.getElem?_eq_some_iff.mp (hK p0 hp)).1; omega
  have K9 : Own.To p e below B0 T7 (mkF m 14 #[vi p0] [(.int (own_kd p0))]) := fun t k => K8 t (by
    refine Own.baload X7 hx (.int (own_kd p0)) hZ e7 AK hin (hK p0 hp) (D d39_13) ?_
    exact k)
  exact Own.finI X7 hx (BodyLoose.notSynchronized Bd) Bd.returns (D d39_14) K9 (by decide) (by decide) ⟨rfl, rfl, e7⟩

theorem d40_0 : decode J39 0 = .ok (.iload_n 0, 1) := by decide +kernel
theorem d40_1 : decode J39 1 = .ok (.ifCond .eq 7, 3) := by decide +kernel
theorem d40_8 : decode J39 8 = .ok (.bipush 12, 2) := by decide +kernel
theorem d40_10 : decode J39 10 = .ok (.ireturn, 1) := by decide +kernel
theorem ef_40 (m : MethodId) (p0 : Int32) : entryFrame m #[(.int p0)] 1 = mkF m 0 #[.val (.int p0)] [] := by first | (simp [entryFrame, mkF, argsToLocals, Value.category]; done) | rfl
set_option maxRecDepth 65536 in
set_option maxHeartbeats 40000000 in
theorem cNIW (l : Launch) (Z : State) (a0 : Array Value) (hw : ∀ d ∈ tables_1, d.before a0 Z = true)  (h0 : Heap) : Own.Con l Z (⟨"com/example/stemshear/stemshear/Condition", "notInWords", "(Z)I"⟩ : MethodName) prog_10_method_25_code 1 (some .int) ({ frames := 0, cells := 0, slots := 0, locals := 0 } : Room) #[(.int 0)] h0 (Own.Pure (.int 12) h0) := by
  intro ws
  refine MetFree.of_bodySF (plainFor_of_name pn_5) hisR ?_
  intro p e s m args below meth c s₁ Bd hml0 hP hK
  obtain ⟨rfl, hZ, hh⟩ := hP
  have hx := Bd.exec
  have hby := Bd.bytes
  have D := fun {n : Nat} {i} (d : decode prog_10_method_25_code n = .ok i) => hb hby d
  have hml : c.maxLocals = 1 := hml0
  have hown : s.vm.findClass "com/example/stemshear/stemshear/Condition" = some m.cls := findClass_of_methodNamed Bd.named
  have hnm := (name_of_methodNamed Bd.named Bd.method).1
  have X0 : Stand p l e ({ frames := 0, cells := 0, slots := 0, locals := 0 } : Room) s m #[(.int 0)] below meth c s₁ [] 0 0 := Stand.of_body Bd
  have e0 : s₁.heap = h0 := by rw [← hh, Bd.state]; rfl
  have K0 : ∀ t, Steps p.tables e below (s₁.setTop (mkF m 0 #[vi 0] [])) t → Steps p.tables e below (s₁.setTop (entryFrame m #[(.int 0)] 1)) t := fun t k => castTop (ef_40 m (0 : Int32)) k
  generalize s₁.setTop (entryFrame m #[(.int 0)] 1) = B0 at K0 ⊢
  show Own.Fin p e below B0 s (({ frames := 0, cells := 0, slots := 0, locals := 0 } : Room)).cells (({ frames := 0, cells := 0, slots := 0, locals := 0 } : Room)).slots (Own.Pure (.int 12) h0)
  have K1 : Own.To p e below B0 s₁ (mkF m 1 #[vi 0] [(.int 0)]) := fun t k => K0 t (by
    refine Own.iloadN X0 hx (D d40_0) rfl ?_
    exact k)
  have K2 : Own.To p e below B0 s₁ (mkF m 10 #[vi 0] [(.int 12)]) := fun t k => K1 t (by
    refine Own.ifYes X0 hx 8 (D d40_1) ((if0 _ _).trans (teq (by decide : (0 : Int32) = (0 : Int32))).1) (by decide) (by decide) ?_
    refine Own.bipush X0 hx 12 (D d40_8) rfl ?_
    exact k)
  exact Own.finI X0 hx (BodyLoose.notSynchronized Bd) Bd.returns (D d40_10) K2 (by decide) (by decide) ⟨rfl, rfl, e0⟩

theorem d38_0 : decode J38 0 = .ok (.iconst 0, 1) := by decide +kernel
theorem d38_1 : decode J38 1 = .ok (.istore 5, 2) := by decide +kernel
theorem d38_3 : decode J38 3 = .ok (.lconst 0, 1) := by decide +kernel
theorem d38_4 : decode J38 4 = .ok (.lstore 6, 2) := by decide +kernel
theorem d38_6 : decode J38 6 = .ok (.iload_n 1, 1) := by decide +kernel
theorem d38_7 : decode J38 7 = .ok (.iload_n 2, 1) := by decide +kernel
theorem d38_8 : decode J38 8 = .ok (.iadd, 1) := by decide +kernel
theorem d38_9 : decode J38 9 = .ok (.iconst 1, 1) := by decide +kernel
theorem d38_10 : decode J38 10 = .ok (.isub, 1) := by decide +kernel
theorem d38_11 : decode J38 11 = .ok (.istore 8, 2) := by decide +kernel
theorem d38_13 : decode J38 13 = .ok (.iload 8, 2) := by decide +kernel
theorem d38_15 : decode J38 15 = .ok (.iload_n 1, 1) := by decide +kernel
theorem d38_16 : decode J38 16 = .ok (.if_icmp .lt 37, 3) := by decide +kernel
theorem d38_19 : decode J38 19 = .ok (.aload_n 0, 1) := by decide +kernel
theorem d38_20 : decode J38 20 = .ok (.iload 8, 2) := by decide +kernel
theorem d38_22 : decode J38 22 = .ok (.caload, 1) := by decide +kernel
theorem d38_23 : decode J38 23 = .ok (.invokestatic 130, 3) := by decide +kernel
theorem d38_26 : decode J38 26 = .ok (.istore 9, 2) := by decide +kernel
theorem d38_28 : decode J38 28 = .ok (.lload 6, 2) := by decide +kernel
theorem d38_30 : decode J38 30 = .ok (.iconst 1, 1) := by decide +kernel
theorem d38_31 : decode J38 31 = .ok (.lshl, 1) := by decide +kernel
theorem d38_32 : decode J38 32 = .ok (.iload 9, 2) := by decide +kernel
theorem d38_34 : decode J38 34 = .ok (.iconst 1, 1) := by decide +kernel
theorem d38_35 : decode J38 35 = .ok (.iand, 1) := by decide +kernel
theorem d38_36 : decode J38 36 = .ok (.i2l, 1) := by decide +kernel
theorem d38_37 : decode J38 37 = .ok (.lor, 1) := by decide +kernel
theorem d38_38 : decode J38 38 = .ok (.lstore 6, 2) := by decide +kernel
theorem d38_40 : decode J38 40 = .ok (.iload 5, 2) := by decide +kernel
theorem d38_42 : decode J38 42 = .ok (.iload 9, 2) := by decide +kernel
theorem d38_44 : decode J38 44 = .ok (.ior, 1) := by decide +kernel
theorem d38_45 : decode J38 45 = .ok (.istore 5, 2) := by decide +kernel
theorem d38_47 : decode J38 47 = .ok (.iinc 8 (-1), 3) := by decide +kernel
theorem d38_50 : decode J38 50 = .ok (.goto (-37), 3) := by decide +kernel
theorem d38_53 : decode J38 53 = .ok (.iload 5, 2) := by decide +kernel
theorem d38_55 : decode J38 55 = .ok (.iload 4, 2) := by decide +kernel
theorem d38_57 : decode J38 57 = .ok (.invokestatic 133, 3) := by decide +kernel
theorem d38_60 : decode J38 60 = .ok (.iand, 1) := by decide +kernel
theorem d38_61 : decode J38 61 = .ok (.ifCond .eq 7, 3) := by decide +kernel
theorem d38_68 : decode J38 68 = .ok (.lconst 0, 1) := by decide +kernel
theorem d38_69 : decode J38 69 = .ok (.lstore 8, 2) := by decide +kernel
theorem d38_71 : decode J38 71 = .ok (.iload 5, 2) := by decide +kernel
theorem d38_73 : decode J38 73 = .ok (.iconst 2, 1) := by decide +kernel
theorem d38_74 : decode J38 74 = .ok (.iand, 1) := by decide +kernel
theorem d38_75 : decode J38 75 = .ok (.ifCond .eq 44, 3) := by decide +kernel
theorem d38_78 : decode J38 78 = .ok (.iload_n 1, 1) := by decide +kernel
theorem d38_79 : decode J38 79 = .ok (.iload_n 2, 1) := by decide +kernel
theorem d38_80 : decode J38 80 = .ok (.iadd, 1) := by decide +kernel
theorem d38_81 : decode J38 81 = .ok (.iconst 1, 1) := by decide +kernel
theorem d38_82 : decode J38 82 = .ok (.isub, 1) := by decide +kernel
theorem d38_83 : decode J38 83 = .ok (.istore 10, 2) := by decide +kernel
theorem d38_85 : decode J38 85 = .ok (.iload 10, 2) := by decide +kernel
theorem d38_87 : decode J38 87 = .ok (.iload_n 1, 1) := by decide +kernel
theorem d38_88 : decode J38 88 = .ok (.if_icmp .lt 31, 3) := by decide +kernel
theorem d38_91 : decode J38 91 = .ok (.lload 8, 2) := by decide +kernel
theorem d38_93 : decode J38 93 = .ok (.iconst 1, 1) := by decide +kernel
theorem d38_94 : decode J38 94 = .ok (.lshl, 1) := by decide +kernel
theorem d38_95 : decode J38 95 = .ok (.aload_n 0, 1) := by decide +kernel
theorem d38_96 : decode J38 96 = .ok (.iload 10, 2) := by decide +kernel
theorem d38_98 : decode J38 98 = .ok (.caload, 1) := by decide +kernel
theorem d38_99 : decode J38 99 = .ok (.bipush 121, 2) := by decide +kernel
theorem d38_101 : decode J38 101 = .ok (.if_icmp .ne 7, 3) := by decide +kernel
theorem d38_104 : decode J38 104 = .ok (.iconst 1, 1) := by decide +kernel
theorem d38_105 : decode J38 105 = .ok (.goto 4, 3) := by decide +kernel
theorem d38_108 : decode J38 108 = .ok (.iconst 0, 1) := by decide +kernel
theorem d38_109 : decode J38 109 = .ok (.i2l, 1) := by decide +kernel
theorem d38_110 : decode J38 110 = .ok (.lor, 1) := by decide +kernel
theorem d38_111 : decode J38 111 = .ok (.lstore 8, 2) := by decide +kernel
theorem d38_113 : decode J38 113 = .ok (.iinc 10 (-1), 3) := by decide +kernel
theorem d38_116 : decode J38 116 = .ok (.goto (-31), 3) := by decide +kernel
theorem d38_119 : decode J38 119 = .ok (.iload_n 3, 1) := by decide +kernel
theorem d38_120 : decode J38 120 = .ok (.ifCond .eq 28, 3) := by decide +kernel
theorem d38_148 : decode J38 148 = .ok (.lload 6, 2) := by decide +kernel
theorem d38_150 : decode J38 150 = .ok (.lload 8, 2) := by decide +kernel
theorem d38_152 : decode J38 152 = .ok (.lload 6, 2) := by decide +kernel
theorem d38_154 : decode J38 154 = .ok (.iconst 1, 1) := by decide +kernel
theorem d38_155 : decode J38 155 = .ok (.lshl, 1) := by decide +kernel
theorem d38_156 : decode J38 156 = .ok (.ldc2_w 81, 3) := by decide +kernel
theorem d38_159 : decode J38 159 = .ok (.lxor, 1) := by decide +kernel
theorem d38_160 : decode J38 160 = .ok (.land, 1) := by decide +kernel
theorem d38_161 : decode J38 161 = .ok (.ldc2_w 144, 3) := by decide +kernel
theorem d38_164 : decode J38 164 = .ok (.land, 1) := by decide +kernel
theorem d38_165 : decode J38 165 = .ok (.lor, 1) := by decide +kernel
theorem d38_166 : decode J38 166 = .ok (.lstore 10, 2) := by decide +kernel
theorem d38_168 : decode J38 168 = .ok (.lload 8, 2) := by decide +kernel
theorem d38_170 : decode J38 170 = .ok (.lload 8, 2) := by decide +kernel
theorem d38_172 : decode J38 172 = .ok (.iconst 1, 1) := by decide +kernel
theorem d38_173 : decode J38 173 = .ok (.lshl, 1) := by decide +kernel
theorem d38_174 : decode J38 174 = .ok (.land, 1) := by decide +kernel
theorem d38_175 : decode J38 175 = .ok (.lconst 0, 1) := by decide +kernel
theorem d38_176 : decode J38 176 = .ok (.lcmp, 1) := by decide +kernel
theorem d38_177 : decode J38 177 = .ok (.ifCond .eq 35, 3) := by decide +kernel
theorem d38_180 : decode J38 180 = .ok (.lload 10, 2) := by decide +kernel
theorem d38_182 : decode J38 182 = .ok (.lstore 12, 2) := by decide +kernel
theorem d38_184 : decode J38 184 = .ok (.lload 6, 2) := by decide +kernel
theorem d38_186 : decode J38 186 = .ok (.lload 8, 2) := by decide +kernel
theorem d38_188 : decode J38 188 = .ok (.lload 10, 2) := by decide +kernel
theorem d38_190 : decode J38 190 = .ok (.iconst 1, 1) := by decide +kernel
theorem d38_191 : decode J38 191 = .ok (.lshl, 1) := by decide +kernel
theorem d38_192 : decode J38 192 = .ok (.ldc2_w 81, 3) := by decide +kernel
theorem d38_195 : decode J38 195 = .ok (.lxor, 1) := by decide +kernel
theorem d38_196 : decode J38 196 = .ok (.land, 1) := by decide +kernel
theorem d38_197 : decode J38 197 = .ok (.ldc2_w 144, 3) := by decide +kernel
theorem d38_200 : decode J38 200 = .ok (.land, 1) := by decide +kernel
theorem d38_201 : decode J38 201 = .ok (.lor, 1) := by decide +kernel
theorem d38_202 : decode J38 202 = .ok (.lstore 10, 2) := by decide +kernel
theorem d38_204 : decode J38 204 = .ok (.lload 10, 2) := by decide +kernel
theorem d38_206 : decode J38 206 = .ok (.lload 12, 2) := by decide +kernel
theorem d38_208 : decode J38 208 = .ok (.lcmp, 1) := by decide +kernel
theorem d38_209 : decode J38 209 = .ok (.ifCond .ne (-29), 3) := by decide +kernel
theorem d38_212 : decode J38 212 = .ok (.lload 10, 2) := by decide +kernel
theorem d38_214 : decode J38 214 = .ok (.lreturn, 1) := by decide +kernel
def own_16 : List Int64 := [0, 1, 2, 3, 4, 5, 6, 7, 8, 9, 10, 11, 12, 13, 14, 15]
theorem own_fix : ∀ vv ∈ own_16, ∀ yy ∈ own_16, (vv ||| ((yy &&& (((vv ||| ((yy &&& (((vv ||| ((yy &&& (((vv ||| ((yy &&& (((vv ||| ((yy &&& (((vv ||| ((yy &&& ((vv <<< ((1 : Int32) &&& 0x3f).toInt64) ^^^ (-1 : Int64))) &&& (-2 : Int64))) <<< ((1 : Int32) &&& 0x3f).toInt64) ^^^ (-1 : Int64))) &&& (-2 : Int64))) <<< ((1 : Int32) &&& 0x3f).toInt64) ^^^ (-1 : Int64))) &&& (-2 : Int64))) <<< ((1 : Int32) &&& 0x3f).toInt64) ^^^ (-1 : Int64))) &&& (-2 : Int64))) <<< ((1 : Int32) &&& 0x3f).toInt64) ^^^ (-1 : Int64))) &&& (-2 : Int64))) <<< ((1 : Int32) &&& 0x3f).toInt64) ^^^ (-1 : Int64))) &&& (-2 : Int64))) = (vv ||| ((yy &&& (((vv ||| ((yy &&& (((vv ||| ((yy &&& (((vv ||| ((yy &&& (((vv ||| ((yy &&& ((vv <<< ((1 : Int32) &&& 0x3f).toInt64) ^^^ (-1 : Int64))) &&& (-2 : Int64))) <<< ((1 : Int32) &&& 0x3f).toInt64) ^^^ (-1 : Int64))) &&& (-2 : Int64))) <<< ((1 : Int32) &&& 0x3f).toInt64) ^^^ (-1 : Int64))) &&& (-2 : Int64))) <<< ((1 : Int32) &&& 0x3f).toInt64) ^^^ (-1 : Int64))) &&& (-2 : Int64))) <<< ((1 : Int32) &&& 0x3f).toInt64) ^^^ (-1 : Int64))) &&& (-2 : Int64))) := by decide +kernel
def own_fin (vv yy : Int64) : Int64 := (if (yy &&& (yy <<< ((1 : Int32) &&& 0x3f).toInt64)) = (0 : Int64) then (vv ||| ((yy &&& ((vv <<< ((1 : Int32) &&& 0x3f).toInt64) ^^^ (-1 : Int64))) &&& (-2 : Int64))) else (if (vv ||| ((yy &&& (((vv ||| ((yy &&& ((vv <<< ((1 : Int32) &&& 0x3f).toInt64) ^^^ (-1 : Int64))) &&& (-2 : Int64))) <<< ((1 : Int32) &&& 0x3f).toInt64) ^^^ (-1 : Int64))) &&& (-2 : Int64))) = (vv ||| ((yy &&& ((vv <<< ((1 : Int32) &&& 0x3f).toInt64) ^^^ (-1 : Int64))) &&& (-2 : Int64))) then (vv ||| ((yy &&& (((vv ||| ((yy &&& ((vv <<< ((1 : Int32) &&& 0x3f).toInt64) ^^^ (-1 : Int64))) &&& (-2 : Int64))) <<< ((1 : Int32) &&& 0x3f).toInt64) ^^^ (-1 : Int64))) &&& (-2 : Int64))) else (if (vv ||| ((yy &&& (((vv ||| ((yy &&& (((vv ||| ((yy &&& ((vv <<< ((1 : Int32) &&& 0x3f).toInt64) ^^^ (-1 : Int64))) &&& (-2 : Int64))) <<< ((1 : Int32) &&& 0x3f).toInt64) ^^^ (-1 : Int64))) &&& (-2 : Int64))) <<< ((1 : Int32) &&& 0x3f).toInt64) ^^^ (-1 : Int64))) &&& (-2 : Int64))) = (vv ||| ((yy &&& (((vv ||| ((yy &&& ((vv <<< ((1 : Int32) &&& 0x3f).toInt64) ^^^ (-1 : Int64))) &&& (-2 : Int64))) <<< ((1 : Int32) &&& 0x3f).toInt64) ^^^ (-1 : Int64))) &&& (-2 : Int64))) then (vv ||| ((yy &&& (((vv ||| ((yy &&& (((vv ||| ((yy &&& ((vv <<< ((1 : Int32) &&& 0x3f).toInt64) ^^^ (-1 : Int64))) &&& (-2 : Int64))) <<< ((1 : Int32) &&& 0x3f).toInt64) ^^^ (-1 : Int64))) &&& (-2 : Int64))) <<< ((1 : Int32) &&& 0x3f).toInt64) ^^^ (-1 : Int64))) &&& (-2 : Int64))) else (if (vv ||| ((yy &&& (((vv ||| ((yy &&& (((vv ||| ((yy &&& (((vv ||| ((yy &&& ((vv <<< ((1 : Int32) &&& 0x3f).toInt64) ^^^ (-1 : Int64))) &&& (-2 : Int64))) <<< ((1 : Int32) &&& 0x3f).toInt64) ^^^ (-1 : Int64))) &&& (-2 : Int64))) <<< ((1 : Int32) &&& 0x3f).toInt64) ^^^ (-1 : Int64))) &&& (-2 : Int64))) <<< ((1 : Int32) &&& 0x3f).toInt64) ^^^ (-1 : Int64))) &&& (-2 : Int64))) = (vv ||| ((yy &&& (((vv ||| ((yy &&& (((vv ||| ((yy &&& ((vv <<< ((1 : Int32) &&& 0x3f).toInt64) ^^^ (-1 : Int64))) &&& (-2 : Int64))) <<< ((1 : Int32) &&& 0x3f).toInt64) ^^^ (-1 : Int64))) &&& (-2 : Int64))) <<< ((1 : Int32) &&& 0x3f).toInt64) ^^^ (-1 : Int64))) &&& (-2 : Int64))) then (vv ||| ((yy &&& (((vv ||| ((yy &&& (((vv ||| ((yy &&& (((vv ||| ((yy &&& ((vv <<< ((1 : Int32) &&& 0x3f).toInt64) ^^^ (-1 : Int64))) &&& (-2 : Int64))) <<< ((1 : Int32) &&& 0x3f).toInt64) ^^^ (-1 : Int64))) &&& (-2 : Int64))) <<< ((1 : Int32) &&& 0x3f).toInt64) ^^^ (-1 : Int64))) &&& (-2 : Int64))) <<< ((1 : Int32) &&& 0x3f).toInt64) ^^^ (-1 : Int64))) &&& (-2 : Int64))) else (if (vv ||| ((yy &&& (((vv ||| ((yy &&& (((vv ||| ((yy &&& (((vv ||| ((yy &&& (((vv ||| ((yy &&& ((vv <<< ((1 : Int32) &&& 0x3f).toInt64) ^^^ (-1 : Int64))) &&& (-2 : Int64))) <<< ((1 : Int32) &&& 0x3f).toInt64) ^^^ (-1 : Int64))) &&& (-2 : Int64))) <<< ((1 : Int32) &&& 0x3f).toInt64) ^^^ (-1 : Int64))) &&& (-2 : Int64))) <<< ((1 : Int32) &&& 0x3f).toInt64) ^^^ (-1 : Int64))) &&& (-2 : Int64))) <<< ((1 : Int32) &&& 0x3f).toInt64) ^^^ (-1 : Int64))) &&& (-2 : Int64))) = (vv ||| ((yy &&& (((vv ||| ((yy &&& (((vv ||| ((yy &&& (((vv ||| ((yy &&& ((vv <<< ((1 : Int32) &&& 0x3f).toInt64) ^^^ (-1 : Int64))) &&& (-2 : Int64))) <<< ((1 : Int32) &&& 0x3f).toInt64) ^^^ (-1 : Int64))) &&& (-2 : Int64))) <<< ((1 : Int32) &&& 0x3f).toInt64) ^^^ (-1 : Int64))) &&& (-2 : Int64))) <<< ((1 : Int32) &&& 0x3f).toInt64) ^^^ (-1 : Int64))) &&& (-2 : Int64))) then (vv ||| ((yy &&& (((vv ||| ((yy &&& (((vv ||| ((yy &&& (((vv ||| ((yy &&& (((vv ||| ((yy &&& ((vv <<< ((1 : Int32) &&& 0x3f).toInt64) ^^^ (-1 : Int64))) &&& (-2 : Int64))) <<< ((1 : Int32) &&& 0x3f).toInt64) ^^^ (-1 : Int64))) &&& (-2 : Int64))) <<< ((1 : Int32) &&& 0x3f).toInt64) ^^^ (-1 : Int64))) &&& (-2 : Int64))) <<< ((1 : Int32) &&& 0x3f).toInt64) ^^^ (-1 : Int64))) &&& (-2 : Int64))) <<< ((1 : Int32) &&& 0x3f).toInt64) ^^^ (-1 : Int64))) &&& (-2 : Int64))) else (vv ||| ((yy &&& (((vv ||| ((yy &&& (((vv ||| ((yy &&& (((vv ||| ((yy &&& (((vv ||| ((yy &&& (((vv ||| ((yy &&& ((vv <<< ((1 : Int32) &&& 0x3f).toInt64) ^^^ (-1 : Int64))) &&& (-2 : Int64))) <<< ((1 : Int32) &&& 0x3f).toInt64) ^^^ (-1 : Int64))) &&& (-2 : Int64))) <<< ((1 : Int32) &&& 0x3f).toInt64) ^^^ (-1 : Int64))) &&& (-2 : Int64))) <<< ((1 : Int32) &&& 0x3f).toInt64) ^^^ (-1 : Int64))) &&& (-2 : Int64))) <<< ((1 : Int32) &&& 0x3f).toInt64) ^^^ (-1 : Int64))) &&& (-2 : Int64))) <<< ((1 : Int32) &&& 0x3f).toInt64) ^^^ (-1 : Int64))) &&& (-2 : Int64))))))))
theorem own_finnn : ∀ vv ∈ own_16, ∀ yy ∈ own_16, ¬ own_fin vv yy < 0 ∧ ¬ ((own_fin vv yy).toUInt64 >>> ((1 : Int32) &&& 0x3f).toInt64.toUInt64).toInt64 < 0 := by decide +kernel

set_option maxRecDepth 65536 in
set_option maxHeartbeats 40000000 in
theorem cVWt {p : Program} {l : Launch} {e : Env} {R : Room} {s : State} {m : MethodId} {args : Array Value} {below : List Frame} {meth : Method} {c : Code} {s₁ T B0 Z : State} {S : Spec} {a0 : Array Value} (hw : ∀ d ∈ tables_1, d.before a0 Z = true) (Bd : BodyLoose p l (⟨"com/example/stemshear/stemshear/Condition", "vowels", "([CIIIZ)J"⟩ : MethodName) S prog_10_method_23_code 14 (some .long) e s m args below meth c s₁) (hx : p.tables.exec = Jvm.exec) (hby : c.code = prog_10_method_23_code) (hml : c.maxLocals = 14) (hZ : Z.Warmed39 s.vm) (hown : s.vm.findClass "com/example/stemshear/stemshear/Condition" = some m.cls) {h0 : Heap} (X0 : Stand p l e R s m args below meth c T [] 0 0) (e0 : T.heap = h0) {t0 t10 : Slot} (ot10 : One t10) {i1 i2 i3 i4 i5 : Int32} {vv yy : Int64} (mvv : vv ∈ own_16) (myy : yy ∈ own_16)
    (K0 : ∀ t, Steps p.tables e below (T.setTop (mkF m 148 #[t0, vi i1, vi i2, vi i3, vi i4, vi i5, vl vv, .second, vl yy, .second, t10, .unset, .unset, .unset] [])) t → Steps p.tables e below B0 t) : Own.Fin p e below B0 s 0 0 (Own.Pure (.long (own_fin vv yy)) h0) := by
  have D := fun {n : Nat} {i} (d : decode prog_10_method_23_code n = .ok i) => hb hby d
  obtain ⟨x1, hx1⟩ : ∃ z : Int64, z = (vv ||| ((yy &&& ((vv <<< ((1 : Int32) &&& 0x3f).toInt64) ^^^ (-1 : Int64))) &&& (-2 : Int64))) := ⟨_, rfl⟩
  have K2 : Own.To p e below B0 T (mkF m 177 #[t0, vi i1, vi i2, vi i3, vi i4, vi i5, vl vv, .second, vl yy, .second, vl x1, .second, .unset, .unset] [(.int (lcmpW (yy &&& (yy <<< ((1 : Int32) &&& 0x3f).toInt64)) (0 : Int64)))]) := fun t k => K0 t (by
    subst hx1
    refine Own.lload X0 hx (D d38_148) rfl ?_
    refine Own.lload X0 hx (D d38_150) rfl ?_
    refine Own.lload X0 hx (D d38_152) rfl ?_
    refine Own.iconst X0 hx 1 (D d38_154) rfl ?_
    refine Own.lshl X0 hx (D d38_155) ?_
    refine Own.ldc2J X0 hx (-1 : Int64) hZ hown (W_ hw 214 rfl) (D d38_156) ?_
    refine Own.lxor X0 hx (D d38_159) ?_
    refine Own.land X0 hx (D d38_160) ?_
    refine Own.ldc2J X0 hx (-2 : Int64) hZ hown (W_ hw 215 rfl) (D d38_161) ?_
    refine Own.land X0 hx (D d38_164) ?_
    refine Own.lor X0 hx (D d38_165) ?_
    refine Own.lstore X0 hx #[t0, vi i1, vi i2, vi i3, vi i4, vi i5, vl vv, .second, vl yy, .second, vl (vv ||| ((yy &&& ((vv <<< ((1 : Int32) &&& 0x3f).toInt64) ^^^ (-1 : Int64))) &&& (-2 : Int64))), .second, .unset, .unset] (D d38_166) ((Own.stSelf (o := t10) rfl ot10).trans rfl) ?_
    refine Own.lload X0 hx (D d38_168) rfl ?_
    refine Own.lload X0 hx (D d38_170) rfl ?_
    refine Own.iconst X0 hx 1 (D d38_172) rfl ?_
    refine Own.lshl X0 hx (D d38_173) ?_
    refine Own.land X0 hx (D d38_174) ?_
    refine Own.lconst X0 hx (0 : Int64) (D d38_175) rfl ?_
    refine Own.lcmp X0 hx (D d38_176) ?_
    exact k)
  obtain ⟨x36, hx36⟩ : ∃ z : Int64, z = (if (yy &&& (yy <<< ((1 : Int32) &&& 0x3f).toInt64)) = (0 : Int64) then x1 else (if (vv ||| ((yy &&& ((x1 <<< ((1 : Int32) &&& 0x3f).toInt64) ^^^ (-1 : Int64))) &&& (-2 : Int64))) = x1 then (vv ||| ((yy &&& ((x1 <<< ((1 : Int32) &&& 0x3f).toInt64) ^^^ (-1 : Int64))) &&& (-2 : Int64))) else (if (vv ||| ((yy &&& (((vv ||| ((yy &&& ((x1 <<< ((1 : Int32) &&& 0x3f).toInt64) ^^^ (-1 : Int64))) &&& (-2 : Int64))) <<< ((1 : Int32) &&& 0x3f).toInt64) ^^^ (-1 : Int64))) &&& (-2 : Int64))) = (vv ||| ((yy &&& ((x1 <<< ((1 : Int32) &&& 0x3f).toInt64) ^^^ (-1 : Int64))) &&& (-2 : Int64))) then (vv ||| ((yy &&& (((vv ||| ((yy &&& ((x1 <<< ((1 : Int32) &&& 0x3f).toInt64) ^^^ (-1 : Int64))) &&& (-2 : Int64))) <<< ((1 : Int32) &&& 0x3f).toInt64) ^^^ (-1 : Int64))) &&& (-2 : Int64))) else (if (vv ||| ((yy &&& (((vv ||| ((yy &&& (((vv ||| ((yy &&& ((x1 <<< ((1 : Int32) &&& 0x3f).toInt64) ^^^ (-1 : Int64))) &&& (-2 : Int64))) <<< ((1 : Int32) &&& 0x3f).toInt64) ^^^ (-1 : Int64))) &&& (-2 : Int64))) <<< ((1 : Int32) &&& 0x3f).toInt64) ^^^ (-1 : Int64))) &&& (-2 : Int64))) = (vv ||| ((yy &&& (((vv ||| ((yy &&& ((x1 <<< ((1 : Int32) &&& 0x3f).toInt64) ^^^ (-1 : Int64))) &&& (-2 : Int64))) <<< ((1 : Int32) &&& 0x3f).toInt64) ^^^ (-1 : Int64))) &&& (-2 : Int64))) then (vv ||| ((yy &&& (((vv ||| ((yy &&& (((vv ||| ((yy &&& ((x1 <<< ((1 : Int32) &&& 0x3f).toInt64) ^^^ (-1 : Int64))) &&& (-2 : Int64))) <<< ((1 : Int32) &&& 0x3f).toInt64) ^^^ (-1 : Int64))) &&& (-2 : Int64))) <<< ((1 : Int32) &&& 0x3f).toInt64) ^^^ (-1 : Int64))) &&& (-2 : Int64))) else (if (vv ||| ((yy &&& (((vv ||| ((yy &&& (((vv ||| ((yy &&& (((vv ||| ((yy &&& ((x1 <<< ((1 : Int32) &&& 0x3f).toInt64) ^^^ (-1 : Int64))) &&& (-2 : Int64))) <<< ((1 : Int32) &&& 0x3f).toInt64) ^^^ (-1 : Int64))) &&& (-2 : Int64))) <<< ((1 : Int32) &&& 0x3f).toInt64) ^^^ (-1 : Int64))) &&& (-2 : Int64))) <<< ((1 : Int32) &&& 0x3f).toInt64) ^^^ (-1 : Int64))) &&& (-2 : Int64))) = (vv ||| ((yy &&& (((vv ||| ((yy &&& (((vv ||| ((yy &&& ((x1 <<< ((1 : Int32) &&& 0x3f).toInt64) ^^^ (-1 : Int64))) &&& (-2 : Int64))) <<< ((1 : Int32) &&& 0x3f).toInt64) ^^^ (-1 : Int64))) &&& (-2 : Int64))) <<< ((1 : Int32) &&& 0x3f).toInt64) ^^^ (-1 : Int64))) &&& (-2 : Int64))) then (vv ||| ((yy &&& (((vv ||| ((yy &&& (((vv ||| ((yy &&& (((vv ||| ((yy &&& ((x1 <<< ((1 : Int32) &&& 0x3f).toInt64) ^^^ (-1 : Int64))) &&& (-2 : Int64))) <<< ((1 : Int32) &&& 0x3f).toInt64) ^^^ (-1 : Int64))) &&& (-2 : Int64))) <<< ((1 : Int32) &&& 0x3f).toInt64) ^^^ (-1 : Int64))) &&& (-2 : Int64))) <<< ((1 : Int32) &&& 0x3f).toInt64) ^^^ (-1 : Int64))) &&& (-2 : Int64))) else (vv ||| ((yy &&& (((vv ||| ((yy &&& (((vv ||| ((yy &&& (((vv ||| ((yy &&& (((vv ||| ((yy &&& ((x1 <<< ((1 : Int32) &&& 0x3f).toInt64) ^^^ (-1 : Int64))) &&& (-2 : Int64))) <<< ((1 : Int32) &&& 0x3f).toInt64) ^^^ (-1 : Int64))) &&& (-2 : Int64))) <<< ((1 : Int32) &&& 0x3f).toInt64) ^^^ (-1 : Int64))) &&& (-2 : Int64))) <<< ((1 : Int32) &&& 0x3f).toInt64) ^^^ (-1 : Int64))) &&& (-2 : Int64))) <<< ((1 : Int32) &&& 0x3f).toInt64) ^^^ (-1 : Int64))) &&& (-2 : Int64)))))))) := ⟨_, rfl⟩
  obtain ⟨u37, hu37⟩ : ∃ z : Slot, z = (if (yy &&& (yy <<< ((1 : Int32) &&& 0x3f).toInt64)) = (0 : Int64) then (.unset : Slot) else (vl (if (vv ||| ((yy &&& ((x1 <<< ((1 : Int32) &&& 0x3f).toInt64) ^^^ (-1 : Int64))) &&& (-2 : Int64))) = x1 then x1 else (if (vv ||| ((yy &&& (((vv ||| ((yy &&& ((x1 <<< ((1 : Int32) &&& 0x3f).toInt64) ^^^ (-1 : Int64))) &&& (-2 : Int64))) <<< ((1 : Int32) &&& 0x3f).toInt64) ^^^ (-1 : Int64))) &&& (-2 : Int64))) = (vv ||| ((yy &&& ((x1 <<< ((1 : Int32) &&& 0x3f).toInt64) ^^^ (-1 : Int64))) &&& (-2 : Int64))) then (vv ||| ((yy &&& ((x1 <<< ((1 : Int32) &&& 0x3f).toInt64) ^^^ (-1 : Int64))) &&& (-2 : Int64))) else (if (vv ||| ((yy &&& (((vv ||| ((yy &&& (((vv ||| ((yy &&& ((x1 <<< ((1 : Int32) &&& 0x3f).toInt64) ^^^ (-1 : Int64))) &&& (-2 : Int64))) <<< ((1 : Int32) &&& 0x3f).toInt64) ^^^ (-1 : Int64))) &&& (-2 : Int64))) <<< ((1 : Int32) &&& 0x3f).toInt64) ^^^ (-1 : Int64))) &&& (-2 : Int64))) = (vv ||| ((yy &&& (((vv ||| ((yy &&& ((x1 <<< ((1 : Int32) &&& 0x3f).toInt64) ^^^ (-1 : Int64))) &&& (-2 : Int64))) <<< ((1 : Int32) &&& 0x3f).toInt64) ^^^ (-1 : Int64))) &&& (-2 : Int64))) then (vv ||| ((yy &&& (((vv ||| ((yy &&& ((x1 <<< ((1 : Int32) &&& 0x3f).toInt64) ^^^ (-1 : Int64))) &&& (-2 : Int64))) <<< ((1 : Int32) &&& 0x3f).toInt64) ^^^ (-1 : Int64))) &&& (-2 : Int64))) else (if (vv ||| ((yy &&& (((vv ||| ((yy &&& (((vv ||| ((yy &&& (((vv ||| ((yy &&& ((x1 <<< ((1 : Int32) &&& 0x3f).toInt64) ^^^ (-1 : Int64))) &&& (-2 : Int64))) <<< ((1 : Int32) &&& 0x3f).toInt64) ^^^ (-1 : Int64))) &&& (-2 : Int64))) <<< ((1 : Int32) &&& 0x3f).toInt64) ^^^ (-1 : Int64))) &&& (-2 : Int64))) <<< ((1 : Int32) &&& 0x3f).toInt64) ^^^ (-1 : Int64))) &&& (-2 : Int64))) = (vv ||| ((yy &&& (((vv ||| ((yy &&& (((vv ||| ((yy &&& ((x1 <<< ((1 : Int32) &&& 0x3f).toInt64) ^^^ (-1 : Int64))) &&& (-2 : Int64))) <<< ((1 : Int32) &&& 0x3f).toInt64) ^^^ (-1 : Int64))) &&& (-2 : Int64))) <<< ((1 : Int32) &&& 0x3f).toInt64) ^^^ (-1 : Int64))) &&& (-2 : Int64))) then (vv ||| ((yy &&& (((vv ||| ((yy &&& (((vv ||| ((yy &&& ((x1 <<< ((1 : Int32) &&& 0x3f).toInt64) ^^^ (-1 : Int64))) &&& (-2 : Int64))) <<< ((1 : Int32) &&& 0x3f).toInt64) ^^^ (-1 : Int64))) &&& (-2 : Int64))) <<< ((1 : Int32) &&& 0x3f).toInt64) ^^^ (-1 : Int64))) &&& (-2 : Int64))) else (vv ||| ((yy &&& (((vv ||| ((yy &&& (((vv ||| ((yy &&& (((vv ||| ((yy &&& ((x1 <<< ((1 : Int32) &&& 0x3f).toInt64) ^^^ (-1 : Int64))) &&& (-2 : Int64))) <<< ((1 : Int32) &&& 0x3f).toInt64) ^^^ (-1 : Int64))) &&& (-2 : Int64))) <<< ((1 : Int32) &&& 0x3f).toInt64) ^^^ (-1 : Int64))) &&& (-2 : Int64))) <<< ((1 : Int32) &&& 0x3f).toInt64) ^^^ (-1 : Int64))) &&& (-2 : Int64))))))) : Slot)) := ⟨_, rfl⟩
  obtain ⟨u38, hu38⟩ : ∃ z : Slot, z = (if (yy &&& (yy <<< ((1 : Int32) &&& 0x3f).toInt64)) = (0 : Int64) then (.unset : Slot) else (.second : Slot)) := ⟨_, rfl⟩
  obtain ⟨T39, X39, e39, K39⟩ : ∃ T' : State, Stand p l e R s m args below meth c T' [] 0 0 ∧ T'.heap = h0 ∧ Own.To p e below B0 T' (mkF m 212 #[t0, vi i1, vi i2, vi i3, vi i4, vi i5, vl vv, .second, vl yy, .second, vl x36, .second, u37, u38] []) := by
    by_cases hc3 : (yy &&& (yy <<< ((1 : Int32) &&& 0x3f).toInt64)) = (0 : Int64)
    · have K4 : Own.To p e below B0 T (mkF m 212 #[t0, vi i1, vi i2, vi i3, vi i4, vi i5, vl vv, .second, vl yy, .second, vl x1, .second, .unset, .unset] []) := fun t k => K2 t (by
        refine Own.ifYes X0 hx 212 (D d38_177) (Jvm.Free.XT.ll_eq_t hc3) (by decide) (by decide) ?_
        exact k)
      exact ⟨T, X0, e0, fun t k => K4 t (by rw [hx36, if_pos hc3, hu37, if_pos hc3, hu38, if_pos hc3] at k; exact k)⟩
    · obtain ⟨x5, hx5⟩ : ∃ z : Int64, z = (vv ||| ((yy &&& ((x1 <<< ((1 : Int32) &&& 0x3f).toInt64) ^^^ (-1 : Int64))) &&& (-2 : Int64))) := ⟨_, rfl⟩
      have K6 : Own.To p e below B0 T (mkF m 209 #[t0, vi i1, vi i2, vi i3, vi i4, vi i5, vl vv, .second, vl yy, .second, vl x5, .second, vl x1, .second] [(.int (lcmpW x5 x1))]) := fun t k => K2 t (by
        subst hx5
        refine Own.ifNo X0 hx (D d38_177) (Jvm.Free.XT.ll_eq_f hc3) ?_
        refine Own.lload X0 hx (D d38_180) rfl ?_
        refine Own.lstore X0 hx #[t0, vi i1, vi i2, vi i3, vi i4, vi i5, vl vv, .second, vl yy, .second, vl x1, .second, vl x1, .second] (D d38_182) rfl ?_
        refine Own.lload X0 hx (D d38_184) rfl ?_
        refine Own.lload X0 hx (D d38_186) rfl ?_
        refine Own.lload X0 hx (D d38_188) rfl ?_
        refine Own.iconst X0 hx 1 (D d38_190) rfl ?_
        refine Own.lshl X0 hx (D d38_191) ?_
        refine Own.ldc2J X0 hx (-1 : Int64) hZ hown (W_ hw 214 rfl) (D d38_192) ?_
        refine Own.lxor X0 hx (D d38_195) ?_
        refine Own.land X0 hx (D d38_196) ?_
        refine Own.ldc2J X0 hx (-2 : Int64) hZ hown (W_ hw 215 rfl) (D d38_197) ?_
        refine Own.land X0 hx (D d38_200) ?_
        refine Own.lor X0 hx (D d38_201) ?_
        refine Own.lstore X0 hx #[t0, vi i1, vi i2, vi i3, vi i4, vi i5, vl vv, .second, vl yy, .second, vl (vv ||| ((yy &&& ((x1 <<< ((1 : Int32) &&& 0x3f).toInt64) ^^^ (-1 : Int64))) &&& (-2 : Int64))), .second, vl x1, .second] (D d38_202) rfl ?_
        refine Own.lload X0 hx (D d38_204) rfl ?_
        refine Own.lload X0 hx (D d38_206) rfl ?_
        refine Own.lcmp X0 hx (D d38_208) ?_
        exact k)
      obtain ⟨x33, hx33⟩ : ∃ z : Int64, z = (if x5 = x1 then x5 else (if (vv ||| ((yy &&& ((x5 <<< ((1 : Int32) &&& 0x3f).toInt64) ^^^ (-1 : Int64))) &&& (-2 : Int64))) = x5 then (vv ||| ((yy &&& ((x5 <<< ((1 : Int32) &&& 0x3f).toInt64) ^^^ (-1 : Int64))) &&& (-2 : Int64))) else (if (vv ||| ((yy &&& (((vv ||| ((yy &&& ((x5 <<< ((1 : Int32) &&& 0x3f).toInt64) ^^^ (-1 : Int64))) &&& (-2 : Int64))) <<< ((1 : Int32) &&& 0x3f).toInt64) ^^^ (-1 : Int64))) &&& (-2 : Int64))) = (vv ||| ((yy &&& ((x5 <<< ((1 : Int32) &&& 0x3f).toInt64) ^^^ (-1 : Int64))) &&& (-2 : Int64))) then (vv ||| ((yy &&& (((vv ||| ((yy &&& ((x5 <<< ((1 : Int32) &&& 0x3f).toInt64) ^^^ (-1 : Int64))) &&& (-2 : Int64))) <<< ((1 : Int32) &&& 0x3f).toInt64) ^^^ (-1 : Int64))) &&& (-2 : Int64))) else (if (vv ||| ((yy &&& (((vv ||| ((yy &&& (((vv ||| ((yy &&& ((x5 <<< ((1 : Int32) &&& 0x3f).toInt64) ^^^ (-1 : Int64))) &&& (-2 : Int64))) <<< ((1 : Int32) &&& 0x3f).toInt64) ^^^ (-1 : Int64))) &&& (-2 : Int64))) <<< ((1 : Int32) &&& 0x3f).toInt64) ^^^ (-1 : Int64))) &&& (-2 : Int64))) = (vv ||| ((yy &&& (((vv ||| ((yy &&& ((x5 <<< ((1 : Int32) &&& 0x3f).toInt64) ^^^ (-1 : Int64))) &&& (-2 : Int64))) <<< ((1 : Int32) &&& 0x3f).toInt64) ^^^ (-1 : Int64))) &&& (-2 : Int64))) then (vv ||| ((yy &&& (((vv ||| ((yy &&& (((vv ||| ((yy &&& ((x5 <<< ((1 : Int32) &&& 0x3f).toInt64) ^^^ (-1 : Int64))) &&& (-2 : Int64))) <<< ((1 : Int32) &&& 0x3f).toInt64) ^^^ (-1 : Int64))) &&& (-2 : Int64))) <<< ((1 : Int32) &&& 0x3f).toInt64) ^^^ (-1 : Int64))) &&& (-2 : Int64))) else (vv ||| ((yy &&& (((vv ||| ((yy &&& (((vv ||| ((yy &&& (((vv ||| ((yy &&& ((x5 <<< ((1 : Int32) &&& 0x3f).toInt64) ^^^ (-1 : Int64))) &&& (-2 : Int64))) <<< ((1 : Int32) &&& 0x3f).toInt64) ^^^ (-1 : Int64))) &&& (-2 : Int64))) <<< ((1 : Int32) &&& 0x3f).toInt64) ^^^ (-1 : Int64))) &&& (-2 : Int64))) <<< ((1 : Int32) &&& 0x3f).toInt64) ^^^ (-1 : Int64))) &&& (-2 : Int64))))))) := ⟨_, rfl⟩
      obtain ⟨x34, hx34⟩ : ∃ z : Int64, z = (if x5 = x1 then x1 else (if (vv ||| ((yy &&& ((x5 <<< ((1 : Int32) &&& 0x3f).toInt64) ^^^ (-1 : Int64))) &&& (-2 : Int64))) = x5 then x5 else (if (vv ||| ((yy &&& (((vv ||| ((yy &&& ((x5 <<< ((1 : Int32) &&& 0x3f).toInt64) ^^^ (-1 : Int64))) &&& (-2 : Int64))) <<< ((1 : Int32) &&& 0x3f).toInt64) ^^^ (-1 : Int64))) &&& (-2 : Int64))) = (vv ||| ((yy &&& ((x5 <<< ((1 : Int32) &&& 0x3f).toInt64) ^^^ (-1 : Int64))) &&& (-2 : Int64))) then (vv ||| ((yy &&& ((x5 <<< ((1 : Int32) &&& 0x3f).toInt64) ^^^ (-1 : Int64))) &&& (-2 : Int64))) else (if (vv ||| ((yy &&& (((vv ||| ((yy &&& (((vv ||| ((yy &&& ((x5 <<< ((1 : Int32) &&& 0x3f).toInt64) ^^^ (-1 : Int64))) &&& (-2 : Int64))) <<< ((1 : Int32) &&& 0x3f).toInt64) ^^^ (-1 : Int64))) &&& (-2 : Int64))) <<< ((1 : Int32) &&& 0x3f).toInt64) ^^^ (-1 : Int64))) &&& (-2 : Int64))) = (vv ||| ((yy &&& (((vv ||| ((yy &&& ((x5 <<< ((1 : Int32) &&& 0x3f).toInt64) ^^^ (-1 : Int64))) &&& (-2 : Int64))) <<< ((1 : Int32) &&& 0x3f).toInt64) ^^^ (-1 : Int64))) &&& (-2 : Int64))) then (vv ||| ((yy &&& (((vv ||| ((yy &&& ((x5 <<< ((1 : Int32) &&& 0x3f).toInt64) ^^^ (-1 : Int64))) &&& (-2 : Int64))) <<< ((1 : Int32) &&& 0x3f).toInt64) ^^^ (-1 : Int64))) &&& (-2 : Int64))) else (vv ||| ((yy &&& (((vv ||| ((yy &&& (((vv ||| ((yy &&& ((x5 <<< ((1 : Int32) &&& 0x3f).toInt64) ^^^ (-1 : Int64))) &&& (-2 : Int64))) <<< ((1 : Int32) &&& 0x3f).toInt64) ^^^ (-1 : Int64))) &&& (-2 : Int64))) <<< ((1 : Int32) &&& 0x3f).toInt64) ^^^ (-1 : Int64))) &&& (-2 : Int64))))))) := ⟨_, rfl⟩
      obtain ⟨T35, X35, e35, K35⟩ : ∃ T' : State, Stand p l e R s m args below meth c T' [] 0 0 ∧ T'.heap = h0 ∧ Own.To p e below B0 T' (mkF m 212 #[t0, vi i1, vi i2, vi i3, vi i4, vi i5, vl vv, .second, vl yy, .second, vl x33, .second, vl x34, .second] []) := by
        by_cases hc7 : x5 = x1
        · have K8 : Own.To p e below B0 T (mkF m 212 #[t0, vi i1, vi i2, vi i3, vi i4, vi i5, vl vv, .second, vl yy, .second, vl x5, .second, vl x1, .second] []) := fun t k => K6 t (by
            refine Own.ifNo X0 hx (D d38_209) (Jvm.Free.XT.ll_ne_f hc7) ?_
            exact k)
          exact ⟨T, X0, e0, fun t k => K8 t (by rw [hx33, if_pos hc7, hx34, if_pos hc7] at k; exact k)⟩
        · obtain ⟨x9, hx9⟩ : ∃ z : Int64, z = (vv ||| ((yy &&& ((x5 <<< ((1 : Int32) &&& 0x3f).toInt64) ^^^ (-1 : Int64))) &&& (-2 : Int64))) := ⟨_, rfl⟩
          have K10 : Own.To p e below B0 T (mkF m 209 #[t0, vi i1, vi i2, vi i3, vi i4, vi i5, vl vv, .second, vl yy, .second, vl x9, .second, vl x5, .second] [(.int (lcmpW x9 x5))]) := fun t k => K6 t (by
            subst hx9
            refine Own.ifYes X0 hx 180 (D d38_209) (Jvm.Free.XT.ll_ne_t hc7) (by decide) (by decide) ?_
            refine Own.lload X0 hx (D d38_180) rfl ?_
            refine Own.lstore X0 hx #[t0, vi i1, vi i2, vi i3, vi i4, vi i5, vl vv, .second, vl yy, .second, vl x5, .second, vl x5, .second] (D d38_182) rfl ?_
            refine Own.lload X0 hx (D d38_184) rfl ?_
            refine Own.lload X0 hx (D d38_186) rfl ?_
            refine Own.lload X0 hx (D d38_188) rfl ?_
            refine Own.iconst X0 hx 1 (D d38_190) rfl ?_
            refine Own.lshl X0 hx (D d38_191) ?_
            refine Own.ldc2J X0 hx (-1 : Int64) hZ hown (W_ hw 214 rfl) (D d38_192) ?_
            refine Own.lxor X0 hx (D d38_195) ?_
            refine Own.land X0 hx (D d38_196) ?_
            refine Own.ldc2J X0 hx (-2 : Int64) hZ hown (W_ hw 215 rfl) (D d38_197) ?_
            refine Own.land X0 hx (D d38_200) ?_
            refine Own.lor X0 hx (D d38_201) ?_
            refine Own.lstore X0 hx #[t0, vi i1, vi i2, vi i3, vi i4, vi i5, vl vv, .second, vl yy, .second, vl (vv ||| ((yy &&& ((x5 <<< ((1 : Int32) &&& 0x3f).toInt64) ^^^ (-1 : Int64))) &&& (-2 : Int64))), .second, vl x5, .second] (D d38_202) rfl ?_
            refine Own.lload X0 hx (D d38_204) rfl ?_
            refine Own.lload X0 hx (D d38_206) rfl ?_
            refine Own.lcmp X0 hx (D d38_208) ?_
            exact k)
          obtain ⟨x30, hx30⟩ : ∃ z : Int64, z = (if x9 = x5 then x9 else (if (vv ||| ((yy &&& ((x9 <<< ((1 : Int32) &&& 0x3f).toInt64) ^^^ (-1 : Int64))) &&& (-2 : Int64))) = x9 then (vv ||| ((yy &&& ((x9 <<< ((1 : Int32) &&& 0x3f).toInt64) ^^^ (-1 : Int64))) &&& (-2 : Int64))) else (if (vv ||| ((yy &&& (((vv ||| ((yy &&& ((x9 <<< ((1 : Int32) &&& 0x3f).toInt64) ^^^ (-1 : Int64))) &&& (-2 : Int64))) <<< ((1 : Int32) &&& 0x3f).toInt64) ^^^ (-1 : Int64))) &&& (-2 : Int64))) = (vv ||| ((yy &&& ((x9 <<< ((1 : Int32) &&& 0x3f).toInt64) ^^^ (-1 : Int64))) &&& (-2 : Int64))) then (vv ||| ((yy &&& (((vv ||| ((yy &&& ((x9 <<< ((1 : Int32) &&& 0x3f).toInt64) ^^^ (-1 : Int64))) &&& (-2 : Int64))) <<< ((1 : Int32) &&& 0x3f).toInt64) ^^^ (-1 : Int64))) &&& (-2 : Int64))) else (vv ||| ((yy &&& (((vv ||| ((yy &&& (((vv ||| ((yy &&& ((x9 <<< ((1 : Int32) &&& 0x3f).toInt64) ^^^ (-1 : Int64))) &&& (-2 : Int64))) <<< ((1 : Int32) &&& 0x3f).toInt64) ^^^ (-1 : Int64))) &&& (-2 : Int64))) <<< ((1 : Int32) &&& 0x3f).toInt64) ^^^ (-1 : Int64))) &&& (-2 : Int64)))))) := ⟨_, rfl⟩
          obtain ⟨x31, hx31⟩ : ∃ z : Int64, z = (if x9 = x5 then x5 else (if (vv ||| ((yy &&& ((x9 <<< ((1 : Int32) &&& 0x3f).toInt64) ^^^ (-1 : Int64))) &&& (-2 : Int64))) = x9 then x9 else (if (vv ||| ((yy &&& (((vv ||| ((yy &&& ((x9 <<< ((1 : Int32) &&& 0x3f).toInt64) ^^^ (-1 : Int64))) &&& (-2 : Int64))) <<< ((1 : Int32) &&& 0x3f).toInt64) ^^^ (-1 : Int64))) &&& (-2 : Int64))) = (vv ||| ((yy &&& ((x9 <<< ((1 : Int32) &&& 0x3f).toInt64) ^^^ (-1 : Int64))) &&& (-2 : Int64))) then (vv ||| ((yy &&& ((x9 <<< ((1 : Int32) &&& 0x3f).toInt64) ^^^ (-1 : Int64))) &&& (-2 : Int64))) else (vv ||| ((yy &&& (((vv ||| ((yy &&& ((x9 <<< ((1 : Int32) &&& 0x3f).toInt64) ^^^ (-1 : Int64))) &&& (-2 : Int64))) <<< ((1 : Int32) &&& 0x3f).toInt64) ^^^ (-1 : Int64))) &&& (-2 : Int64)))))) := ⟨_, rfl⟩
          obtain ⟨T32, X32, e32, K32⟩ : ∃ T' : State, Stand p l e R s m args below meth c T' [] 0 0 ∧ T'.heap = h0 ∧ Own.To p e below B0 T' (mkF m 212 #[t0, vi i1, vi i2, vi i3, vi i4, vi i5, vl vv, .second, vl yy, .second, vl x30, .second, vl x31, .second] []) := by
            by_cases hc11 : x9 = x5
            · have K12 : Own.To p e below B0 T (mkF m 212 #[t0, vi i1, vi i2, vi i3, vi i4, vi i5, vl vv, .second, vl yy, .second, vl x9, .second, vl x5, .second] []) := fun t k => K10 t (by
                refine Own.ifNo X0 hx (D d38_209) (Jvm.Free.XT.ll_ne_f hc11) ?_
                exact k)
              exact ⟨T, X0, e0, fun t k => K12 t (by rw [hx30, if_pos hc11, hx31, if_pos hc11] at k; exact k)⟩
            · obtain ⟨x13, hx13⟩ : ∃ z : Int64, z = (vv ||| ((yy &&& ((x9 <<< ((1 : Int32) &&& 0x3f).toInt64) ^^^ (-1 : Int64))) &&& (-2 : Int64))) := ⟨_, rfl⟩
              have K14 : Own.To p e below B0 T (mkF m 209 #[t0, vi i1, vi i2, vi i3, vi i4, vi i5, vl vv, .second, vl yy, .second, vl x13, .second, vl x9, .second] [(.int (lcmpW x13 x9))]) := fun t k => K10 t (by
                subst hx13
                refine Own.ifYes X0 hx 180 (D d38_209) (Jvm.Free.XT.ll_ne_t hc11) (by decide) (by decide) ?_
                refine Own.lload X0 hx (D d38_180) rfl ?_
                refine Own.lstore X0 hx #[t0, vi i1, vi i2, vi i3, vi i4, vi i5, vl vv, .second, vl yy, .second, vl x9, .second, vl x9, .second] (D d38_182) rfl ?_
                refine Own.lload X0 hx (D d38_184) rfl ?_
                refine Own.lload X0 hx (D d38_186) rfl ?_
                refine Own.lload X0 hx (D d38_188) rfl ?_
                refine Own.iconst X0 hx 1 (D d38_190) rfl ?_
                refine Own.lshl X0 hx (D d38_191) ?_
                refine Own.ldc2J X0 hx (-1 : Int64) hZ hown (W_ hw 214 rfl) (D d38_192) ?_
                refine Own.lxor X0 hx (D d38_195) ?_
                refine Own.land X0 hx (D d38_196) ?_
                refine Own.ldc2J X0 hx (-2 : Int64) hZ hown (W_ hw 215 rfl) (D d38_197) ?_
                refine Own.land X0 hx (D d38_200) ?_
                refine Own.lor X0 hx (D d38_201) ?_
                refine Own.lstore X0 hx #[t0, vi i1, vi i2, vi i3, vi i4, vi i5, vl vv, .second, vl yy, .second, vl (vv ||| ((yy &&& ((x9 <<< ((1 : Int32) &&& 0x3f).toInt64) ^^^ (-1 : Int64))) &&& (-2 : Int64))), .second, vl x9, .second] (D d38_202) rfl ?_
                refine Own.lload X0 hx (D d38_204) rfl ?_
                refine Own.lload X0 hx (D d38_206) rfl ?_
                refine Own.lcmp X0 hx (D d38_208) ?_
                exact k)
              obtain ⟨x27, hx27⟩ : ∃ z : Int64, z = (if x13 = x9 then x13 else (if (vv ||| ((yy &&& ((x13 <<< ((1 : Int32) &&& 0x3f).toInt64) ^^^ (-1 : Int64))) &&& (-2 : Int64))) = x13 then (vv ||| ((yy &&& ((x13 <<< ((1 : Int32) &&& 0x3f).toInt64) ^^^ (-1 : Int64))) &&& (-2 : Int64))) else (vv ||| ((yy &&& (((vv ||| ((yy &&& ((x13 <<< ((1 : Int32) &&& 0x3f).toInt64) ^^^ (-1 : Int64))) &&& (-2 : Int64))) <<< ((1 : Int32) &&& 0x3f).toInt64) ^^^ (-1 : Int64))) &&& (-2 : Int64))))) := ⟨_, rfl⟩
              obtain ⟨x28, hx28⟩ : ∃ z : Int64, z = (if x13 = x9 then x9 else (if (vv ||| ((yy &&& ((x13 <<< ((1 : Int32) &&& 0x3f).toInt64) ^^^ (-1 : Int64))) &&& (-2 : Int64))) = x13 then x13 else (vv ||| ((yy &&& ((x13 <<< ((1 : Int32) &&& 0x3f).toInt64) ^^^ (-1 : Int64))) &&& (-2 : Int64))))) := ⟨_, rfl⟩
              obtain ⟨T29, X29, e29, K29⟩ : ∃ T' : State, Stand p l e R s m args below meth c T' [] 0 0 ∧ T'.heap = h0 ∧ Own.To p e below B0 T' (mkF m 212 #[t0, vi i1, vi i2, vi i3, vi i4, vi i5, vl vv, .second, vl yy, .second, vl x27, .second, vl x28, .second] []) := by
                by_cases hc15 : x13 = x9
                · have K16 : Own.To p e below B0 T (mkF m 212 #[t0, vi i1, vi i2, vi i3, vi i4, vi i5, vl vv, .second, vl yy, .second, vl x13, .second, vl x9, .second] []) := fun t k => K14 t (by
                    refine Own.ifNo X0 hx (D d38_209) (Jvm.Free.XT.ll_ne_f hc15) ?_
                    exact k)
                  exact ⟨T, X0, e0, fun t k => K16 t (by rw [hx27, if_pos hc15, hx28, if_pos hc15] at k; exact k)⟩
                · obtain ⟨x17, hx17⟩ : ∃ z : Int64, z = (vv ||| ((yy &&& ((x13 <<< ((1 : Int32) &&& 0x3f).toInt64) ^^^ (-1 : Int64))) &&& (-2 : Int64))) := ⟨_, rfl⟩
                  have K18 : Own.To p e below B0 T (mkF m 209 #[t0, vi i1, vi i2, vi i3, vi i4, vi i5, vl vv, .second, vl yy, .second, vl x17, .second, vl x13, .second] [(.int (lcmpW x17 x13))]) := fun t k => K14 t (by
                    subst hx17
                    refine Own.ifYes X0 hx 180 (D d38_209) (Jvm.Free.XT.ll_ne_t hc15) (by decide) (by decide) ?_
                    refine Own.lload X0 hx (D d38_180) rfl ?_
                    refine Own.lstore X0 hx #[t0, vi i1, vi i2, vi i3, vi i4, vi i5, vl vv, .second, vl yy, .second, vl x13, .second, vl x13, .second] (D d38_182) rfl ?_
                    refine Own.lload X0 hx (D d38_184) rfl ?_
                    refine Own.lload X0 hx (D d38_186) rfl ?_
                    refine Own.lload X0 hx (D d38_188) rfl ?_
                    refine Own.iconst X0 hx 1 (D d38_190) rfl ?_
                    refine Own.lshl X0 hx (D d38_191) ?_
                    refine Own.ldc2J X0 hx (-1 : Int64) hZ hown (W_ hw 214 rfl) (D d38_192) ?_
                    refine Own.lxor X0 hx (D d38_195) ?_
                    refine Own.land X0 hx (D d38_196) ?_
                    refine Own.ldc2J X0 hx (-2 : Int64) hZ hown (W_ hw 215 rfl) (D d38_197) ?_
                    refine Own.land X0 hx (D d38_200) ?_
                    refine Own.lor X0 hx (D d38_201) ?_
                    refine Own.lstore X0 hx #[t0, vi i1, vi i2, vi i3, vi i4, vi i5, vl vv, .second, vl yy, .second, vl (vv ||| ((yy &&& ((x13 <<< ((1 : Int32) &&& 0x3f).toInt64) ^^^ (-1 : Int64))) &&& (-2 : Int64))), .second, vl x13, .second] (D d38_202) rfl ?_
                    refine Own.lload X0 hx (D d38_204) rfl ?_
                    refine Own.lload X0 hx (D d38_206) rfl ?_
                    refine Own.lcmp X0 hx (D d38_208) ?_
                    exact k)
                  obtain ⟨x24, hx24⟩ : ∃ z : Int64, z = (if x17 = x13 then x17 else (vv ||| ((yy &&& ((x17 <<< ((1 : Int32) &&& 0x3f).toInt64) ^^^ (-1 : Int64))) &&& (-2 : Int64)))) := ⟨_, rfl⟩
                  obtain ⟨x25, hx25⟩ : ∃ z : Int64, z = (if x17 = x13 then x13 else x17) := ⟨_, rfl⟩
                  obtain ⟨T26, X26, e26, K26⟩ : ∃ T' : State, Stand p l e R s m args below meth c T' [] 0 0 ∧ T'.heap = h0 ∧ Own.To p e below B0 T' (mkF m 212 #[t0, vi i1, vi i2, vi i3, vi i4, vi i5, vl vv, .second, vl yy, .second, vl x24, .second, vl x25, .second] []) := by
                    by_cases hc19 : x17 = x13
                    · have K20 : Own.To p e below B0 T (mkF m 212 #[t0, vi i1, vi i2, vi i3, vi i4, vi i5, vl vv, .second, vl yy, .second, vl x17, .second, vl x13, .second] []) := fun t k => K18 t (by
                        refine Own.ifNo X0 hx (D d38_209) (Jvm.Free.XT.ll_ne_f hc19) ?_
                        exact k)
                      exact ⟨T, X0, e0, fun t k => K20 t (by rw [hx24, if_pos hc19, hx25, if_pos hc19] at k; exact k)⟩
                    · obtain ⟨x21, hx21⟩ : ∃ z : Int64, z = (vv ||| ((yy &&& ((x17 <<< ((1 : Int32) &&& 0x3f).toInt64) ^^^ (-1 : Int64))) &&& (-2 : Int64))) := ⟨_, rfl⟩
                      have K22 : Own.To p e below B0 T (mkF m 209 #[t0, vi i1, vi i2, vi i3, vi i4, vi i5, vl vv, .second, vl yy, .second, vl x21, .second, vl x17, .second] [(.int (lcmpW x21 x17))]) := fun t k => K18 t (by
                        subst hx21
                        refine Own.ifYes X0 hx 180 (D d38_209) (Jvm.Free.XT.ll_ne_t hc19) (by decide) (by decide) ?_
                        refine Own.lload X0 hx (D d38_180) rfl ?_
                        refine Own.lstore X0 hx #[t0, vi i1, vi i2, vi i3, vi i4, vi i5, vl vv, .second, vl yy, .second, vl x17, .second, vl x17, .second] (D d38_182) rfl ?_
                        refine Own.lload X0 hx (D d38_184) rfl ?_
                        refine Own.lload X0 hx (D d38_186) rfl ?_
                        refine Own.lload X0 hx (D d38_188) rfl ?_
                        refine Own.iconst X0 hx 1 (D d38_190) rfl ?_
                        refine Own.lshl X0 hx (D d38_191) ?_
                        refine Own.ldc2J X0 hx (-1 : Int64) hZ hown (W_ hw 214 rfl) (D d38_192) ?_
                        refine Own.lxor X0 hx (D d38_195) ?_
                        refine Own.land X0 hx (D d38_196) ?_
                        refine Own.ldc2J X0 hx (-2 : Int64) hZ hown (W_ hw 215 rfl) (D d38_197) ?_
                        refine Own.land X0 hx (D d38_200) ?_
                        refine Own.lor X0 hx (D d38_201) ?_
                        refine Own.lstore X0 hx #[t0, vi i1, vi i2, vi i3, vi i4, vi i5, vl vv, .second, vl yy, .second, vl (vv ||| ((yy &&& ((x17 <<< ((1 : Int32) &&& 0x3f).toInt64) ^^^ (-1 : Int64))) &&& (-2 : Int64))), .second, vl x17, .second] (D d38_202) rfl ?_
                        refine Own.lload X0 hx (D d38_204) rfl ?_
                        refine Own.lload X0 hx (D d38_206) rfl ?_
                        refine Own.lcmp X0 hx (D d38_208) ?_
                        exact k)
                      have K23 : Own.To p e below B0 T (mkF m 212 #[t0, vi i1, vi i2, vi i3, vi i4, vi i5, vl vv, .second, vl yy, .second, vl x21, .second, vl x17, .second] []) := fun t k => K22 t (by
                        refine Own.ifNo X0 hx (D d38_209) (Jvm.Free.XT.ll_ne_f (by subst hx21; subst hx17; subst hx13; subst hx9; subst hx5; subst hx1; exact own_fix vv mvv yy myy : x21 = x17)) ?_
                        exact k)
                      exact ⟨T, X0, e0, fun t k => K23 t (by subst hx21; rw [hx24, if_neg hc19, hx25, if_neg hc19] at k; exact k)⟩
                  exact ⟨T26, X26, e26, fun t k => K26 t (by subst hx25 hx24 hx17; rw [hx27, if_neg hc15, hx28, if_neg hc15] at k; exact k)⟩
              exact ⟨T29, X29, e29, fun t k => K29 t (by subst hx28 hx27 hx13; rw [hx30, if_neg hc11, hx31, if_neg hc11] at k; exact k)⟩
          exact ⟨T32, X32, e32, fun t k => K32 t (by subst hx31 hx30 hx9; rw [hx33, if_neg hc7, hx34, if_neg hc7] at k; exact k)⟩
      exact ⟨T35, X35, e35, fun t k => K35 t (by subst hx34 hx33 hx5; rw [hx36, if_neg hc3, hu37, if_neg hc3, hu38, if_neg hc3] at k; exact k)⟩
  have K40 : Own.To p e below B0 T39 (mkF m 214 #[t0, vi i1, vi i2, vi i3, vi i4, vi i5, vl vv, .second, vl yy, .second, vl x36, .second, u37, u38] [(.long x36)]) := fun t k => K39 t (by
    refine Own.lload X39 hx (D d38_212) rfl ?_
    exact k)
  exact Own.finJ X39 hx (BodyLoose.notSynchronized Bd) Bd.returns (D d38_214) K40 (by decide) (by decide) ⟨by subst hx36; subst hx1; rfl, rfl, e39⟩

theorem own_k12_1 : ∀ a0 ∈ ([0, 1, 2] : List Int32), (((0 : Int32) ||| a0) &&& (12 : Int32)) = (0 : Int32) := by decide +kernel

theorem own_vv16_1 : ∀ a0 ∈ ([0, 1, 2] : List Int32), (((0 : Int64) ||| ((a0 &&& (1 : Int32)).toInt64))) ∈ own_16 := by decide +kernel

theorem own_yy16_1 : ∀ a0 ∈ ([0, 1, 2] : List Int32), ((if (((0 : Int32) ||| a0) &&& (2 : Int32)) = (0 : Int32) then (0 : Int64) else ((0 : Int64) ||| ((if a0 = (2 : Int32) then (1 : Int32) else (0 : Int32)).toInt64)))) ∈ own_16 := by decide +kernel

def own_V1 (ch0 : Int32) : Int64 := own_fin (((0 : Int64) ||| (((own_kd ch0) &&& (1 : Int32)).toInt64))) ((if (((0 : Int32) ||| (own_kd ch0)) &&& (2 : Int32)) = (0 : Int32) then (0 : Int64) else ((0 : Int64) ||| ((if ch0 = (121 : Int32) then (1 : Int32) else (0 : Int32)).toInt64))))

theorem pd_19 : parseMethodDescriptor "(C)I" = some ⟨[.char], some .int⟩ := by decide +kernel
theorem pd_20 : parseMethodDescriptor "(Z)I" = some ⟨[.boolean], some .int⟩ := by decide +kernel
theorem ef_38 (m : MethodId) (o0 : Addr) (p1 : Int32) (p2 : Int32) (p3 : Int32) (p4 : Int32) : entryFrame m #[(.ref o0), (.int p1), (.int p2), (.int p3), (.int p4)] 14 = mkF m 0 #[.val (.ref o0), .val (.int p1), .val (.int p2), .val (.int p3), .val (.int p4), .unset, .unset, .unset, .unset, .unset, .unset, .unset, .unset, .unset] [] := by first | (simp [entryFrame, mkF, argsToLocals, Value.category]; done) | rfl
set_option maxRecDepth 65536 in
set_option maxHeartbeats 40000000 in
theorem cVW1 (l : Launch) (Z : State) (a0 : Array Value) (hw : ∀ d ∈ tables_1, d.before a0 Z = true) (o0 : Addr) (wK : Addr) (ch0 : Int32) (h0 : Heap) (SK : Sta Z h0 "com/example/stemshear/stemshear/Condition" "KINDS" "[B" (.ref wK)) (KD : own_KD Z h0 wK) (A0 : Own.CA Z h0 o0 .char [ch0]) (hch0 : own_let ch0) : Own.Con l Z (⟨"com/example/stemshear/stemshear/Condition", "vowels", "([CIIIZ)J"⟩ : MethodName) prog_10_method_23_code 14 (some .long) ({ frames := 2, cells := 0, slots := 0, locals := 26 } : Room) #[(.ref o0), (.int 0), (.int 1), (.int 0), (.int 0)] h0 (Own.Pure (.long (own_V1 ch0)) h0) := by
  intro ws
  refine MetFree.of_bodySF (plainFor_of_name pn_5) hisR ?_
  intro p e s m args below meth c s₁ Bd hml0 hP hK
  obtain ⟨rfl, hZ, hh⟩ := hP
  have hx := Bd.exec
  have hby := Bd.bytes
  have D := fun {n : Nat} {i} (d : decode prog_10_method_23_code n = .ok i) => hb hby d
  have hml : c.maxLocals = 14 := hml0
  have hown : s.vm.findClass "com/example/stemshear/stemshear/Condition" = some m.cls := findClass_of_methodNamed Bd.named
  have hnm := (name_of_methodNamed Bd.named Bd.method).1
  have X0 : Stand p l e ({ frames := 2, cells := 0, slots := 0, locals := 26 } : Room) s m #[(.ref o0), (.int 0), (.int 1), (.int 0), (.int 0)] below meth c s₁ [] 0 0 := Stand.of_body Bd
  have e0 : s₁.heap = h0 := by rw [← hh, Bd.state]; rfl
  have K0 : ∀ t, Steps p.tables e below (s₁.setTop (mkF m 0 #[vr o0, vi 0, vi 1, vi 0, vi 0, .unset, .unset, .unset, .unset, .unset, .unset, .unset, .unset, .unset] [])) t → Steps p.tables e below (s₁.setTop (entryFrame m #[(.ref o0), (.int 0), (.int 1), (.int 0), (.int 0)] 14)) t := fun t k => castTop (ef_38 m o0 (0 : Int32) (1 : Int32) (0 : Int32) (0 : Int32)) k
  generalize s₁.setTop (entryFrame m #[(.ref o0), (.int 0), (.int 1), (.int 0), (.int 0)] 14) = B0 at K0 ⊢
  show Own.Fin p e below B0 s (({ frames := 2, cells := 0, slots := 0, locals := 26 } : Room)).cells (({ frames := 2, cells := 0, slots := 0, locals := 26 } : Room)).slots (Own.Pure (.long (own_V1 ch0)) h0)
  have K1 : Own.To p e below B0 s₁ (mkF m 16 #[vr o0, vi 0, vi 1, vi 0, vi 0, vi 0, vl 0, .second, vi 0, .unset, .unset, .unset, .unset, .unset] [(.int 0), (.int 0)]) := fun t k => K0 t (by
    refine Own.iconst X0 hx 0 (D d38_0) rfl ?_
    refine Own.istore X0 hx #[vr o0, vi 0, vi 1, vi 0, vi 0, vi 0, .unset, .unset, .unset, .unset, .unset, .unset, .unset, .unset] (D d38_1) rfl ?_
    refine Own.lconst X0 hx (0 : Int64) (D d38_3) rfl ?_
    refine Own.lstore X0 hx #[vr o0, vi 0, vi 1, vi 0, vi 0, vi 0, vl 0, .second, .unset, .unset, .unset, .unset, .unset, .unset] (D d38_4) rfl ?_
    refine Own.iloadN X0 hx (D d38_6) rfl ?_
    refine Own.iloadN X0 hx (D d38_7) rfl ?_
    refine Own.iadd X0 hx (D d38_8) ?_
    refine Own.iconst X0 hx 1 (D d38_9) rfl ?_
    refine Own.isub X0 hx (D d38_10) ?_
    refine Own.istore X0 hx #[vr o0, vi 0, vi 1, vi 0, vi 0, vi 0, vl 0, .second, vi 0, .unset, .unset, .unset, .unset, .unset] (D d38_11) rfl ?_
    refine Own.iload X0 hx (D d38_13) rfl ?_
    refine Own.iloadN X0 hx (D d38_15) rfl ?_
    exact k)
  have K2 : Own.To p e below B0 s₁ (mkF m 22 #[vr o0, vi 0, vi 1, vi 0, vi 0, vi 0, vl 0, .second, vi 0, .unset, .unset, .unset, .unset, .unset] [(.int 0), (.ref o0)]) := fun t k => K1 t (by
    refine Own.icmpNo X0 hx (D d38_16) (flt (by decide : ¬ ((0 : Int32) < (0 : Int32)))).1 ?_
    refine Own.aloadN X0 hx (D d38_19) rfl rfl ?_
    refine Own.iload X0 hx (D d38_20) rfl ?_
    exact k)
  have K3 : Own.To p e below B0 s₁ (mkF m 23 #[vr o0, vi 0, vi 1, vi 0, vi 0, vi 0, vl 0, .second, vi 0, .unset, .unset, .unset, .unset, .unset] [(.int ch0)]) := fun t k => K2 t (by
    refine Own.cal X0 hx hZ e0 A0 ch0 (by decide) (show (0 : Int32).toNatClampNeg < 1 by decide) rfl (D d38_22) ?_
    exact k)
  obtain ⟨T4, X4, e4, st4⟩ := Own.callP (Ls := #[vr o0, vi 0, vi 1, vi 0, vi 0, vi 0, vl 0, .second, vi 0, .unset, .unset, .unset, .unset, .unset]) X0 hx hZ e0 [(.int ch0)] [] (cKI l Z a0 hw ch0 wK h0 SK KD hch0) hown (W_ hw 205 rfl) (W_ hw 206 rfl) (W_ hw 41 rfl) (W_ hw 207 rfl) (by decide) 0 rfl rfl (by decide) (by decide) (by decide) (by decide) (szOf hml rfl) (lenOf pd_19 rfl) rfl (Nat.le_of_eq rfl) (D d38_23)
  have K5 := fun t k => K3 t (st4 t k)
  obtain ⟨x6, hx6⟩ : ∃ z : Int64, z = ((0 : Int64) ||| (((own_kd ch0) &&& (1 : Int32)).toInt64)) := ⟨_, rfl⟩
  obtain ⟨x7, hx7⟩ : ∃ z : Int32, z = ((0 : Int32) ||| (own_kd ch0)) := ⟨_, rfl⟩
  have K8 : Own.To p e below B0 T4 (mkF m 16 #[vr o0, vi 0, vi 1, vi 0, vi 0, vi x7, vl x6, .second, vi (-1), vi (own_kd ch0), .unset, .unset, .unset, .unset] [(.int 0), (.int (-1))]) := fun t k => K5 t (by
    subst hx7 hx6
    refine Own.istore X4 hx #[vr o0, vi 0, vi 1, vi 0, vi 0, vi 0, vl 0, .second, vi 0, vi (own_kd ch0), .unset, .unset, .unset, .unset] (D d38_26) rfl ?_
    refine Own.lload X4 hx (D d38_28) rfl ?_
    refine Own.iconst X4 hx 1 (D d38_30) rfl ?_
    refine Own.lshl X4 hx (D d38_31) ?_
    refine Own.iload X4 hx (D d38_32) rfl ?_
    refine Own.iconst X4 hx 1 (D d38_34) rfl ?_
    refine Own.iand X4 hx (D d38_35) ?_
    refine Own.i2l X4 hx (D d38_36) ?_
    refine Own.lor X4 hx (D d38_37) ?_
    refine Own.lstore X4 hx #[vr o0, vi 0, vi 1, vi 0, vi 0, vi 0, vl ((0 : Int64) ||| (((own_kd ch0) &&& (1 : Int32)).toInt64)), .second, vi 0, vi (own_kd ch0), .unset, .unset, .unset, .unset] (D d38_38) rfl ?_
    refine Own.iload X4 hx (D d38_40) rfl ?_
    refine Own.iload X4 hx (D d38_42) rfl ?_
    refine Own.ior X4 hx (D d38_44) ?_
    refine Own.istore X4 hx #[vr o0, vi 0, vi 1, vi 0, vi 0, vi ((0 : Int32) ||| (own_kd ch0)), vl ((0 : Int64) ||| (((own_kd ch0) &&& (1 : Int32)).toInt64)), .second, vi 0, vi (own_kd ch0), .unset, .unset, .unset, .unset] (D d38_45) rfl ?_
    refine Own.iinc X4 hx (-1 : Int32) #[vr o0, vi 0, vi 1, vi 0, vi 0, vi ((0 : Int32) ||| (own_kd ch0)), vl ((0 : Int64) ||| (((own_kd ch0) &&& (1 : Int32)).toInt64)), .second, vi (-1), vi (own_kd ch0), .unset, .unset, .unset, .unset] (D d38_47) rfl rfl rfl ?_
    refine Own.goto X4 hx 13 (D d38_50) (by decide) (by decide) ?_
    refine Own.iload X4 hx (D d38_13) rfl ?_
    refine Own.iloadN X4 hx (D d38_15) rfl ?_
    exact k)
  have K9 : Own.To p e below B0 T4 (mkF m 57 #[vr o0, vi 0, vi 1, vi 0, vi 0, vi x7, vl x6, .second, vi (-1), vi (own_kd ch0), .unset, .unset, .unset, .unset] [(.int 0), (.int x7)]) := fun t k => K8 t (by
    refine Own.icmpYes X4 hx 53 (D d38_16) (tlt (by decide : (-1 : Int32) < (0 : Int32))).1 (by decide) (by decide) ?_
    refine Own.iload X4 hx (D d38_53) rfl ?_
    refine Own.iload X4 hx (D d38_55) rfl ?_
    exact k)
  obtain ⟨T10, X10, e10, st10⟩ := Own.callP (Ls := #[vr o0, vi 0, vi 1, vi 0, vi 0, vi x7, vl x6, .second, vi (-1), vi (own_kd ch0), .unset, .unset, .unset, .unset]) X4 hx hZ e4 [(.int 0)] [(.int x7)] (cNIW l Z a0 hw h0) hown (W_ hw 211 rfl) (W_ hw 212 rfl) (W_ hw 41 rfl) (W_ hw 213 rfl) (by decide) 1 rfl rfl (by decide) (by decide) (by decide) (by decide) (szOf hml rfl) (lenOf pd_20 rfl) rfl (Nat.le_of_eq rfl) (D d38_57)
  have K11 := fun t k => K9 t (st10 t k)
  have K12 : Own.To p e below B0 T10 (mkF m 61 #[vr o0, vi 0, vi 1, vi 0, vi 0, vi x7, vl x6, .second, vi (-1), vi (own_kd ch0), .unset, .unset, .unset, .unset] [(.int (x7 &&& (12 : Int32)))]) := fun t k => K11 t (by
    refine Own.iand X10 hx (D d38_60) ?_
    exact k)
  have K13 : Own.To p e below B0 T10 (mkF m 75 #[vr o0, vi 0, vi 1, vi 0, vi 0, vi x7, vl x6, .second, vl 0, .second, .unset, .unset, .unset, .unset] [(.int (x7 &&& (2 : Int32)))]) := fun t k => K12 t (by
    refine Own.ifYes X10 hx 68 (D d38_61) ((if0 _ _).trans (teq (by subst hx7; subst hx6; exact own_k12_1 _ (own_k3 ch0) : (x7 &&& (12 : Int32)) = (0 : Int32))).1) (by decide) (by decide) ?_
    refine Own.lconst X10 hx (0 : Int64) (D d38_68) rfl ?_
    refine Own.lstore X10 hx #[vr o0, vi 0, vi 1, vi 0, vi 0, vi x7, vl x6, .second, vl 0, .second, .unset, .unset, .unset, .unset] (D d38_69) rfl ?_
    refine Own.iload X10 hx (D d38_71) rfl ?_
    refine Own.iconst X10 hx 2 (D d38_73) rfl ?_
    refine Own.iand X10 hx (D d38_74) ?_
    exact k)
  obtain ⟨x27, hx27⟩ : ∃ z : Int64, z = (if (x7 &&& (2 : Int32)) = (0 : Int32) then (0 : Int64) else ((0 : Int64) ||| ((if ch0 = (121 : Int32) then (1 : Int32) else (0 : Int32)).toInt64))) := ⟨_, rfl⟩
  obtain ⟨u28, hu28⟩ : ∃ z : Slot, z = (if (x7 &&& (2 : Int32)) = (0 : Int32) then (.unset : Slot) else (vi (-1) : Slot)) := ⟨_, rfl⟩
  have ou28 : One u28 := by rw [hu28]; split; exact One.u; exact (One.val rfl)
  obtain ⟨T29, X29, e29, K29⟩ : ∃ T' : State, Stand p l e ({ frames := 2, cells := 0, slots := 0, locals := 26 } : Room) s m #[(.ref o0), (.int 0), (.int 1), (.int 0), (.int 0)] below meth c T' [] 0 0 ∧ T'.heap = h0 ∧ Own.To p e below B0 T' (mkF m 119 #[vr o0, vi 0, vi 1, vi 0, vi 0, vi x7, vl x6, .second, vl x27, .second, u28, .unset, .unset, .unset] []) := by
    by_cases hc14 : (x7 &&& (2 : Int32)) = (0 : Int32)
    · have K15 : Own.To p e below B0 T10 (mkF m 119 #[vr o0, vi 0, vi 1, vi 0, vi 0, vi x7, vl x6, .second, vl 0, .second, .unset, .unset, .unset, .unset] []) := fun t k => K13 t (by
        refine Own.ifYes X10 hx 119 (D d38_75) ((if0 _ _).trans (teq hc14).1) (by decide) (by decide) ?_
        exact k)
      exact ⟨T10, X10, e10, fun t k => K15 t (by rw [hx27, if_pos hc14, hu28, if_pos hc14] at k; exact k)⟩
    · have K16 : Own.To p e below B0 T10 (mkF m 88 #[vr o0, vi 0, vi 1, vi 0, vi 0, vi x7, vl x6, .second, vl 0, .second, vi 0, .unset, .unset, .unset] [(.int 0), (.int 0)]) := fun t k => K13 t (by
        refine Own.ifNo X10 hx (D d38_75) ((if0 _ _).trans (feq hc14).1) ?_
        refine Own.iloadN X10 hx (D d38_78) rfl ?_
        refine Own.iloadN X10 hx (D d38_79) rfl ?_
        refine Own.iadd X10 hx (D d38_80) ?_
        refine Own.iconst X10 hx 1 (D d38_81) rfl ?_
        refine Own.isub X10 hx (D d38_82) ?_
        refine Own.istore X10 hx #[vr o0, vi 0, vi 1, vi 0, vi 0, vi x7, vl x6, .second, vl 0, .second, vi 0, .unset, .unset, .unset] (D d38_83) rfl ?_
        refine Own.iload X10 hx (D d38_85) rfl ?_
        refine Own.iloadN X10 hx (D d38_87) rfl ?_
        exact k)
      have K17 : Own.To p e below B0 T10 (mkF m 98 #[vr o0, vi 0, vi 1, vi 0, vi 0, vi x7, vl x6, .second, vl 0, .second, vi 0, .unset, .unset, .unset] [(.int 0), (.ref o0), (.long 0)]) := fun t k => K16 t (by
        refine Own.icmpNo X10 hx (D d38_88) (flt (by decide : ¬ ((0 : Int32) < (0 : Int32)))).1 ?_
        refine Own.lload X10 hx (D d38_91) rfl ?_
        refine Own.iconst X10 hx 1 (D d38_93) rfl ?_
        refine Own.lshl X10 hx (D d38_94) ?_
        refine Own.aloadN X10 hx (D d38_95) rfl rfl ?_
        refine Own.iload X10 hx (D d38_96) rfl ?_
        exact k)
      have K18 : Own.To p e below B0 T10 (mkF m 101 #[vr o0, vi 0, vi 1, vi 0, vi 0, vi x7, vl x6, .second, vl 0, .second, vi 0, .unset, .unset, .unset] [(.int 121), (.int ch0), (.long 0)]) := fun t k => K17 t (by
        refine Own.cal X10 hx hZ e10 A0 ch0 (by decide) (show (0 : Int32).toNatClampNeg < 1 by decide) rfl (D d38_98) ?_
        refine Own.bipush X10 hx 121 (D d38_99) rfl ?_
        exact k)
      obtain ⟨x22, hx22⟩ : ∃ z : Int32, z = (if ch0 = (121 : Int32) then (1 : Int32) else (0 : Int32)) := ⟨_, rfl⟩
      obtain ⟨T23, X23, e23, K23⟩ : ∃ T' : State, Stand p l e ({ frames := 2, cells := 0, slots := 0, locals := 26 } : Room) s m #[(.ref o0), (.int 0), (.int 1), (.int 0), (.int 0)] below meth c T' [] 0 0 ∧ T'.heap = h0 ∧ Own.To p e below B0 T' (mkF m 109 #[vr o0, vi 0, vi 1, vi 0, vi 0, vi x7, vl x6, .second, vl 0, .second, vi 0, .unset, .unset, .unset] [(.int x22), (.long 0)]) := by
        by_cases hc19 : ch0 = (121 : Int32)
        · have K20 : Own.To p e below B0 T10 (mkF m 109 #[vr o0, vi 0, vi 1, vi 0, vi 0, vi x7, vl x6, .second, vl 0, .second, vi 0, .unset, .unset, .unset] [(.int 1), (.long 0)]) := fun t k => K18 t (by
            refine Own.icmpNo X10 hx (D d38_101) (teq hc19).2 ?_
            refine Own.iconst X10 hx 1 (D d38_104) rfl ?_
            refine Own.goto X10 hx 109 (D d38_105) (by decide) (by decide) ?_
            exact k)
          exact ⟨T10, X10, e10, fun t k => K20 t (by rw [hx22, if_pos hc19] at k; exact k)⟩
        · have K21 : Own.To p e below B0 T10 (mkF m 109 #[vr o0, vi 0, vi 1, vi 0, vi 0, vi x7, vl x6, .second, vl 0, .second, vi 0, .unset, .unset, .unset] [(.int 0), (.long 0)]) := fun t k => K18 t (by
            refine Own.icmpYes X10 hx 108 (D d38_101) (feq hc19).2 (by decide) (by decide) ?_
            refine Own.iconst X10 hx 0 (D d38_108) rfl ?_
            exact k)
          exact ⟨T10, X10, e10, fun t k => K21 t (by rw [hx22, if_neg hc19] at k; exact k)⟩
      obtain ⟨x24, hx24⟩ : ∃ z : Int64, z = ((0 : Int64) ||| (x22.toInt64)) := ⟨_, rfl⟩
      have K25 : Own.To p e below B0 T23 (mkF m 88 #[vr o0, vi 0, vi 1, vi 0, vi 0, vi x7, vl x6, .second, vl x24, .second, vi (-1), .unset, .unset, .unset] [(.int 0), (.int (-1))]) := fun t k => K23 t (by
        subst hx24
        refine Own.i2l X23 hx (D d38_109) ?_
        refine Own.lor X23 hx (D d38_110) ?_
        refine Own.lstore X23 hx #[vr o0, vi 0, vi 1, vi 0, vi 0, vi x7, vl x6, .second, vl ((0 : Int64) ||| (x22.toInt64)), .second, vi 0, .unset, .unset, .unset] (D d38_111) rfl ?_
        refine Own.iinc X23 hx (-1 : Int32) #[vr o0, vi 0, vi 1, vi 0, vi 0, vi x7, vl x6, .second, vl ((0 : Int64) ||| (x22.toInt64)), .second, vi (-1), .unset, .unset, .unset] (D d38_113) rfl rfl rfl ?_
        refine Own.goto X23 hx 85 (D d38_116) (by decide) (by decide) ?_
        refine Own.iload X23 hx (D d38_85) rfl ?_
        refine Own.iloadN X23 hx (D d38_87) rfl ?_
        exact k)
      have K26 : Own.To p e below B0 T23 (mkF m 119 #[vr o0, vi 0, vi 1, vi 0, vi 0, vi x7, vl x6, .second, vl x24, .second, vi (-1), .unset, .unset, .unset] []) := fun t k => K25 t (by
        refine Own.icmpYes X23 hx 119 (D d38_88) (tlt (by decide : (-1 : Int32) < (0 : Int32))).1 (by decide) (by decide) ?_
        exact k)
      exact ⟨T23, X23, e23, fun t k => K26 t (by subst hx24 hx22; rw [hx27, if_neg hc14, hu28, if_neg hc14] at k; exact k)⟩
  have K30 : Own.To p e below B0 T29 (mkF m 120 #[vr o0, vi 0, vi 1, vi 0, vi 0, vi x7, vl x6, .second, vl x27, .second, u28, .unset, .unset, .unset] [(.int 0)]) := fun t k => K29 t (by
    refine Own.iloadN X29 hx (D d38_119) rfl ?_
    exact k)
  have K31 : Own.To p e below B0 T29 (mkF m 148 #[vr o0, vi 0, vi 1, vi 0, vi 0, vi x7, vl x6, .second, vl x27, .second, u28, .unset, .unset, .unset] []) := fun t k => K30 t (by
    refine Own.ifYes X29 hx 148 (D d38_120) ((if0 _ _).trans (teq (by decide : (0 : Int32) = (0 : Int32))).1) (by decide) (by decide) ?_
    exact k)
  have mvv : x6 ∈ own_16 := by subst hx27; subst hx7; subst hx6; exact own_vv16_1 _ (own_k3 ch0)
  have myy : x27 ∈ own_16 := by subst hx27; subst hx7; subst hx6; rw [own_y2 ch0]; exact own_yy16_1 _ (own_k3 ch0)
  have hV : own_fin x6 x27 = own_V1 ch0 := by subst hx27; subst hx7; subst hx6; rfl
  rw [← hV]
  exact cVWt hw Bd hx hby hml hZ hown X29 e29 ou28 mvv myy K31

theorem own_V16_1 (ch0 : Int32) : (((0 : Int64) ||| (((own_kd ch0) &&& (1 : Int32)).toInt64))) ∈ own_16 ∧ ((if (((0 : Int32) ||| (own_kd ch0)) &&& (2 : Int32)) = (0 : Int32) then (0 : Int64) else ((0 : Int64) ||| ((if ch0 = (121 : Int32) then (1 : Int32) else (0 : Int32)).toInt64)))) ∈ own_16 := ⟨own_vv16_1 _ (own_k3 ch0), by rw [own_y2 ch0]; exact own_yy16_1 _ (own_k3 ch0)⟩
theorem own_Vnn1 (ch0 : Int32) : ¬ own_V1 ch0 < 0 := (own_finnn _ (own_V16_1 ch0).1 _ (own_V16_1 ch0).2).1

theorem own_k12_2 : ∀ a0 ∈ ([0, 1, 2] : List Int32), ∀ a1 ∈ ([0, 1, 2] : List Int32), ((((0 : Int32) ||| a1) ||| a0) &&& (12 : Int32)) = (0 : Int32) := by decide +kernel

theorem own_vv16_2 : ∀ a0 ∈ ([0, 1, 2] : List Int32), ∀ a1 ∈ ([0, 1, 2] : List Int32), (((((0 : Int64) ||| ((a1 &&& (1 : Int32)).toInt64)) <<< ((1 : Int32) &&& 0x3f).toInt64) ||| ((a0 &&& (1 : Int32)).toInt64))) ∈ own_16 := by decide +kernel

theorem own_yy16_2 : ∀ a0 ∈ ([0, 1, 2] : List Int32), ∀ a1 ∈ ([0, 1, 2] : List Int32), ((if ((((0 : Int32) ||| a1) ||| a0) &&& (2 : Int32)) = (0 : Int32) then (0 : Int64) else ((((0 : Int64) ||| ((if a1 = (2 : Int32) then (1 : Int32) else (0 : Int32)).toInt64)) <<< ((1 : Int32) &&& 0x3f).toInt64) ||| ((if a0 = (2 : Int32) then (1 : Int32) else (0 : Int32)).toInt64)))) ∈ own_16 := by decide +kernel

def own_V2 (ch0 ch1 : Int32) : Int64 := own_fin (((((0 : Int64) ||| (((own_kd ch1) &&& (1 : Int32)).toInt64)) <<< ((1 : Int32) &&& 0x3f).toInt64) ||| (((own_kd ch0) &&& (1 : Int32)).toInt64))) ((if ((((0 : Int32) ||| (own_kd ch1)) ||| (own_kd ch0)) &&& (2 : Int32)) = (0 : Int32) then (0 : Int64) else ((((0 : Int64) ||| ((if ch1 = (121 : Int32) then (1 : Int32) else (0 : Int32)).toInt64)) <<< ((1 : Int32) &&& 0x3f).toInt64) ||| ((if ch0 = (121 : Int32) then (1 : Int32) else (0 : Int32)).toInt64))))

set_option maxRecDepth 65536 in
set_option maxHeartbeats 40000000 in
theorem cVW2 (l : Launch) (Z : State) (a0 : Array Value) (hw : ∀ d ∈ tables_1, d.before a0 Z = true) (o0 : Addr) (wK : Addr) (ch0 : Int32) (ch1 : Int32) (h0 : Heap) (SK : Sta Z h0 "com/example/stemshear/stemshear/Condition" "KINDS" "[B" (.ref wK)) (KD : own_KD Z h0 wK) (A0 : Own.CA Z h0 o0 .char [ch0, ch1]) (hch0 : own_let ch0) (hch1 : own_let ch1) : Own.Con l Z (⟨"com/example/stemshear/stemshear/Condition", "vowels", "([CIIIZ)J"⟩ : MethodName) prog_10_method_23_code 14 (some .long) ({ frames := 2, cells := 0, slots := 0, locals := 26 } : Room) #[(.ref o0), (.int 0), (.int 2), (.int 0), (.int 0)] h0 (Own.Pure (.long (own_V2 ch0 ch1)) h0) := by
  intro ws
  refine MetFree.of_bodySF (plainFor_of_name pn_5) hisR ?_
  intro p e s m args below meth c s₁ Bd hml0 hP hK
  obtain ⟨rfl, hZ, hh⟩ := hP
  have hx := Bd.exec
  have hby := Bd.bytes
  have D := fun {n : Nat} {i} (d : decode prog_10_method_23_code n = .ok i) => hb hby d
  have hml : c.maxLocals = 14 := hml0
  have hown : s.vm.findClass "com/example/stemshear/stemshear/Condition" = some m.cls := findClass_of_methodNamed Bd.named
  have hnm := (name_of_methodNamed Bd.named Bd.method).1
  have X0 : Stand p l e ({ frames := 2, cells := 0, slots := 0, locals := 26 } : Room) s m #[(.ref o0), (.int 0), (.int 2), (.int 0), (.int 0)] below meth c s₁ [] 0 0 := Stand.of_body Bd
  have e0 : s₁.heap = h0 := by rw [← hh, Bd.state]; rfl
  have K0 : ∀ t, Steps p.tables e below (s₁.setTop (mkF m 0 #[vr o0, vi 0, vi 2, vi 0, vi 0, .unset, .unset, .unset, .unset, .unset, .unset, .unset, .unset, .unset] [])) t → Steps p.tables e below (s₁.setTop (entryFrame m #[(.ref o0), (.int 0), (.int 2), (.int 0), (.int 0)] 14)) t := fun t k => castTop (ef_38 m o0 (0 : Int32) (2 : Int32) (0 : Int32) (0 : Int32)) k
  generalize s₁.setTop (entryFrame m #[(.ref o0), (.int 0), (.int 2), (.int 0), (.int 0)] 14) = B0 at K0 ⊢
  show Own.Fin p e below B0 s (({ frames := 2, cells := 0, slots := 0, locals := 26 } : Room)).cells (({ frames := 2, cells := 0, slots := 0, locals := 26 } : Room)).slots (Own.Pure (.long (own_V2 ch0 ch1)) h0)
  have K1 : Own.To p e below B0 s₁ (mkF m 16 #[vr o0, vi 0, vi 2, vi 0, vi 0, vi 0, vl 0, .second, vi 1, .unset, .unset, .unset, .unset, .unset] [(.int 0), (.int 1)]) := fun t k => K0 t (by
    refine Own.iconst X0 hx 0 (D d38_0) rfl ?_
    refine Own.istore X0 hx #[vr o0, vi 0, vi 2, vi 0, vi 0, vi 0, .unset, .unset, .unset, .unset, .unset, .unset, .unset, .unset] (D d38_1) rfl ?_
    refine Own.lconst X0 hx (0 : Int64) (D d38_3) rfl ?_
    refine Own.lstore X0 hx #[vr o0, vi 0, vi 2, vi 0, vi 0, vi 0, vl 0, .second, .unset, .unset, .unset, .unset, .unset, .unset] (D d38_4) rfl ?_
    refine Own.iloadN X0 hx (D d38_6) rfl ?_
    refine Own.iloadN X0 hx (D d38_7) rfl ?_
    refine Own.iadd X0 hx (D d38_8) ?_
    refine Own.iconst X0 hx 1 (D d38_9) rfl ?_
    refine Own.isub X0 hx (D d38_10) ?_
    refine Own.istore X0 hx #[vr o0, vi 0, vi 2, vi 0, vi 0, vi 0, vl 0, .second, vi 1, .unset, .unset, .unset, .unset, .unset] (D d38_11) rfl ?_
    refine Own.iload X0 hx (D d38_13) rfl ?_
    refine Own.iloadN X0 hx (D d38_15) rfl ?_
    exact k)
  have K2 : Own.To p e below B0 s₁ (mkF m 22 #[vr o0, vi 0, vi 2, vi 0, vi 0, vi 0, vl 0, .second, vi 1, .unset, .unset, .unset, .unset, .unset] [(.int 1), (.ref o0)]) := fun t k => K1 t (by
    refine Own.icmpNo X0 hx (D d38_16) (flt (by decide : ¬ ((1 : Int32) < (0 : Int32)))).1 ?_
    refine Own.aloadN X0 hx (D d38_19) rfl rfl ?_
    refine Own.iload X0 hx (D d38_20) rfl ?_
    exact k)
  have K3 : Own.To p e below B0 s₁ (mkF m 23 #[vr o0, vi 0, vi 2, vi 0, vi 0, vi 0, vl 0, .second, vi 1, .unset, .unset, .unset, .unset, .unset] [(.int ch1)]) := fun t k => K2 t (by
    refine Own.cal X0 hx hZ e0 A0 ch1 (by decide) (show (1 : Int32).toNatClampNeg < 2 by decide) rfl (D d38_22) ?_
    exact k)
  obtain ⟨T4, X4, e4, st4⟩ := Own.callP (Ls := #[vr o0, vi 0, vi 2, vi 0, vi 0, vi 0, vl 0, .second, vi 1, .unset, .unset, .unset, .unset, .unset]) X0 hx hZ e0 [(.int ch1)] [] (cKI l Z a0 hw ch1 wK h0 SK KD hch1) hown (W_ hw 205 rfl) (W_ hw 206 rfl) (W_ hw 41 rfl) (W_ hw 207 rfl) (by decide) 0 rfl rfl (by decide) (by decide) (by decide) (by decide) (szOf hml rfl) (lenOf pd_19 rfl) rfl (Nat.le_of_eq rfl) (D d38_23)
  have K5 := fun t k => K3 t (st4 t k)
  obtain ⟨x6, hx6⟩ : ∃ z : Int64, z = ((0 : Int64) ||| (((own_kd ch1) &&& (1 : Int32)).toInt64)) := ⟨_, rfl⟩
  obtain ⟨x7, hx7⟩ : ∃ z : Int32, z = ((0 : Int32) ||| (own_kd ch1)) := ⟨_, rfl⟩
  have K8 : Own.To p e below B0 T4 (mkF m 16 #[vr o0, vi 0, vi 2, vi 0, vi 0, vi x7, vl x6, .second, vi 0, vi (own_kd ch1), .unset, .unset, .unset, .unset] [(.int 0), (.int 0)]) := fun t k => K5 t (by
    subst hx7 hx6
    refine Own.istore X4 hx #[vr o0, vi 0, vi 2, vi 0, vi 0, vi 0, vl 0, .second, vi 1, vi (own_kd ch1), .unset, .unset, .unset, .unset] (D d38_26) rfl ?_
    refine Own.lload X4 hx (D d38_28) rfl ?_
    refine Own.iconst X4 hx 1 (D d38_30) rfl ?_
    refine Own.lshl X4 hx (D d38_31) ?_
    refine Own.iload X4 hx (D d38_32) rfl ?_
    refine Own.iconst X4 hx 1 (D d38_34) rfl ?_
    refine Own.iand X4 hx (D d38_35) ?_
    refine Own.i2l X4 hx (D d38_36) ?_
    refine Own.lor X4 hx (D d38_37) ?_
    refine Own.lstore X4 hx #[vr o0, vi 0, vi 2, vi 0, vi 0, vi 0, vl ((0 : Int64) ||| (((own_kd ch1) &&& (1 : Int32)).toInt64)), .second, vi 1, vi (own_kd ch1), .unset, .unset, .unset, .unset] (D d38_38) rfl ?_
    refine Own.iload X4 hx (D d38_40) rfl ?_
    refine Own.iload X4 hx (D d38_42) rfl ?_
    refine Own.ior X4 hx (D d38_44) ?_
    refine Own.istore X4 hx #[vr o0, vi 0, vi 2, vi 0, vi 0, vi ((0 : Int32) ||| (own_kd ch1)), vl ((0 : Int64) ||| (((own_kd ch1) &&& (1 : Int32)).toInt64)), .second, vi 1, vi (own_kd ch1), .unset, .unset, .unset, .unset] (D d38_45) rfl ?_
    refine Own.iinc X4 hx (0 : Int32) #[vr o0, vi 0, vi 2, vi 0, vi 0, vi ((0 : Int32) ||| (own_kd ch1)), vl ((0 : Int64) ||| (((own_kd ch1) &&& (1 : Int32)).toInt64)), .second, vi 0, vi (own_kd ch1), .unset, .unset, .unset, .unset] (D d38_47) rfl rfl rfl ?_
    refine Own.goto X4 hx 13 (D d38_50) (by decide) (by decide) ?_
    refine Own.iload X4 hx (D d38_13) rfl ?_
    refine Own.iloadN X4 hx (D d38_15) rfl ?_
    exact k)
  have K9 : Own.To p e below B0 T4 (mkF m 22 #[vr o0, vi 0, vi 2, vi 0, vi 0, vi x7, vl x6, .second, vi 0, vi (own_kd ch1), .unset, .unset, .unset, .unset] [(.int 0), (.ref o0)]) := fun t k => K8 t (by
    refine Own.icmpNo X4 hx (D d38_16) (flt (by decide : ¬ ((0 : Int32) < (0 : Int32)))).1 ?_
    refine Own.aloadN X4 hx (D d38_19) rfl rfl ?_
    refine Own.iload X4 hx (D d38_20) rfl ?_
    exact k)
  have K10 : Own.To p e below B0 T4 (mkF m 23 #[vr o0, vi 0, vi 2, vi 0, vi 0, vi x7, vl x6, .second, vi 0, vi (own_kd ch1), .unset, .unset, .unset, .unset] [(.int ch0)]) := fun t k => K9 t (by
    refine Own.cal X4 hx hZ e4 A0 ch0 (by decide) (show (0 : Int32).toNatClampNeg < 2 by decide) rfl (D d38_22) ?_
    exact k)
  obtain ⟨T11, X11, e11, st11⟩ := Own.callP (Ls := #[vr o0, vi 0, vi 2, vi 0, vi 0, vi x7, vl x6, .second, vi 0, vi (own_kd ch1), .unset, .unset, .unset, .unset]) X4 hx hZ e4 [(.int ch0)] [] (cKI l Z a0 hw ch0 wK h0 SK KD hch0) hown (W_ hw 205 rfl) (W_ hw 206 rfl) (W_ hw 41 rfl) (W_ hw 207 rfl) (by decide) 0 rfl rfl (by decide) (by decide) (by decide) (by decide) (szOf hml rfl) (lenOf pd_19 rfl) rfl (Nat.le_of_eq rfl) (D d38_23)
  have K12 := fun t k => K10 t (st11 t k)
  obtain ⟨x13, hx13⟩ : ∃ z : Int64, z = ((x6 <<< ((1 : Int32) &&& 0x3f).toInt64) ||| (((own_kd ch0) &&& (1 : Int32)).toInt64)) := ⟨_, rfl⟩
  have K14 : Own.To p e below B0 T11 (mkF m 16 #[vr o0, vi 0, vi 2, vi 0, vi 0, vi (x7 ||| (own_kd ch0)), vl x13, .second, vi (-1), vi (own_kd ch0), .unset, .unset, .unset, .unset] [(.int 0), (.int (-1))]) := fun t k => K12 t (by
    subst hx13
    refine Own.istore X11 hx #[vr o0, vi 0, vi 2, vi 0, vi 0, vi x7, vl x6, .second, vi 0, vi (own_kd ch0), .unset, .unset, .unset, .unset] (D d38_26) rfl ?_
    refine Own.lload X11 hx (D d38_28) rfl ?_
    refine Own.iconst X11 hx 1 (D d38_30) rfl ?_
    refine Own.lshl X11 hx (D d38_31) ?_
    refine Own.iload X11 hx (D d38_32) rfl ?_
    refine Own.iconst X11 hx 1 (D d38_34) rfl ?_
    refine Own.iand X11 hx (D d38_35) ?_
    refine Own.i2l X11 hx (D d38_36) ?_
    refine Own.lor X11 hx (D d38_37) ?_
    refine Own.lstore X11 hx #[vr o0, vi 0, vi 2, vi 0, vi 0, vi x7, vl ((x6 <<< ((1 : Int32) &&& 0x3f).toInt64) ||| (((own_kd ch0) &&& (1 : Int32)).toInt64)), .second, vi 0, vi (own_kd ch0), .unset, .unset, .unset, .unset] (D d38_38) rfl ?_
    refine Own.iload X11 hx (D d38_40) rfl ?_
    refine Own.iload X11 hx (D d38_42) rfl ?_
    refine Own.ior X11 hx (D d38_44) ?_
    refine Own.istore X11 hx #[vr o0, vi 0, vi 2, vi 0, vi 0, vi (x7 ||| (own_kd ch0)), vl ((x6 <<< ((1 : Int32) &&& 0x3f).toInt64) ||| (((own_kd ch0) &&& (1 : Int32)).toInt64)), .second, vi 0, vi (own_kd ch0), .unset, .unset, .unset, .unset] (D d38_45) rfl ?_
    refine Own.iinc X11 hx (-1 : Int32) #[vr o0, vi 0, vi 2, vi 0, vi 0, vi (x7 ||| (own_kd ch0)), vl ((x6 <<< ((1 : Int32) &&& 0x3f).toInt64) ||| (((own_kd ch0) &&& (1 : Int32)).toInt64)), .second, vi (-1), vi (own_kd ch0), .unset, .unset, .unset, .unset] (D d38_47) rfl rfl rfl ?_
    refine Own.goto X11 hx 13 (D d38_50) (by decide) (by decide) ?_
    refine Own.iload X11 hx (D d38_13) rfl ?_
    refine Own.iloadN X11 hx (D d38_15) rfl ?_
    exact k)
  have K15 : Own.To p e below B0 T11 (mkF m 57 #[vr o0, vi 0, vi 2, vi 0, vi 0, vi (x7 ||| (own_kd ch0)), vl x13, .second, vi (-1), vi (own_kd ch0), .unset, .unset, .unset, .unset] [(.int 0), (.int (x7 ||| (own_kd ch0)))]) := fun t k => K14 t (by
    refine Own.icmpYes X11 hx 53 (D d38_16) (tlt (by decide : (-1 : Int32) < (0 : Int32))).1 (by decide) (by decide) ?_
    refine Own.iload X11 hx (D d38_53) rfl ?_
    refine Own.iload X11 hx (D d38_55) rfl ?_
    exact k)
  obtain ⟨T16, X16, e16, st16⟩ := Own.callP (Ls := #[vr o0, vi 0, vi 2, vi 0, vi 0, vi (x7 ||| (own_kd ch0)), vl x13, .second, vi (-1), vi (own_kd ch0), .unset, .unset, .unset, .unset]) X11 hx hZ e11 [(.int 0)] [(.int (x7 ||| (own_kd ch0)))] (cNIW l Z a0 hw h0) hown (W_ hw 211 rfl) (W_ hw 212 rfl) (W_ hw 41 rfl) (W_ hw 213 rfl) (by decide) 1 rfl rfl (by decide) (by decide) (by decide) (by decide) (szOf hml rfl) (lenOf pd_20 rfl) rfl (Nat.le_of_eq rfl) (D d38_57)
  have K17 := fun t k => K15 t (st16 t k)
  have K18 : Own.To p e below B0 T16 (mkF m 61 #[vr o0, vi 0, vi 2, vi 0, vi 0, vi (x7 ||| (own_kd ch0)), vl x13, .second, vi (-1), vi (own_kd ch0), .unset, .unset, .unset, .unset] [(.int ((x7 ||| (own_kd ch0)) &&& (12 : Int32)))]) := fun t k => K17 t (by
    refine Own.iand X16 hx (D d38_60) ?_
    exact k)
  have K19 : Own.To p e below B0 T16 (mkF m 75 #[vr o0, vi 0, vi 2, vi 0, vi 0, vi (x7 ||| (own_kd ch0)), vl x13, .second, vl 0, .second, .unset, .unset, .unset, .unset] [(.int ((x7 ||| (own_kd ch0)) &&& (2 : Int32)))]) := fun t k => K18 t (by
    refine Own.ifYes X16 hx 68 (D d38_61) ((if0 _ _).trans (teq (by subst hx13; subst hx7; subst hx6; exact own_k12_2 _ (own_k3 ch0) _ (own_k3 ch1) : ((x7 ||| (own_kd ch0)) &&& (12 : Int32)) = (0 : Int32))).1) (by decide) (by decide) ?_
    refine Own.lconst X16 hx (0 : Int64) (D d38_68) rfl ?_
    refine Own.lstore X16 hx #[vr o0, vi 0, vi 2, vi 0, vi 0, vi (x7 ||| (own_kd ch0)), vl x13, .second, vl 0, .second, .unset, .unset, .unset, .unset] (D d38_69) rfl ?_
    refine Own.iload X16 hx (D d38_71) rfl ?_
    refine Own.iconst X16 hx 2 (D d38_73) rfl ?_
    refine Own.iand X16 hx (D d38_74) ?_
    exact k)
  obtain ⟨x42, hx42⟩ : ∃ z : Int64, z = (if ((x7 ||| (own_kd ch0)) &&& (2 : Int32)) = (0 : Int32) then (0 : Int64) else ((((0 : Int64) ||| ((if ch1 = (121 : Int32) then (1 : Int32) else (0 : Int32)).toInt64)) <<< ((1 : Int32) &&& 0x3f).toInt64) ||| ((if ch0 = (121 : Int32) then (1 : Int32) else (0 : Int32)).toInt64))) := ⟨_, rfl⟩
  obtain ⟨u43, hu43⟩ : ∃ z : Slot, z = (if ((x7 ||| (own_kd ch0)) &&& (2 : Int32)) = (0 : Int32) then (.unset : Slot) else (vi (-1) : Slot)) := ⟨_, rfl⟩
  have ou43 : One u43 := by rw [hu43]; split; exact One.u; exact (One.val rfl)
  obtain ⟨T44, X44, e44, K44⟩ : ∃ T' : State, Stand p l e ({ frames := 2, cells := 0, slots := 0, locals := 26 } : Room) s m #[(.ref o0), (.int 0), (.int 2), (.int 0), (.int 0)] below meth c T' [] 0 0 ∧ T'.heap = h0 ∧ Own.To p e below B0 T' (mkF m 119 #[vr o0, vi 0, vi 2, vi 0, vi 0, vi (x7 ||| (own_kd ch0)), vl x13, .second, vl x42, .second, u43, .unset, .unset, .unset] []) := by
    by_cases hc20 : ((x7 ||| (own_kd ch0)) &&& (2 : Int32)) = (0 : Int32)
    · have K21 : Own.To p e below B0 T16 (mkF m 119 #[vr o0, vi 0, vi 2, vi 0, vi 0, vi (x7 ||| (own_kd ch0)), vl x13, .second, vl 0, .second, .unset, .unset, .unset, .unset] []) := fun t k => K19 t (by
        refine Own.ifYes X16 hx 119 (D d38_75) ((if0 _ _).trans (teq hc20).1) (by decide) (by decide) ?_
        exact k)
      exact ⟨T16, X16, e16, fun t k => K21 t (by rw [hx42, if_pos hc20, hu43, if_pos hc20] at k; exact k)⟩
    · have K22 : Own.To p e below B0 T16 (mkF m 88 #[vr o0, vi 0, vi 2, vi 0, vi 0, vi (x7 ||| (own_kd ch0)), vl x13, .second, vl 0, .second, vi 1, .unset, .unset, .unset] [(.int 0), (.int 1)]) := fun t k => K19 t (by
        refine Own.ifNo X16 hx (D d38_75) ((if0 _ _).trans (feq hc20).1) ?_
        refine Own.iloadN X16 hx (D d38_78) rfl ?_
        refine Own.iloadN X16 hx (D d38_79) rfl ?_
        refine Own.iadd X16 hx (D d38_80) ?_
        refine Own.iconst X16 hx 1 (D d38_81) rfl ?_
        refine Own.isub X16 hx (D d38_82) ?_
        refine Own.istore X16 hx #[vr o0, vi 0, vi 2, vi 0, vi 0, vi (x7 ||| (own_kd ch0)), vl x13, .second, vl 0, .second, vi 1, .unset, .unset, .unset] (D d38_83) rfl ?_
        refine Own.iload X16 hx (D d38_85) rfl ?_
        refine Own.iloadN X16 hx (D d38_87) rfl ?_
        exact k)
      have K23 : Own.To p e below B0 T16 (mkF m 98 #[vr o0, vi 0, vi 2, vi 0, vi 0, vi (x7 ||| (own_kd ch0)), vl x13, .second, vl 0, .second, vi 1, .unset, .unset, .unset] [(.int 1), (.ref o0), (.long 0)]) := fun t k => K22 t (by
        refine Own.icmpNo X16 hx (D d38_88) (flt (by decide : ¬ ((1 : Int32) < (0 : Int32)))).1 ?_
        refine Own.lload X16 hx (D d38_91) rfl ?_
        refine Own.iconst X16 hx 1 (D d38_93) rfl ?_
        refine Own.lshl X16 hx (D d38_94) ?_
        refine Own.aloadN X16 hx (D d38_95) rfl rfl ?_
        refine Own.iload X16 hx (D d38_96) rfl ?_
        exact k)
      have K24 : Own.To p e below B0 T16 (mkF m 101 #[vr o0, vi 0, vi 2, vi 0, vi 0, vi (x7 ||| (own_kd ch0)), vl x13, .second, vl 0, .second, vi 1, .unset, .unset, .unset] [(.int 121), (.int ch1), (.long 0)]) := fun t k => K23 t (by
        refine Own.cal X16 hx hZ e16 A0 ch1 (by decide) (show (1 : Int32).toNatClampNeg < 2 by decide) rfl (D d38_98) ?_
        refine Own.bipush X16 hx 121 (D d38_99) rfl ?_
        exact k)
      obtain ⟨x28, hx28⟩ : ∃ z : Int32, z = (if ch1 = (121 : Int32) then (1 : Int32) else (0 : Int32)) := ⟨_, rfl⟩
      obtain ⟨T29, X29, e29, K29⟩ : ∃ T' : State, Stand p l e ({ frames := 2, cells := 0, slots := 0, locals := 26 } : Room) s m #[(.ref o0), (.int 0), (.int 2), (.int 0), (.int 0)] below meth c T' [] 0 0 ∧ T'.heap = h0 ∧ Own.To p e below B0 T' (mkF m 109 #[vr o0, vi 0, vi 2, vi 0, vi 0, vi (x7 ||| (own_kd ch0)), vl x13, .second, vl 0, .second, vi 1, .unset, .unset, .unset] [(.int x28), (.long 0)]) := by
        by_cases hc25 : ch1 = (121 : Int32)
        · have K26 : Own.To p e below B0 T16 (mkF m 109 #[vr o0, vi 0, vi 2, vi 0, vi 0, vi (x7 ||| (own_kd ch0)), vl x13, .second, vl 0, .second, vi 1, .unset, .unset, .unset] [(.int 1), (.long 0)]) := fun t k => K24 t (by
            refine Own.icmpNo X16 hx (D d38_101) (teq hc25).2 ?_
            refine Own.iconst X16 hx 1 (D d38_104) rfl ?_
            refine Own.goto X16 hx 109 (D d38_105) (by decide) (by decide) ?_
            exact k)
          exact ⟨T16, X16, e16, fun t k => K26 t (by rw [hx28, if_pos hc25] at k; exact k)⟩
        · have K27 : Own.To p e below B0 T16 (mkF m 109 #[vr o0, vi 0, vi 2, vi 0, vi 0, vi (x7 ||| (own_kd ch0)), vl x13, .second, vl 0, .second, vi 1, .unset, .unset, .unset] [(.int 0), (.long 0)]) := fun t k => K24 t (by
            refine Own.icmpYes X16 hx 108 (D d38_101) (feq hc25).2 (by decide) (by decide) ?_
            refine Own.iconst X16 hx 0 (D d38_108) rfl ?_
            exact k)
          exact ⟨T16, X16, e16, fun t k => K27 t (by rw [hx28, if_neg hc25] at k; exact k)⟩
      obtain ⟨x30, hx30⟩ : ∃ z : Int64, z = ((0 : Int64) ||| (x28.toInt64)) := ⟨_, rfl⟩
      have K31 : Own.To p e below B0 T29 (mkF m 88 #[vr o0, vi 0, vi 2, vi 0, vi 0, vi (x7 ||| (own_kd ch0)), vl x13, .second, vl x30, .second, vi 0, .unset, .unset, .unset] [(.int 0), (.int 0)]) := fun t k => K29 t (by
        subst hx30
        refine Own.i2l X29 hx (D d38_109) ?_
        refine Own.lor X29 hx (D d38_110) ?_
        refine Own.lstore X29 hx #[vr o0, vi 0, vi 2, vi 0, vi 0, vi (x7 ||| (own_kd ch0)), vl x13, .second, vl ((0 : Int64) ||| (x28.toInt64)), .second, vi 1, .unset, .unset, .unset] (D d38_111) rfl ?_
        refine Own.iinc X29 hx (0 : Int32) #[vr o0, vi 0, vi 2, vi 0, vi 0, vi (x7 ||| (own_kd ch0)), vl x13, .second, vl ((0 : Int64) ||| (x28.toInt64)), .second, vi 0, .unset, .unset, .unset] (D d38_113) rfl rfl rfl ?_
        refine Own.goto X29 hx 85 (D d38_116) (by decide) (by decide) ?_
        refine Own.iload X29 hx (D d38_85) rfl ?_
        refine Own.iloadN X29 hx (D d38_87) rfl ?_
        exact k)
      have K32 : Own.To p e below B0 T29 (mkF m 98 #[vr o0, vi 0, vi 2, vi 0, vi 0, vi (x7 ||| (own_kd ch0)), vl x13, .second, vl x30, .second, vi 0, .unset, .unset, .unset] [(.int 0), (.ref o0), (.long (x30 <<< ((1 : Int32) &&& 0x3f).toInt64))]) := fun t k => K31 t (by
        refine Own.icmpNo X29 hx (D d38_88) (flt (by decide : ¬ ((0 : Int32) < (0 : Int32)))).1 ?_
        refine Own.lload X29 hx (D d38_91) rfl ?_
        refine Own.iconst X29 hx 1 (D d38_93) rfl ?_
        refine Own.lshl X29 hx (D d38_94) ?_
        refine Own.aloadN X29 hx (D d38_95) rfl rfl ?_
        refine Own.iload X29 hx (D d38_96) rfl ?_
        exact k)
      have K33 : Own.To p e below B0 T29 (mkF m 101 #[vr o0, vi 0, vi 2, vi 0, vi 0, vi (x7 ||| (own_kd ch0)), vl x13, .second, vl x30, .second, vi 0, .unset, .unset, .unset] [(.int 121), (.int ch0), (.long (x30 <<< ((1 : Int32) &&& 0x3f).toInt64))]) := fun t k => K32 t (by
        refine Own.cal X29 hx hZ e29 A0 ch0 (by decide) (show (0 : Int32).toNatClampNeg < 2 by decide) rfl (D d38_98) ?_
        refine Own.bipush X29 hx 121 (D d38_99) rfl ?_
        exact k)
      obtain ⟨x37, hx37⟩ : ∃ z : Int32, z = (if ch0 = (121 : Int32) then (1 : Int32) else (0 : Int32)) := ⟨_, rfl⟩
      obtain ⟨T38, X38, e38, K38⟩ : ∃ T' : State, Stand p l e ({ frames := 2, cells := 0, slots := 0, locals := 26 } : Room) s m #[(.ref o0), (.int 0), (.int 2), (.int 0), (.int 0)] below meth c T' [] 0 0 ∧ T'.heap = h0 ∧ Own.To p e below B0 T' (mkF m 109 #[vr o0, vi 0, vi 2, vi 0, vi 0, vi (x7 ||| (own_kd ch0)), vl x13, .second, vl x30, .second, vi 0, .unset, .unset, .unset] [(.int x37), (.long (x30 <<< ((1 : Int32) &&& 0x3f).toInt64))]) := by
        by_cases hc34 : ch0 = (121 : Int32)
        · have K35 : Own.To p e below B0 T29 (mkF m 109 #[vr o0, vi 0, vi 2, vi 0, vi 0, vi (x7 ||| (own_kd ch0)), vl x13, .second, vl x30, .second, vi 0, .unset, .unset, .unset] [(.int 1), (.long (x30 <<< ((1 : Int32) &&& 0x3f).toInt64))]) := fun t k => K33 t (by
            refine Own.icmpNo X29 hx (D d38_101) (teq hc34).2 ?_
            refine Own.iconst X29 hx 1 (D d38_104) rfl ?_
            refine Own.goto X29 hx 109 (D d38_105) (by decide) (by decide) ?_
            exact k)
          exact ⟨T29, X29, e29, fun t k => K35 t (by rw [hx37, if_pos hc34] at k; exact k)⟩
        · have K36 : Own.To p e below B0 T29 (mkF m 109 #[vr o0, vi 0, vi 2, vi 0, vi 0, vi (x7 ||| (own_kd ch0)), vl x13, .second, vl x30, .second, vi 0, .unset, .unset, .unset] [(.int 0), (.long (x30 <<< ((1 : Int32) &&& 0x3f).toInt64))]) := fun t k => K33 t (by
            refine Own.icmpYes X29 hx 108 (D d38_101) (feq hc34).2 (by decide) (by decide) ?_
            refine Own.iconst X29 hx 0 (D d38_108) rfl ?_
            exact k)
          exact ⟨T29, X29, e29, fun t k => K36 t (by rw [hx37, if_neg hc34] at k; exact k)⟩
      obtain ⟨x39, hx39⟩ : ∃ z : Int64, z = ((x30 <<< ((1 : Int32) &&& 0x3f).toInt64) ||| (x37.toInt64)) := ⟨_, rfl⟩
      have K40 : Own.To p e below B0 T38 (mkF m 88 #[vr o0, vi 0, vi 2, vi 0, vi 0, vi (x7 ||| (own_kd ch0)), vl x13, .second, vl x39, .second, vi (-1), .unset, .unset, .unset] [(.int 0), (.int (-1))]) := fun t k => K38 t (by
        subst hx39
        refine Own.i2l X38 hx (D d38_109) ?_
        refine Own.lor X38 hx (D d38_110) ?_
        refine Own.lstore X38 hx #[vr o0, vi 0, vi 2, vi 0, vi 0, vi (x7 ||| (own_kd ch0)), vl x13, .second, vl ((x30 <<< ((1 : Int32) &&& 0x3f).toInt64) ||| (x37.toInt64)), .second, vi 0, .unset, .unset, .unset] (D d38_111) rfl ?_
        refine Own.iinc X38 hx (-1 : Int32) #[vr o0, vi 0, vi 2, vi 0, vi 0, vi (x7 ||| (own_kd ch0)), vl x13, .second, vl ((x30 <<< ((1 : Int32) &&& 0x3f).toInt64) ||| (x37.toInt64)), .second, vi (-1), .unset, .unset, .unset] (D d38_113) rfl rfl rfl ?_
        refine Own.goto X38 hx 85 (D d38_116) (by decide) (by decide) ?_
        refine Own.iload X38 hx (D d38_85) rfl ?_
        refine Own.iloadN X38 hx (D d38_87) rfl ?_
        exact k)
      have K41 : Own.To p e below B0 T38 (mkF m 119 #[vr o0, vi 0, vi 2, vi 0, vi 0, vi (x7 ||| (own_kd ch0)), vl x13, .second, vl x39, .second, vi (-1), .unset, .unset, .unset] []) := fun t k => K40 t (by
        refine Own.icmpYes X38 hx 119 (D d38_88) (tlt (by decide : (-1 : Int32) < (0 : Int32))).1 (by decide) (by decide) ?_
        exact k)
      exact ⟨T38, X38, e38, fun t k => K41 t (by subst hx39 hx37 hx30 hx28; rw [hx42, if_neg hc20, hu43, if_neg hc20] at k; exact k)⟩
  have K45 : Own.To p e below B0 T44 (mkF m 120 #[vr o0, vi 0, vi 2, vi 0, vi 0, vi (x7 ||| (own_kd ch0)), vl x13, .second, vl x42, .second, u43, .unset, .unset, .unset] [(.int 0)]) := fun t k => K44 t (by
    refine Own.iloadN X44 hx (D d38_119) rfl ?_
    exact k)
  have K46 : Own.To p e below B0 T44 (mkF m 148 #[vr o0, vi 0, vi 2, vi 0, vi 0, vi (x7 ||| (own_kd ch0)), vl x13, .second, vl x42, .second, u43, .unset, .unset, .unset] []) := fun t k => K45 t (by
    refine Own.ifYes X44 hx 148 (D d38_120) ((if0 _ _).trans (teq (by decide : (0 : Int32) = (0 : Int32))).1) (by decide) (by decide) ?_
    exact k)
  have mvv : x13 ∈ own_16 := by subst hx42; subst hx13; subst hx7; subst hx6; exact own_vv16_2 _ (own_k3 ch0) _ (own_k3 ch1)
  have myy : x42 ∈ own_16 := by subst hx42; subst hx13; subst hx7; subst hx6; rw [own_y2 ch0, own_y2 ch1]; exact own_yy16_2 _ (own_k3 ch0) _ (own_k3 ch1)
  have hV : own_fin x13 x42 = own_V2 ch0 ch1 := by subst hx42; subst hx13; subst hx7; subst hx6; rfl
  rw [← hV]
  exact cVWt hw Bd hx hby hml hZ hown X44 e44 ou43 mvv myy K46

theorem own_V16_2 (ch0 ch1 : Int32) : (((((0 : Int64) ||| (((own_kd ch1) &&& (1 : Int32)).toInt64)) <<< ((1 : Int32) &&& 0x3f).toInt64) ||| (((own_kd ch0) &&& (1 : Int32)).toInt64))) ∈ own_16 ∧ ((if ((((0 : Int32) ||| (own_kd ch1)) ||| (own_kd ch0)) &&& (2 : Int32)) = (0 : Int32) then (0 : Int64) else ((((0 : Int64) ||| ((if ch1 = (121 : Int32) then (1 : Int32) else (0 : Int32)).toInt64)) <<< ((1 : Int32) &&& 0x3f).toInt64) ||| ((if ch0 = (121 : Int32) then (1 : Int32) else (0 : Int32)).toInt64)))) ∈ own_16 := ⟨own_vv16_2 _ (own_k3 ch0) _ (own_k3 ch1), by rw [own_y2 ch0, own_y2 ch1]; exact own_yy16_2 _ (own_k3 ch0) _ (own_k3 ch1)⟩
theorem own_Vnn2 (ch0 ch1 : Int32) : ¬ own_V2 ch0 ch1 < 0 := (own_finnn _ (own_V16_2 ch0 ch1).1 _ (own_V16_2 ch0 ch1).2).1

theorem own_k12_3 : ∀ a0 ∈ ([0, 1, 2] : List Int32), ∀ a1 ∈ ([0, 1, 2] : List Int32), ∀ a2 ∈ ([0, 1, 2] : List Int32), (((((0 : Int32) ||| a2) ||| a1) ||| a0) &&& (12 : Int32)) = (0 : Int32) := by decide +kernel

theorem own_vv16_3 : ∀ a0 ∈ ([0, 1, 2] : List Int32), ∀ a1 ∈ ([0, 1, 2] : List Int32), ∀ a2 ∈ ([0, 1, 2] : List Int32), (((((((0 : Int64) ||| ((a2 &&& (1 : Int32)).toInt64)) <<< ((1 : Int32) &&& 0x3f).toInt64) ||| ((a1 &&& (1 : Int32)).toInt64)) <<< ((1 : Int32) &&& 0x3f).toInt64) ||| ((a0 &&& (1 : Int32)).toInt64))) ∈ own_16 := by decide +kernel

theorem own_yy16_3 : ∀ a0 ∈ ([0, 1, 2] : List Int32), ∀ a1 ∈ ([0, 1, 2] : List Int32), ∀ a2 ∈ ([0, 1, 2] : List Int32), ((if (((((0 : Int32) ||| a2) ||| a1) ||| a0) &&& (2 : Int32)) = (0 : Int32) then (0 : Int64) else ((((((0 : Int64) ||| ((if a2 = (2 : Int32) then (1 : Int32) else (0 : Int32)).toInt64)) <<< ((1 : Int32) &&& 0x3f).toInt64) ||| ((if a1 = (2 : Int32) then (1 : Int32) else (0 : Int32)).toInt64)) <<< ((1 : Int32) &&& 0x3f).toInt64) ||| ((if a0 = (2 : Int32) then (1 : Int32) else (0 : Int32)).toInt64)))) ∈ own_16 := by decide +kernel

def own_V3 (ch0 ch1 ch2 : Int32) : Int64 := own_fin (((((((0 : Int64) ||| (((own_kd ch2) &&& (1 : Int32)).toInt64)) <<< ((1 : Int32) &&& 0x3f).toInt64) ||| (((own_kd ch1) &&& (1 : Int32)).toInt64)) <<< ((1 : Int32) &&& 0x3f).toInt64) ||| (((own_kd ch0) &&& (1 : Int32)).toInt64))) ((if (((((0 : Int32) ||| (own_kd ch2)) ||| (own_kd ch1)) ||| (own_kd ch0)) &&& (2 : Int32)) = (0 : Int32) then (0 : Int64) else ((((((0 : Int64) ||| ((if ch2 = (121 : Int32) then (1 : Int32) else (0 : Int32)).toInt64)) <<< ((1 : Int32) &&& 0x3f).toInt64) ||| ((if ch1 = (121 : Int32) then (1 : Int32) else (0 : Int32)).toInt64)) <<< ((1 : Int32) &&& 0x3f).toInt64) ||| ((if ch0 = (121 : Int32) then (1 : Int32) else (0 : Int32)).toInt64))))

set_option maxRecDepth 65536 in
set_option maxHeartbeats 40000000 in
theorem cVW3 (l : Launch) (Z : State) (a0 : Array Value) (hw : ∀ d ∈ tables_1, d.before a0 Z = true) (o0 : Addr) (wK : Addr) (ch0 : Int32) (ch1 : Int32) (ch2 : Int32) (h0 : Heap) (SK : Sta Z h0 "com/example/stemshear/stemshear/Condition" "KINDS" "[B" (.ref wK)) (KD : own_KD Z h0 wK) (A0 : Own.CA Z h0 o0 .char [ch0, ch1, ch2]) (hch0 : own_let ch0) (hch1 : own_let ch1) (hch2 : own_let ch2) : Own.Con l Z (⟨"com/example/stemshear/stemshear/Condition", "vowels", "([CIIIZ)J"⟩ : MethodName) prog_10_method_23_code 14 (some .long) ({ frames := 2, cells := 0, slots := 0, locals := 26 } : Room) #[(.ref o0), (.int 0), (.int 3), (.int 0), (.int 0)] h0 (Own.Pure (.long (own_V3 ch0 ch1 ch2)) h0) := by
  intro ws
  refine MetFree.of_bodySF (plainFor_of_name pn_5) hisR ?_
  intro p e s m args below meth c s₁ Bd hml0 hP hK
  obtain ⟨rfl, hZ, hh⟩ := hP
  have hx := Bd.exec
  have hby := Bd.bytes
  have D := fun {n : Nat} {i} (d : decode prog_10_method_23_code n = .ok i) => hb hby d
  have hml : c.maxLocals = 14 := hml0
  have hown : s.vm.findClass "com/example/stemshear/stemshear/Condition" = some m.cls := findClass_of_methodNamed Bd.named
  have hnm := (name_of_methodNamed Bd.named Bd.method).1
  have X0 : Stand p l e ({ frames := 2, cells := 0, slots := 0, locals := 26 } : Room) s m #[(.ref o0), (.int 0), (.int 3), (.int 0), (.int 0)] below meth c s₁ [] 0 0 := Stand.of_body Bd
  have e0 : s₁.heap = h0 := by rw [← hh, Bd.state]; rfl
  have K0 : ∀ t, Steps p.tables e below (s₁.setTop (mkF m 0 #[vr o0, vi 0, vi 3, vi 0, vi 0, .unset, .unset, .unset, .unset, .unset, .unset, .unset, .unset, .unset] [])) t → Steps p.tables e below (s₁.setTop (entryFrame m #[(.ref o0), (.int 0), (.int 3), (.int 0), (.int 0)] 14)) t := fun t k => castTop (ef_38 m o0 (0 : Int32) (3 : Int32) (0 : Int32) (0 : Int32)) k
  generalize s₁.setTop (entryFrame m #[(.ref o0), (.int 0), (.int 3), (.int 0), (.int 0)] 14) = B0 at K0 ⊢
  show Own.Fin p e below B0 s (({ frames := 2, cells := 0, slots := 0, locals := 26 } : Room)).cells (({ frames := 2, cells := 0, slots := 0, locals := 26 } : Room)).slots (Own.Pure (.long (own_V3 ch0 ch1 ch2)) h0)
  have K1 : Own.To p e below B0 s₁ (mkF m 16 #[vr o0, vi 0, vi 3, vi 0, vi 0, vi 0, vl 0, .second, vi 2, .unset, .unset, .unset, .unset, .unset] [(.int 0), (.int 2)]) := fun t k => K0 t (by
    refine Own.iconst X0 hx 0 (D d38_0) rfl ?_
    refine Own.istore X0 hx #[vr o0, vi 0, vi 3, vi 0, vi 0, vi 0, .unset, .unset, .unset, .unset, .unset, .unset, .unset, .unset] (D d38_1) rfl ?_
    refine Own.lconst X0 hx (0 : Int64) (D d38_3) rfl ?_
    refine Own.lstore X0 hx #[vr o0, vi 0, vi 3, vi 0, vi 0, vi 0, vl 0, .second, .unset, .unset, .unset, .unset, .unset, .unset] (D d38_4) rfl ?_
    refine Own.iloadN X0 hx (D d38_6) rfl ?_
    refine Own.iloadN X0 hx (D d38_7) rfl ?_
    refine Own.iadd X0 hx (D d38_8) ?_
    refine Own.iconst X0 hx 1 (D d38_9) rfl ?_
    refine Own.isub X0 hx (D d38_10) ?_
    refine Own.istore X0 hx #[vr o0, vi 0, vi 3, vi 0, vi 0, vi 0, vl 0, .second, vi 2, .unset, .unset, .unset, .unset, .unset] (D d38_11) rfl ?_
    refine Own.iload X0 hx (D d38_13) rfl ?_
    refine Own.iloadN X0 hx (D d38_15) rfl ?_
    exact k)
  have K2 : Own.To p e below B0 s₁ (mkF m 22 #[vr o0, vi 0, vi 3, vi 0, vi 0, vi 0, vl 0, .second, vi 2, .unset, .unset, .unset, .unset, .unset] [(.int 2), (.ref o0)]) := fun t k => K1 t (by
    refine Own.icmpNo X0 hx (D d38_16) (flt (by decide : ¬ ((2 : Int32) < (0 : Int32)))).1 ?_
    refine Own.aloadN X0 hx (D d38_19) rfl rfl ?_
    refine Own.iload X0 hx (D d38_20) rfl ?_
    exact k)
  have K3 : Own.To p e below B0 s₁ (mkF m 23 #[vr o0, vi 0, vi 3, vi 0, vi 0, vi 0, vl 0, .second, vi 2, .unset, .unset, .unset, .unset, .unset] [(.int ch2)]) := fun t k => K2 t (by
    refine Own.cal X0 hx hZ e0 A0 ch2 (by decide) (show (2 : Int32).toNatClampNeg < 3 by decide) rfl (D d38_22) ?_
    exact k)
  obtain ⟨T4, X4, e4, st4⟩ := Own.callP (Ls := #[vr o0, vi 0, vi 3, vi 0, vi 0, vi 0, vl 0, .second, vi 2, .unset, .unset, .unset, .unset, .unset]) X0 hx hZ e0 [(.int ch2)] [] (cKI l Z a0 hw ch2 wK h0 SK KD hch2) hown (W_ hw 205 rfl) (W_ hw 206 rfl) (W_ hw 41 rfl) (W_ hw 207 rfl) (by decide) 0 rfl rfl (by decide) (by decide) (by decide) (by decide) (szOf hml rfl) (lenOf pd_19 rfl) rfl (Nat.le_of_eq rfl) (D d38_23)
  have K5 := fun t k => K3 t (st4 t k)
  obtain ⟨x6, hx6⟩ : ∃ z : Int64, z = ((0 : Int64) ||| (((own_kd ch2) &&& (1 : Int32)).toInt64)) := ⟨_, rfl⟩
  obtain ⟨x7, hx7⟩ : ∃ z : Int32, z = ((0 : Int32) ||| (own_kd ch2)) := ⟨_, rfl⟩
  have K8 : Own.To p e below B0 T4 (mkF m 16 #[vr o0, vi 0, vi 3, vi 0, vi 0, vi x7, vl x6, .second, vi 1, vi (own_kd ch2), .unset, .unset, .unset, .unset] [(.int 0), (.int 1)]) := fun t k => K5 t (by
    subst hx7 hx6
    refine Own.istore X4 hx #[vr o0, vi 0, vi 3, vi 0, vi 0, vi 0, vl 0, .second, vi 2, vi (own_kd ch2), .unset, .unset, .unset, .unset] (D d38_26) rfl ?_
    refine Own.lload X4 hx (D d38_28) rfl ?_
    refine Own.iconst X4 hx 1 (D d38_30) rfl ?_
    refine Own.lshl X4 hx (D d38_31) ?_
    refine Own.iload X4 hx (D d38_32) rfl ?_
    refine Own.iconst X4 hx 1 (D d38_34) rfl ?_
    refine Own.iand X4 hx (D d38_35) ?_
    refine Own.i2l X4 hx (D d38_36) ?_
    refine Own.lor X4 hx (D d38_37) ?_
    refine Own.lstore X4 hx #[vr o0, vi 0, vi 3, vi 0, vi 0, vi 0, vl ((0 : Int64) ||| (((own_kd ch2) &&& (1 : Int32)).toInt64)), .second, vi 2, vi (own_kd ch2), .unset, .unset, .unset, .unset] (D d38_38) rfl ?_
    refine Own.iload X4 hx (D d38_40) rfl ?_
    refine Own.iload X4 hx (D d38_42) rfl ?_
    refine Own.ior X4 hx (D d38_44) ?_
    refine Own.istore X4 hx #[vr o0, vi 0, vi 3, vi 0, vi 0, vi ((0 : Int32) ||| (own_kd ch2)), vl ((0 : Int64) ||| (((own_kd ch2) &&& (1 : Int32)).toInt64)), .second, vi 2, vi (own_kd ch2), .unset, .unset, .unset, .unset] (D d38_45) rfl ?_
    refine Own.iinc X4 hx (1 : Int32) #[vr o0, vi 0, vi 3, vi 0, vi 0, vi ((0 : Int32) ||| (own_kd ch2)), vl ((0 : Int64) ||| (((own_kd ch2) &&& (1 : Int32)).toInt64)), .second, vi 1, vi (own_kd ch2), .unset, .unset, .unset, .unset] (D d38_47) rfl rfl rfl ?_
    refine Own.goto X4 hx 13 (D d38_50) (by decide) (by decide) ?_
    refine Own.iload X4 hx (D d38_13) rfl ?_
    refine Own.iloadN X4 hx (D d38_15) rfl ?_
    exact k)
  have K9 : Own.To p e below B0 T4 (mkF m 22 #[vr o0, vi 0, vi 3, vi 0, vi 0, vi x7, vl x6, .second, vi 1, vi (own_kd ch2), .unset, .unset, .unset, .unset] [(.int 1), (.ref o0)]) := fun t k => K8 t (by
    refine Own.icmpNo X4 hx (D d38_16) (flt (by decide : ¬ ((1 : Int32) < (0 : Int32)))).1 ?_
    refine Own.aloadN X4 hx (D d38_19) rfl rfl ?_
    refine Own.iload X4 hx (D d38_20) rfl ?_
    exact k)
  have K10 : Own.To p e below B0 T4 (mkF m 23 #[vr o0, vi 0, vi 3, vi 0, vi 0, vi x7, vl x6, .second, vi 1, vi (own_kd ch2), .unset, .unset, .unset, .unset] [(.int ch1)]) := fun t k => K9 t (by
    refine Own.cal X4 hx hZ e4 A0 ch1 (by decide) (show (1 : Int32).toNatClampNeg < 3 by decide) rfl (D d38_22) ?_
    exact k)
  obtain ⟨T11, X11, e11, st11⟩ := Own.callP (Ls := #[vr o0, vi 0, vi 3, vi 0, vi 0, vi x7, vl x6, .second, vi 1, vi (own_kd ch2), .unset, .unset, .unset, .unset]) X4 hx hZ e4 [(.int ch1)] [] (cKI l Z a0 hw ch1 wK h0 SK KD hch1) hown (W_ hw 205 rfl) (W_ hw 206 rfl) (W_ hw 41 rfl) (W_ hw 207 rfl) (by decide) 0 rfl rfl (by decide) (by decide) (by decide) (by decide) (szOf hml rfl) (lenOf pd_19 rfl) rfl (Nat.le_of_eq rfl) (D d38_23)
  have K12 := fun t k => K10 t (st11 t k)
  obtain ⟨x13, hx13⟩ : ∃ z : Int64, z = ((x6 <<< ((1 : Int32) &&& 0x3f).toInt64) ||| (((own_kd ch1) &&& (1 : Int32)).toInt64)) := ⟨_, rfl⟩
  have K14 : Own.To p e below B0 T11 (mkF m 16 #[vr o0, vi 0, vi 3, vi 0, vi 0, vi (x7 ||| (own_kd ch1)), vl x13, .second, vi 0, vi (own_kd ch1), .unset, .unset, .unset, .unset] [(.int 0), (.int 0)]) := fun t k => K12 t (by
    subst hx13
    refine Own.istore X11 hx #[vr o0, vi 0, vi 3, vi 0, vi 0, vi x7, vl x6, .second, vi 1, vi (own_kd ch1), .unset, .unset, .unset, .unset] (D d38_26) rfl ?_
    refine Own.lload X11 hx (D d38_28) rfl ?_
    refine Own.iconst X11 hx 1 (D d38_30) rfl ?_
    refine Own.lshl X11 hx (D d38_31) ?_
    refine Own.iload X11 hx (D d38_32) rfl ?_
    refine Own.iconst X11 hx 1 (D d38_34) rfl ?_
    refine Own.iand X11 hx (D d38_35) ?_
    refine Own.i2l X11 hx (D d38_36) ?_
    refine Own.lor X11 hx (D d38_37) ?_
    refine Own.lstore X11 hx #[vr o0, vi 0, vi 3, vi 0, vi 0, vi x7, vl ((x6 <<< ((1 : Int32) &&& 0x3f).toInt64) ||| (((own_kd ch1) &&& (1 : Int32)).toInt64)), .second, vi 1, vi (own_kd ch1), .unset, .unset, .unset, .unset] (D d38_38) rfl ?_
    refine Own.iload X11 hx (D d38_40) rfl ?_
    refine Own.iload X11 hx (D d38_42) rfl ?_
    refine Own.ior X11 hx (D d38_44) ?_
    refine Own.istore X11 hx #[vr o0, vi 0, vi 3, vi 0, vi 0, vi (x7 ||| (own_kd ch1)), vl ((x6 <<< ((1 : Int32) &&& 0x3f).toInt64) ||| (((own_kd ch1) &&& (1 : Int32)).toInt64)), .second, vi 1, vi (own_kd ch1), .unset, .unset, .unset, .unset] (D d38_45) rfl ?_
    refine Own.iinc X11 hx (0 : Int32) #[vr o0, vi 0, vi 3, vi 0, vi 0, vi (x7 ||| (own_kd ch1)), vl ((x6 <<< ((1 : Int32) &&& 0x3f).toInt64) ||| (((own_kd ch1) &&& (1 : Int32)).toInt64)), .second, vi 0, vi (own_kd ch1), .unset, .unset, .unset, .unset] (D d38_47) rfl rfl rfl ?_
    refine Own.goto X11 hx 13 (D d38_50) (by decide) (by decide) ?_
    refine Own.iload X11 hx (D d38_13) rfl ?_
    refine Own.iloadN X11 hx (D d38_15) rfl ?_
    exact k)
  have K15 : Own.To p e below B0 T11 (mkF m 22 #[vr o0, vi 0, vi 3, vi 0, vi 0, vi (x7 ||| (own_kd ch1)), vl x13, .second, vi 0, vi (own_kd ch1), .unset, .unset, .unset, .unset] [(.int 0), (.ref o0)]) := fun t k => K14 t (by
    refine Own.icmpNo X11 hx (D d38_16) (flt (by decide : ¬ ((0 : Int32) < (0 : Int32)))).1 ?_
    refine Own.aloadN X11 hx (D d38_19) rfl rfl ?_
    refine Own.iload X11 hx (D d38_20) rfl ?_
    exact k)
  have K16 : Own.To p e below B0 T11 (mkF m 23 #[vr o0, vi 0, vi 3, vi 0, vi 0, vi (x7 ||| (own_kd ch1)), vl x13, .second, vi 0, vi (own_kd ch1), .unset, .unset, .unset, .unset] [(.int ch0)]) := fun t k => K15 t (by
    refine Own.cal X11 hx hZ e11 A0 ch0 (by decide) (show (0 : Int32).toNatClampNeg < 3 by decide) rfl (D d38_22) ?_
    exact k)
  obtain ⟨T17, X17, e17, st17⟩ := Own.callP (Ls := #[vr o0, vi 0, vi 3, vi 0, vi 0, vi (x7 ||| (own_kd ch1)), vl x13, .second, vi 0, vi (own_kd ch1), .unset, .unset, .unset, .unset]) X11 hx hZ e11 [(.int ch0)] [] (cKI l Z a0 hw ch0 wK h0 SK KD hch0) hown (W_ hw 205 rfl) (W_ hw 206 rfl) (W_ hw 41 rfl) (W_ hw 207 rfl) (by decide) 0 rfl rfl (by decide) (by decide) (by decide) (by decide) (szOf hml rfl) (lenOf pd_19 rfl) rfl (Nat.le_of_eq rfl) (D d38_23)
  have K18 := fun t k => K16 t (st17 t k)
  obtain ⟨x19, hx19⟩ : ∃ z : Int64, z = ((x13 <<< ((1 : Int32) &&& 0x3f).toInt64) ||| (((own_kd ch0) &&& (1 : Int32)).toInt64)) := ⟨_, rfl⟩
  obtain ⟨x20, hx20⟩ : ∃ z : Int32, z = ((x7 ||| (own_kd ch1)) ||| (own_kd ch0)) := ⟨_, rfl⟩
  have K21 : Own.To p e below B0 T17 (mkF m 16 #[vr o0, vi 0, vi 3, vi 0, vi 0, vi x20, vl x19, .second, vi (-1), vi (own_kd ch0), .unset, .unset, .unset, .unset] [(.int 0), (.int (-1))]) := fun t k => K18 t (by
    subst hx20 hx19
    refine Own.istore X17 hx #[vr o0, vi 0, vi 3, vi 0, vi 0, vi (x7 ||| (own_kd ch1)), vl x13, .second, vi 0, vi (own_kd ch0), .unset, .unset, .unset, .unset] (D d38_26) rfl ?_
    refine Own.lload X17 hx (D d38_28) rfl ?_
    refine Own.iconst X17 hx 1 (D d38_30) rfl ?_
    refine Own.lshl X17 hx (D d38_31) ?_
    refine Own.iload X17 hx (D d38_32) rfl ?_
    refine Own.iconst X17 hx 1 (D d38_34) rfl ?_
    refine Own.iand X17 hx (D d38_35) ?_
    refine Own.i2l X17 hx (D d38_36) ?_
    refine Own.lor X17 hx (D d38_37) ?_
    refine Own.lstore X17 hx #[vr o0, vi 0, vi 3, vi 0, vi 0, vi (x7 ||| (own_kd ch1)), vl ((x13 <<< ((1 : Int32) &&& 0x3f).toInt64) ||| (((own_kd ch0) &&& (1 : Int32)).toInt64)), .second, vi 0, vi (own_kd ch0), .unset, .unset, .unset, .unset] (D d38_38) rfl ?_
    refine Own.iload X17 hx (D d38_40) rfl ?_
    refine Own.iload X17 hx (D d38_42) rfl ?_
    refine Own.ior X17 hx (D d38_44) ?_
    refine Own.istore X17 hx #[vr o0, vi 0, vi 3, vi 0, vi 0, vi ((x7 ||| (own_kd ch1)) ||| (own_kd ch0)), vl ((x13 <<< ((1 : Int32) &&& 0x3f).toInt64) ||| (((own_kd ch0) &&& (1 : Int32)).toInt64)), .second, vi 0, vi (own_kd ch0), .unset, .unset, .unset, .unset] (D d38_45) rfl ?_
    refine Own.iinc X17 hx (-1 : Int32) #[vr o0, vi 0, vi 3, vi 0, vi 0, vi ((x7 ||| (own_kd ch1)) ||| (own_kd ch0)), vl ((x13 <<< ((1 : Int32) &&& 0x3f).toInt64) ||| (((own_kd ch0) &&& (1 : Int32)).toInt64)), .second, vi (-1), vi (own_kd ch0), .unset, .unset, .unset, .unset] (D d38_47) rfl rfl rfl ?_
    refine Own.goto X17 hx 13 (D d38_50) (by decide) (by decide) ?_
    refine Own.iload X17 hx (D d38_13) rfl ?_
    refine Own.iloadN X17 hx (D d38_15) rfl ?_
    exact k)
  have K22 : Own.To p e below B0 T17 (mkF m 57 #[vr o0, vi 0, vi 3, vi 0, vi 0, vi x20, vl x19, .second, vi (-1), vi (own_kd ch0), .unset, .unset, .unset, .unset] [(.int 0), (.int x20)]) := fun t k => K21 t (by
    refine Own.icmpYes X17 hx 53 (D d38_16) (tlt (by decide : (-1 : Int32) < (0 : Int32))).1 (by decide) (by decide) ?_
    refine Own.iload X17 hx (D d38_53) rfl ?_
    refine Own.iload X17 hx (D d38_55) rfl ?_
    exact k)
  obtain ⟨T23, X23, e23, st23⟩ := Own.callP (Ls := #[vr o0, vi 0, vi 3, vi 0, vi 0, vi x20, vl x19, .second, vi (-1), vi (own_kd ch0), .unset, .unset, .unset, .unset]) X17 hx hZ e17 [(.int 0)] [(.int x20)] (cNIW l Z a0 hw h0) hown (W_ hw 211 rfl) (W_ hw 212 rfl) (W_ hw 41 rfl) (W_ hw 213 rfl) (by decide) 1 rfl rfl (by decide) (by decide) (by decide) (by decide) (szOf hml rfl) (lenOf pd_20 rfl) rfl (Nat.le_of_eq rfl) (D d38_57)
  have K24 := fun t k => K22 t (st23 t k)
  have K25 : Own.To p e below B0 T23 (mkF m 61 #[vr o0, vi 0, vi 3, vi 0, vi 0, vi x20, vl x19, .second, vi (-1), vi (own_kd ch0), .unset, .unset, .unset, .unset] [(.int (x20 &&& (12 : Int32)))]) := fun t k => K24 t (by
    refine Own.iand X23 hx (D d38_60) ?_
    exact k)
  have K26 : Own.To p e below B0 T23 (mkF m 75 #[vr o0, vi 0, vi 3, vi 0, vi 0, vi x20, vl x19, .second, vl 0, .second, .unset, .unset, .unset, .unset] [(.int (x20 &&& (2 : Int32)))]) := fun t k => K25 t (by
    refine Own.ifYes X23 hx 68 (D d38_61) ((if0 _ _).trans (teq (by subst hx20; subst hx19; subst hx13; subst hx7; subst hx6; exact own_k12_3 _ (own_k3 ch0) _ (own_k3 ch1) _ (own_k3 ch2) : (x20 &&& (12 : Int32)) = (0 : Int32))).1) (by decide) (by decide) ?_
    refine Own.lconst X23 hx (0 : Int64) (D d38_68) rfl ?_
    refine Own.lstore X23 hx #[vr o0, vi 0, vi 3, vi 0, vi 0, vi x20, vl x19, .second, vl 0, .second, .unset, .unset, .unset, .unset] (D d38_69) rfl ?_
    refine Own.iload X23 hx (D d38_71) rfl ?_
    refine Own.iconst X23 hx 2 (D d38_73) rfl ?_
    refine Own.iand X23 hx (D d38_74) ?_
    exact k)
  obtain ⟨x58, hx58⟩ : ∃ z : Int64, z = (if (x20 &&& (2 : Int32)) = (0 : Int32) then (0 : Int64) else ((((((0 : Int64) ||| ((if ch2 = (121 : Int32) then (1 : Int32) else (0 : Int32)).toInt64)) <<< ((1 : Int32) &&& 0x3f).toInt64) ||| ((if ch1 = (121 : Int32) then (1 : Int32) else (0 : Int32)).toInt64)) <<< ((1 : Int32) &&& 0x3f).toInt64) ||| ((if ch0 = (121 : Int32) then (1 : Int32) else (0 : Int32)).toInt64))) := ⟨_, rfl⟩
  obtain ⟨u59, hu59⟩ : ∃ z : Slot, z = (if (x20 &&& (2 : Int32)) = (0 : Int32) then (.unset : Slot) else (vi (-1) : Slot)) := ⟨_, rfl⟩
  have ou59 : One u59 := by rw [hu59]; split; exact One.u; exact (One.val rfl)
  obtain ⟨T60, X60, e60, K60⟩ : ∃ T' : State, Stand p l e ({ frames := 2, cells := 0, slots := 0, locals := 26 } : Room) s m #[(.ref o0), (.int 0), (.int 3), (.int 0), (.int 0)] below meth c T' [] 0 0 ∧ T'.heap = h0 ∧ Own.To p e below B0 T' (mkF m 119 #[vr o0, vi 0, vi 3, vi 0, vi 0, vi x20, vl x19, .second, vl x58, .second, u59, .unset, .unset, .unset] []) := by
    by_cases hc27 : (x20 &&& (2 : Int32)) = (0 : Int32)
    · have K28 : Own.To p e below B0 T23 (mkF m 119 #[vr o0, vi 0, vi 3, vi 0, vi 0, vi x20, vl x19, .second, vl 0, .second, .unset, .unset, .unset, .unset] []) := fun t k => K26 t (by
        refine Own.ifYes X23 hx 119 (D d38_75) ((if0 _ _).trans (teq hc27).1) (by decide) (by decide) ?_
        exact k)
      exact ⟨T23, X23, e23, fun t k => K28 t (by rw [hx58, if_pos hc27, hu59, if_pos hc27] at k; exact k)⟩
    · have K29 : Own.To p e below B0 T23 (mkF m 88 #[vr o0, vi 0, vi 3, vi 0, vi 0, vi x20, vl x19, .second, vl 0, .second, vi 2, .unset, .unset, .unset] [(.int 0), (.int 2)]) := fun t k => K26 t (by
        refine Own.ifNo X23 hx (D d38_75) ((if0 _ _).trans (feq hc27).1) ?_
        refine Own.iloadN X23 hx (D d38_78) rfl ?_
        refine Own.iloadN X23 hx (D d38_79) rfl ?_
        refine Own.iadd X23 hx (D d38_80) ?_
        refine Own.iconst X23 hx 1 (D d38_81) rfl ?_
        refine Own.isub X23 hx (D d38_82) ?_
        refine Own.istore X23 hx #[vr o0, vi 0, vi 3, vi 0, vi 0, vi x20, vl x19, .second, vl 0, .second, vi 2, .unset, .unset, .unset] (D d38_83) rfl ?_
        refine Own.iload X23 hx (D d38_85) rfl ?_
        refine Own.iloadN X23 hx (D d38_87) rfl ?_
        exact k)
      have K30 : Own.To p e below B0 T23 (mkF m 98 #[vr o0, vi 0, vi 3, vi 0, vi 0, vi x20, vl x19, .second, vl 0, .second, vi 2, .unset, .unset, .unset] [(.int 2), (.ref o0), (.long 0)]) := fun t k => K29 t (by
        refine Own.icmpNo X23 hx (D d38_88) (flt (by decide : ¬ ((2 : Int32) < (0 : Int32)))).1 ?_
        refine Own.lload X23 hx (D d38_91) rfl ?_
        refine Own.iconst X23 hx 1 (D d38_93) rfl ?_
        refine Own.lshl X23 hx (D d38_94) ?_
        refine Own.aloadN X23 hx (D d38_95) rfl rfl ?_
        refine Own.iload X23 hx (D d38_96) rfl ?_
        exact k)
      have K31 : Own.To p e below B0 T23 (mkF m 101 #[vr o0, vi 0, vi 3, vi 0, vi 0, vi x20, vl x19, .second, vl 0, .second, vi 2, .unset, .unset, .unset] [(.int 121), (.int ch2), (.long 0)]) := fun t k => K30 t (by
        refine Own.cal X23 hx hZ e23 A0 ch2 (by decide) (show (2 : Int32).toNatClampNeg < 3 by decide) rfl (D d38_98) ?_
        refine Own.bipush X23 hx 121 (D d38_99) rfl ?_
        exact k)
      obtain ⟨x35, hx35⟩ : ∃ z : Int32, z = (if ch2 = (121 : Int32) then (1 : Int32) else (0 : Int32)) := ⟨_, rfl⟩
      obtain ⟨T36, X36, e36, K36⟩ : ∃ T' : State, Stand p l e ({ frames := 2, cells := 0, slots := 0, locals := 26 } : Room) s m #[(.ref o0), (.int 0), (.int 3), (.int 0), (.int 0)] below meth c T' [] 0 0 ∧ T'.heap = h0 ∧ Own.To p e below B0 T' (mkF m 109 #[vr o0, vi 0, vi 3, vi 0, vi 0, vi x20, vl x19, .second, vl 0, .second, vi 2, .unset, .unset, .unset] [(.int x35), (.long 0)]) := by
        by_cases hc32 : ch2 = (121 : Int32)
        · have K33 : Own.To p e below B0 T23 (mkF m 109 #[vr o0, vi 0, vi 3, vi 0, vi 0, vi x20, vl x19, .second, vl 0, .second, vi 2, .unset, .unset, .unset] [(.int 1), (.long 0)]) := fun t k => K31 t (by
            refine Own.icmpNo X23 hx (D d38_101) (teq hc32).2 ?_
            refine Own.iconst X23 hx 1 (D d38_104) rfl ?_
            refine Own.goto X23 hx 109 (D d38_105) (by decide) (by decide) ?_
            exact k)
          exact ⟨T23, X23, e23, fun t k => K33 t (by rw [hx35, if_pos hc32] at k; exact k)⟩
        · have K34 : Own.To p e below B0 T23 (mkF m 109 #[vr o0, vi 0, vi 3, vi 0, vi 0, vi x20, vl x19, .second, vl 0, .second, vi 2, .unset, .unset, .unset] [(.int 0), (.long 0)]) := fun t k => K31 t (by
            refine Own.icmpYes X23 hx 108 (D d38_101) (feq hc32).2 (by decide) (by decide) ?_
            refine Own.iconst X23 hx 0 (D d38_108) rfl ?_
            exact k)
          exact ⟨T23, X23, e23, fun t k => K34 t (by rw [hx35, if_neg hc32] at k; exact k)⟩
      obtain ⟨x37, hx37⟩ : ∃ z : Int64, z = ((0 : Int64) ||| (x35.toInt64)) := ⟨_, rfl⟩
      have K38 : Own.To p e below B0 T36 (mkF m 88 #[vr o0, vi 0, vi 3, vi 0, vi 0, vi x20, vl x19, .second, vl x37, .second, vi 1, .unset, .unset, .unset] [(.int 0), (.int 1)]) := fun t k => K36 t (by
        subst hx37
        refine Own.i2l X36 hx (D d38_109) ?_
        refine Own.lor X36 hx (D d38_110) ?_
        refine Own.lstore X36 hx #[vr o0, vi 0, vi 3, vi 0, vi 0, vi x20, vl x19, .second, vl ((0 : Int64) ||| (x35.toInt64)), .second, vi 2, .unset, .unset, .unset] (D d38_111) rfl ?_
        refine Own.iinc X36 hx (1 : Int32) #[vr o0, vi 0, vi 3, vi 0, vi 0, vi x20, vl x19, .second, vl ((0 : Int64) ||| (x35.toInt64)), .second, vi 1, .unset, .unset, .unset] (D d38_113) rfl rfl rfl ?_
        refine Own.goto X36 hx 85 (D d38_116) (by decide) (by decide) ?_
        refine Own.iload X36 hx (D d38_85) rfl ?_
        refine Own.iloadN X36 hx (D d38_87) rfl ?_
        exact k)
      have K39 : Own.To p e below B0 T36 (mkF m 98 #[vr o0, vi 0, vi 3, vi 0, vi 0, vi x20, vl x19, .second, vl x37, .second, vi 1, .unset, .unset, .unset] [(.int 1), (.ref o0), (.long (x37 <<< ((1 : Int32) &&& 0x3f).toInt64))]) := fun t k => K38 t (by
        refine Own.icmpNo X36 hx (D d38_88) (flt (by decide : ¬ ((1 : Int32) < (0 : Int32)))).1 ?_
        refine Own.lload X36 hx (D d38_91) rfl ?_
        refine Own.iconst X36 hx 1 (D d38_93) rfl ?_
        refine Own.lshl X36 hx (D d38_94) ?_
        refine Own.aloadN X36 hx (D d38_95) rfl rfl ?_
        refine Own.iload X36 hx (D d38_96) rfl ?_
        exact k)
      have K40 : Own.To p e below B0 T36 (mkF m 101 #[vr o0, vi 0, vi 3, vi 0, vi 0, vi x20, vl x19, .second, vl x37, .second, vi 1, .unset, .unset, .unset] [(.int 121), (.int ch1), (.long (x37 <<< ((1 : Int32) &&& 0x3f).toInt64))]) := fun t k => K39 t (by
        refine Own.cal X36 hx hZ e36 A0 ch1 (by decide) (show (1 : Int32).toNatClampNeg < 3 by decide) rfl (D d38_98) ?_
        refine Own.bipush X36 hx 121 (D d38_99) rfl ?_
        exact k)
      obtain ⟨x44, hx44⟩ : ∃ z : Int32, z = (if ch1 = (121 : Int32) then (1 : Int32) else (0 : Int32)) := ⟨_, rfl⟩
      obtain ⟨T45, X45, e45, K45⟩ : ∃ T' : State, Stand p l e ({ frames := 2, cells := 0, slots := 0, locals := 26 } : Room) s m #[(.ref o0), (.int 0), (.int 3), (.int 0), (.int 0)] below meth c T' [] 0 0 ∧ T'.heap = h0 ∧ Own.To p e below B0 T' (mkF m 109 #[vr o0, vi 0, vi 3, vi 0, vi 0, vi x20, vl x19, .second, vl x37, .second, vi 1, .unset, .unset, .unset] [(.int x44), (.long (x37 <<< ((1 : Int32) &&& 0x3f).toInt64))]) := by
        by_cases hc41 : ch1 = (121 : Int32)
        · have K42 : Own.To p e below B0 T36 (mkF m 109 #[vr o0, vi 0, vi 3, vi 0, vi 0, vi x20, vl x19, .second, vl x37, .second, vi 1, .unset, .unset, .unset] [(.int 1), (.long (x37 <<< ((1 : Int32) &&& 0x3f).toInt64))]) := fun t k => K40 t (by
            refine Own.icmpNo X36 hx (D d38_101) (teq hc41).2 ?_
            refine Own.iconst X36 hx 1 (D d38_104) rfl ?_
            refine Own.goto X36 hx 109 (D d38_105) (by decide) (by decide) ?_
            exact k)
          exact ⟨T36, X36, e36, fun t k => K42 t (by rw [hx44, if_pos hc41] at k; exact k)⟩
        · have K43 : Own.To p e below B0 T36 (mkF m 109 #[vr o0, vi 0, vi 3, vi 0, vi 0, vi x20, vl x19, .second, vl x37, .second, vi 1, .unset, .unset, .unset] [(.int 0), (.long (x37 <<< ((1 : Int32) &&& 0x3f).toInt64))]) := fun t k => K40 t (by
            refine Own.icmpYes X36 hx 108 (D d38_101) (feq hc41).2 (by decide) (by decide) ?_
            refine Own.iconst X36 hx 0 (D d38_108) rfl ?_
            exact k)
          exact ⟨T36, X36, e36, fun t k => K43 t (by rw [hx44, if_neg hc41] at k; exact k)⟩
      obtain ⟨x46, hx46⟩ : ∃ z : Int64, z = ((x37 <<< ((1 : Int32) &&& 0x3f).toInt64) ||| (x44.toInt64)) := ⟨_, rfl⟩
      have K47 : Own.To p e below B0 T45 (mkF m 88 #[vr o0, vi 0, vi 3, vi 0, vi 0, vi x20, vl x19, .second, vl x46, .second, vi 0, .unset, .unset, .unset] [(.int 0), (.int 0)]) := fun t k => K45 t (by
        subst hx46
        refine Own.i2l X45 hx (D d38_109) ?_
        refine Own.lor X45 hx (D d38_110) ?_
        refine Own.lstore X45 hx #[vr o0, vi 0, vi 3, vi 0, vi 0, vi x20, vl x19, .second, vl ((x37 <<< ((1 : Int32) &&& 0x3f).toInt64) ||| (x44.toInt64)), .second, vi 1, .unset, .unset, .unset] (D d38_111) rfl ?_
        refine Own.iinc X45 hx (0 : Int32) #[vr o0, vi 0, vi 3, vi 0, vi 0, vi x20, vl x19, .second, vl ((x37 <<< ((1 : Int32) &&& 0x3f).toInt64) ||| (x44.toInt64)), .second, vi 0, .unset, .unset, .unset] (D d38_113) rfl rfl rfl ?_
        refine Own.goto X45 hx 85 (D d38_116) (by decide) (by decide) ?_
        refine Own.iload X45 hx (D d38_85) rfl ?_
        refine Own.iloadN X45 hx (D d38_87) rfl ?_
        exact k)
      have K48 : Own.To p e below B0 T45 (mkF m 98 #[vr o0, vi 0, vi 3, vi 0, vi 0, vi x20, vl x19, .second, vl x46, .second, vi 0, .unset, .unset, .unset] [(.int 0), (.ref o0), (.long (x46 <<< ((1 : Int32) &&& 0x3f).toInt64))]) := fun t k => K47 t (by
        refine Own.icmpNo X45 hx (D d38_88) (flt (by decide : ¬ ((0 : Int32) < (0 : Int32)))).1 ?_
        refine Own.lload X45 hx (D d38_91) rfl ?_
        refine Own.iconst X45 hx 1 (D d38_93) rfl ?_
        refine Own.lshl X45 hx (D d38_94) ?_
        refine Own.aloadN X45 hx (D d38_95) rfl rfl ?_
        refine Own.iload X45 hx (D d38_96) rfl ?_
        exact k)
      have K49 : Own.To p e below B0 T45 (mkF m 101 #[vr o0, vi 0, vi 3, vi 0, vi 0, vi x20, vl x19, .second, vl x46, .second, vi 0, .unset, .unset, .unset] [(.int 121), (.int ch0), (.long (x46 <<< ((1 : Int32) &&& 0x3f).toInt64))]) := fun t k => K48 t (by
        refine Own.cal X45 hx hZ e45 A0 ch0 (by decide) (show (0 : Int32).toNatClampNeg < 3 by decide) rfl (D d38_98) ?_
        refine Own.bipush X45 hx 121 (D d38_99) rfl ?_
        exact k)
      obtain ⟨x53, hx53⟩ : ∃ z : Int32, z = (if ch0 = (121 : Int32) then (1 : Int32) else (0 : Int32)) := ⟨_, rfl⟩
      obtain ⟨T54, X54, e54, K54⟩ : ∃ T' : State, Stand p l e ({ frames := 2, cells := 0, slots := 0, locals := 26 } : Room) s m #[(.ref o0), (.int 0), (.int 3), (.int 0), (.int 0)] below meth c T' [] 0 0 ∧ T'.heap = h0 ∧ Own.To p e below B0 T' (mkF m 109 #[vr o0, vi 0, vi 3, vi 0, vi 0, vi x20, vl x19, .second, vl x46, .second, vi 0, .unset, .unset, .unset] [(.int x53), (.long (x46 <<< ((1 : Int32) &&& 0x3f).toInt64))]) := by
        by_cases hc50 : ch0 = (121 : Int32)
        · have K51 : Own.To p e below B0 T45 (mkF m 109 #[vr o0, vi 0, vi 3, vi 0, vi 0, vi x20, vl x19, .second, vl x46, .second, vi 0, .unset, .unset, .unset] [(.int 1), (.long (x46 <<< ((1 : Int32) &&& 0x3f).toInt64))]) := fun t k => K49 t (by
            refine Own.icmpNo X45 hx (D d38_101) (teq hc50).2 ?_
            refine Own.iconst X45 hx 1 (D d38_104) rfl ?_
            refine Own.goto X45 hx 109 (D d38_105) (by decide) (by decide) ?_
            exact k)
          exact ⟨T45, X45, e45, fun t k => K51 t (by rw [hx53, if_pos hc50] at k; exact k)⟩
        · have K52 : Own.To p e below B0 T45 (mkF m 109 #[vr o0, vi 0, vi 3, vi 0, vi 0, vi x20, vl x19, .second, vl x46, .second, vi 0, .unset, .unset, .unset] [(.int 0), (.long (x46 <<< ((1 : Int32) &&& 0x3f).toInt64))]) := fun t k => K49 t (by
            refine Own.icmpYes X45 hx 108 (D d38_101) (feq hc50).2 (by decide) (by decide) ?_
            refine Own.iconst X45 hx 0 (D d38_108) rfl ?_
            exact k)
          exact ⟨T45, X45, e45, fun t k => K52 t (by rw [hx53, if_neg hc50] at k; exact k)⟩
      obtain ⟨x55, hx55⟩ : ∃ z : Int64, z = ((x46 <<< ((1 : Int32) &&& 0x3f).toInt64) ||| (x53.toInt64)) := ⟨_, rfl⟩
      have K56 : Own.To p e below B0 T54 (mkF m 88 #[vr o0, vi 0, vi 3, vi 0, vi 0, vi x20, vl x19, .second, vl x55, .second, vi (-1), .unset, .unset, .unset] [(.int 0), (.int (-1))]) := fun t k => K54 t (by
        subst hx55
        refine Own.i2l X54 hx (D d38_109) ?_
        refine Own.lor X54 hx (D d38_110) ?_
        refine Own.lstore X54 hx #[vr o0, vi 0, vi 3, vi 0, vi 0, vi x20, vl x19, .second, vl ((x46 <<< ((1 : Int32) &&& 0x3f).toInt64) ||| (x53.toInt64)), .second, vi 0, .unset, .unset, .unset] (D d38_111) rfl ?_
        refine Own.iinc X54 hx (-1 : Int32) #[vr o0, vi 0, vi 3, vi 0, vi 0, vi x20, vl x19, .second, vl ((x46 <<< ((1 : Int32) &&& 0x3f).toInt64) ||| (x53.toInt64)), .second, vi (-1), .unset, .unset, .unset] (D d38_113) rfl rfl rfl ?_
        refine Own.goto X54 hx 85 (D d38_116) (by decide) (by decide) ?_
        refine Own.iload X54 hx (D d38_85) rfl ?_
        refine Own.iloadN X54 hx (D d38_87) rfl ?_
        exact k)
      have K57 : Own.To p e below B0 T54 (mkF m 119 #[vr o0, vi 0, vi 3, vi 0, vi 0, vi x20, vl x19, .second, vl x55, .second, vi (-1), .unset, .unset, .unset] []) := fun t k => K56 t (by
        refine Own.icmpYes X54 hx 119 (D d38_88) (tlt (by decide : (-1 : Int32) < (0 : Int32))).1 (by decide) (by decide) ?_
        exact k)
      exact ⟨T54, X54, e54, fun t k => K57 t (by subst hx55 hx53 hx46 hx44 hx37 hx35; rw [hx58, if_neg hc27, hu59, if_neg hc27] at k; exact k)⟩
  have K61 : Own.To p e below B0 T60 (mkF m 120 #[vr o0, vi 0, vi 3, vi 0, vi 0, vi x20, vl x19, .second, vl x58, .second, u59, .unset, .unset, .unset] [(.int 0)]) := fun t k => K60 t (by
    refine Own.iloadN X60 hx (D d38_119) rfl ?_
    exact k)
  have K62 : Own.To p e below B0 T60 (mkF m 148 #[vr o0, vi 0, vi 3, vi 0, vi 0, vi x20, vl x19, .second, vl x58, .second, u59, .unset, .unset, .unset] []) := fun t k => K61 t (by
    refine Own.ifYes X60 hx 148 (D d38_120) ((if0 _ _).trans (teq (by decide : (0 : Int32) = (0 : Int32))).1) (by decide) (by decide) ?_
    exact k)
  have mvv : x19 ∈ own_16 := by subst hx58; subst hx20; subst hx19; subst hx13; subst hx7; subst hx6; exact own_vv16_3 _ (own_k3 ch0) _ (own_k3 ch1) _ (own_k3 ch2)
  have myy : x58 ∈ own_16 := by subst hx58; subst hx20; subst hx19; subst hx13; subst hx7; subst hx6; rw [own_y2 ch0, own_y2 ch1, own_y2 ch2]; exact own_yy16_3 _ (own_k3 ch0) _ (own_k3 ch1) _ (own_k3 ch2)
  have hV : own_fin x19 x58 = own_V3 ch0 ch1 ch2 := by subst hx58; subst hx20; subst hx19; subst hx13; subst hx7; subst hx6; rfl
  rw [← hV]
  exact cVWt hw Bd hx hby hml hZ hown X60 e60 ou59 mvv myy K62

theorem own_V16_3 (ch0 ch1 ch2 : Int32) : (((((((0 : Int64) ||| (((own_kd ch2) &&& (1 : Int32)).toInt64)) <<< ((1 : Int32) &&& 0x3f).toInt64) ||| (((own_kd ch1) &&& (1 : Int32)).toInt64)) <<< ((1 : Int32) &&& 0x3f).toInt64) ||| (((own_kd ch0) &&& (1 : Int32)).toInt64))) ∈ own_16 ∧ ((if (((((0 : Int32) ||| (own_kd ch2)) ||| (own_kd ch1)) ||| (own_kd ch0)) &&& (2 : Int32)) = (0 : Int32) then (0 : Int64) else ((((((0 : Int64) ||| ((if ch2 = (121 : Int32) then (1 : Int32) else (0 : Int32)).toInt64)) <<< ((1 : Int32) &&& 0x3f).toInt64) ||| ((if ch1 = (121 : Int32) then (1 : Int32) else (0 : Int32)).toInt64)) <<< ((1 : Int32) &&& 0x3f).toInt64) ||| ((if ch0 = (121 : Int32) then (1 : Int32) else (0 : Int32)).toInt64)))) ∈ own_16 := ⟨own_vv16_3 _ (own_k3 ch0) _ (own_k3 ch1) _ (own_k3 ch2), by rw [own_y2 ch0, own_y2 ch1, own_y2 ch2]; exact own_yy16_3 _ (own_k3 ch0) _ (own_k3 ch1) _ (own_k3 ch2)⟩
theorem own_Vnn3 (ch0 ch1 ch2 : Int32) : ¬ own_V3 ch0 ch1 ch2 < 0 := (own_finnn _ (own_V16_3 ch0 ch1 ch2).1 _ (own_V16_3 ch0 ch1 ch2).2).1

theorem own_k12_4 : ∀ a0 ∈ ([0, 1, 2] : List Int32), ∀ a1 ∈ ([0, 1, 2] : List Int32), ∀ a2 ∈ ([0, 1, 2] : List Int32), ∀ a3 ∈ ([0, 1, 2] : List Int32), ((((((0 : Int32) ||| a3) ||| a2) ||| a1) ||| a0) &&& (12 : Int32)) = (0 : Int32) := by decide +kernel

theorem own_vv16_4 : ∀ a0 ∈ ([0, 1, 2] : List Int32), ∀ a1 ∈ ([0, 1, 2] : List Int32), ∀ a2 ∈ ([0, 1, 2] : List Int32), ∀ a3 ∈ ([0, 1, 2] : List Int32), (((((((((0 : Int64) ||| ((a3 &&& (1 : Int32)).toInt64)) <<< ((1 : Int32) &&& 0x3f).toInt64) ||| ((a2 &&& (1 : Int32)).toInt64)) <<< ((1 : Int32) &&& 0x3f).toInt64) ||| ((a1 &&& (1 : Int32)).toInt64)) <<< ((1 : Int32) &&& 0x3f).toInt64) ||| ((a0 &&& (1 : Int32)).toInt64))) ∈ own_16 := by decide +kernel

theorem own_yy16_4 : ∀ a0 ∈ ([0, 1, 2] : List Int32), ∀ a1 ∈ ([0, 1, 2] : List Int32), ∀ a2 ∈ ([0, 1, 2] : List Int32), ∀ a3 ∈ ([0, 1, 2] : List Int32), ((if ((((((0 : Int32) ||| a3) ||| a2) ||| a1) ||| a0) &&& (2 : Int32)) = (0 : Int32) then (0 : Int64) else ((((((((0 : Int64) ||| ((if a3 = (2 : Int32) then (1 : Int32) else (0 : Int32)).toInt64)) <<< ((1 : Int32) &&& 0x3f).toInt64) ||| ((if a2 = (2 : Int32) then (1 : Int32) else (0 : Int32)).toInt64)) <<< ((1 : Int32) &&& 0x3f).toInt64) ||| ((if a1 = (2 : Int32) then (1 : Int32) else (0 : Int32)).toInt64)) <<< ((1 : Int32) &&& 0x3f).toInt64) ||| ((if a0 = (2 : Int32) then (1 : Int32) else (0 : Int32)).toInt64)))) ∈ own_16 := by decide +kernel

def own_V4 (ch0 ch1 ch2 ch3 : Int32) : Int64 := own_fin (((((((((0 : Int64) ||| (((own_kd ch3) &&& (1 : Int32)).toInt64)) <<< ((1 : Int32) &&& 0x3f).toInt64) ||| (((own_kd ch2) &&& (1 : Int32)).toInt64)) <<< ((1 : Int32) &&& 0x3f).toInt64) ||| (((own_kd ch1) &&& (1 : Int32)).toInt64)) <<< ((1 : Int32) &&& 0x3f).toInt64) ||| (((own_kd ch0) &&& (1 : Int32)).toInt64))) ((if ((((((0 : Int32) ||| (own_kd ch3)) ||| (own_kd ch2)) ||| (own_kd ch1)) ||| (own_kd ch0)) &&& (2 : Int32)) = (0 : Int32) then (0 : Int64) else ((((((((0 : Int64) ||| ((if ch3 = (121 : Int32) then (1 : Int32) else (0 : Int32)).toInt64)) <<< ((1 : Int32) &&& 0x3f).toInt64) ||| ((if ch2 = (121 : Int32) then (1 : Int32) else (0 : Int32)).toInt64)) <<< ((1 : Int32) &&& 0x3f).toInt64) ||| ((if ch1 = (121 : Int32) then (1 : Int32) else (0 : Int32)).toInt64)) <<< ((1 : Int32) &&& 0x3f).toInt64) ||| ((if ch0 = (121 : Int32) then (1 : Int32) else (0 : Int32)).toInt64))))

set_option maxRecDepth 65536 in
set_option maxHeartbeats 40000000 in
theorem cVW4 (l : Launch) (Z : State) (a0 : Array Value) (hw : ∀ d ∈ tables_1, d.before a0 Z = true) (o0 : Addr) (wK : Addr) (ch0 : Int32) (ch1 : Int32) (ch2 : Int32) (ch3 : Int32) (h0 : Heap) (SK : Sta Z h0 "com/example/stemshear/stemshear/Condition" "KINDS" "[B" (.ref wK)) (KD : own_KD Z h0 wK) (A0 : Own.CA Z h0 o0 .char [ch0, ch1, ch2, ch3]) (hch0 : own_let ch0) (hch1 : own_let ch1) (hch2 : own_let ch2) (hch3 : own_let ch3) : Own.Con l Z (⟨"com/example/stemshear/stemshear/Condition", "vowels", "([CIIIZ)J"⟩ : MethodName) prog_10_method_23_code 14 (some .long) ({ frames := 2, cells := 0, slots := 0, locals := 26 } : Room) #[(.ref o0), (.int 0), (.int 4), (.int 0), (.int 0)] h0 (Own.Pure (.long (own_V4 ch0 ch1 ch2 ch3)) h0) := by
  intro ws
  refine MetFree.of_bodySF (plainFor_of_name pn_5) hisR ?_
  intro p e s m args below meth c s₁ Bd hml0 hP hK
  obtain ⟨rfl, hZ, hh⟩ := hP
  have hx := Bd.exec
  have hby := Bd.bytes
  have D := fun {n : Nat} {i} (d : decode prog_10_method_23_code n = .ok i) => hb hby d
  have hml : c.maxLocals = 14 := hml0
  have hown : s.vm.findClass "com/example/stemshear/stemshear/Condition" = some m.cls := findClass_of_methodNamed Bd.named
  have hnm := (name_of_methodNamed Bd.named Bd.method).1
  have X0 : Stand p l e ({ frames := 2, cells := 0, slots := 0, locals := 26 } : Room) s m #[(.ref o0), (.int 0), (.int 4), (.int 0), (.int 0)] below meth c s₁ [] 0 0 := Stand.of_body Bd
  have e0 : s₁.heap = h0 := by rw [← hh, Bd.state]; rfl
  have K0 : ∀ t, Steps p.tables e below (s₁.setTop (mkF m 0 #[vr o0, vi 0, vi 4, vi 0, vi 0, .unset, .unset, .unset, .unset, .unset, .unset, .unset, .unset, .unset] [])) t → Steps p.tables e below (s₁.setTop (entryFrame m #[(.ref o0), (.int 0), (.int 4), (.int 0), (.int 0)] 14)) t := fun t k => castTop (ef_38 m o0 (0 : Int32) (4 : Int32) (0 : Int32) (0 : Int32)) k
  generalize s₁.setTop (entryFrame m #[(.ref o0), (.int 0), (.int 4), (.int 0), (.int 0)] 14) = B0 at K0 ⊢
  show Own.Fin p e below B0 s (({ frames := 2, cells := 0, slots := 0, locals := 26 } : Room)).cells (({ frames := 2, cells := 0, slots := 0, locals := 26 } : Room)).slots (Own.Pure (.long (own_V4 ch0 ch1 ch2 ch3)) h0)
  have K1 : Own.To p e below B0 s₁ (mkF m 16 #[vr o0, vi 0, vi 4, vi 0, vi 0, vi 0, vl 0, .second, vi 3, .unset, .unset, .unset, .unset, .unset] [(.int 0), (.int 3)]) := fun t k => K0 t (by
    refine Own.iconst X0 hx 0 (D d38_0) rfl ?_
    refine Own.istore X0 hx #[vr o0, vi 0, vi 4, vi 0, vi 0, vi 0, .unset, .unset, .unset, .unset, .unset, .unset, .unset, .unset] (D d38_1) rfl ?_
    refine Own.lconst X0 hx (0 : Int64) (D d38_3) rfl ?_
    refine Own.lstore X0 hx #[vr o0, vi 0, vi 4, vi 0, vi 0, vi 0, vl 0, .second, .unset, .unset, .unset, .unset, .unset, .unset] (D d38_4) rfl ?_
    refine Own.iloadN X0 hx (D d38_6) rfl ?_
    refine Own.iloadN X0 hx (D d38_7) rfl ?_
    refine Own.iadd X0 hx (D d38_8) ?_
    refine Own.iconst X0 hx 1 (D d38_9) rfl ?_
    refine Own.isub X0 hx (D d38_10) ?_
    refine Own.istore X0 hx #[vr o0, vi 0, vi 4, vi 0, vi 0, vi 0, vl 0, .second, vi 3, .unset, .unset, .unset, .unset, .unset] (D d38_11) rfl ?_
    refine Own.iload X0 hx (D d38_13) rfl ?_
    refine Own.iloadN X0 hx (D d38_15) rfl ?_
    exact k)
  have K2 : Own.To p e below B0 s₁ (mkF m 22 #[vr o0, vi 0, vi 4, vi 0, vi 0, vi 0, vl 0, .second, vi 3, .unset, .unset, .unset, .unset, .unset] [(.int 3), (.ref o0)]) := fun t k => K1 t (by
    refine Own.icmpNo X0 hx (D d38_16) (flt (by decide : ¬ ((3 : Int32) < (0 : Int32)))).1 ?_
    refine Own.aloadN X0 hx (D d38_19) rfl rfl ?_
    refine Own.iload X0 hx (D d38_20) rfl ?_
    exact k)
  have K3 : Own.To p e below B0 s₁ (mkF m 23 #[vr o0, vi 0, vi 4, vi 0, vi 0, vi 0, vl 0, .second, vi 3, .unset, .unset, .unset, .unset, .unset] [(.int ch3)]) := fun t k => K2 t (by
    refine Own.cal X0 hx hZ e0 A0 ch3 (by decide) (show (3 : Int32).toNatClampNeg < 4 by decide) rfl (D d38_22) ?_
    exact k)
  obtain ⟨T4, X4, e4, st4⟩ := Own.callP (Ls := #[vr o0, vi 0, vi 4, vi 0, vi 0, vi 0, vl 0, .second, vi 3, .unset, .unset, .unset, .unset, .unset]) X0 hx hZ e0 [(.int ch3)] [] (cKI l Z a0 hw ch3 wK h0 SK KD hch3) hown (W_ hw 205 rfl) (W_ hw 206 rfl) (W_ hw 41 rfl) (W_ hw 207 rfl) (by decide) 0 rfl rfl (by decide) (by decide) (by decide) (by decide) (szOf hml rfl) (lenOf pd_19 rfl) rfl (Nat.le_of_eq rfl) (D d38_23)
  have K5 := fun t k => K3 t (st4 t k)
  obtain ⟨x6, hx6⟩ : ∃ z : Int64, z = ((0 : Int64) ||| (((own_kd ch3) &&& (1 : Int32)).toInt64)) := ⟨_, rfl⟩
  obtain ⟨x7, hx7⟩ : ∃ z : Int32, z = ((0 : Int32) ||| (own_kd ch3)) := ⟨_, rfl⟩
  have K8 : Own.To p e below B0 T4 (mkF m 16 #[vr o0, vi 0, vi 4, vi 0, vi 0, vi x7, vl x6, .second, vi 2, vi (own_kd ch3), .unset, .unset, .unset, .unset] [(.int 0), (.int 2)]) := fun t k => K5 t (by
    subst hx7 hx6
    refine Own.istore X4 hx #[vr o0, vi 0, vi 4, vi 0, vi 0, vi 0, vl 0, .second, vi 3, vi (own_kd ch3), .unset, .unset, .unset, .unset] (D d38_26) rfl ?_
    refine Own.lload X4 hx (D d38_28) rfl ?_
    refine Own.iconst X4 hx 1 (D d38_30) rfl ?_
    refine Own.lshl X4 hx (D d38_31) ?_
    refine Own.iload X4 hx (D d38_32) rfl ?_
    refine Own.iconst X4 hx 1 (D d38_34) rfl ?_
    refine Own.iand X4 hx (D d38_35) ?_
    refine Own.i2l X4 hx (D d38_36) ?_
    refine Own.lor X4 hx (D d38_37) ?_
    refine Own.lstore X4 hx #[vr o0, vi 0, vi 4, vi 0, vi 0, vi 0, vl ((0 : Int64) ||| (((own_kd ch3) &&& (1 : Int32)).toInt64)), .second, vi 3, vi (own_kd ch3), .unset, .unset, .unset, .unset] (D d38_38) rfl ?_
    refine Own.iload X4 hx (D d38_40) rfl ?_
    refine Own.iload X4 hx (D d38_42) rfl ?_
    refine Own.ior X4 hx (D d38_44) ?_
    refine Own.istore X4 hx #[vr o0, vi 0, vi 4, vi 0, vi 0, vi ((0 : Int32) ||| (own_kd ch3)), vl ((0 : Int64) ||| (((own_kd ch3) &&& (1 : Int32)).toInt64)), .second, vi 3, vi (own_kd ch3), .unset, .unset, .unset, .unset] (D d38_45) rfl ?_
    refine Own.iinc X4 hx (2 : Int32) #[vr o0, vi 0, vi 4, vi 0, vi 0, vi ((0 : Int32) ||| (own_kd ch3)), vl ((0 : Int64) ||| (((own_kd ch3) &&& (1 : Int32)).toInt64)), .second, vi 2, vi (own_kd ch3), .unset, .unset, .unset, .unset] (D d38_47) rfl rfl rfl ?_
    refine Own.goto X4 hx 13 (D d38_50) (by decide) (by decide) ?_
    refine Own.iload X4 hx (D d38_13) rfl ?_
    refine Own.iloadN X4 hx (D d38_15) rfl ?_
    exact k)
  have K9 : Own.To p e below B0 T4 (mkF m 22 #[vr o0, vi 0, vi 4, vi 0, vi 0, vi x7, vl x6, .second, vi 2, vi (own_kd ch3), .unset, .unset, .unset, .unset] [(.int 2), (.ref o0)]) := fun t k => K8 t (by
    refine Own.icmpNo X4 hx (D d38_16) (flt (by decide : ¬ ((2 : Int32) < (0 : Int32)))).1 ?_
    refine Own.aloadN X4 hx (D d38_19) rfl rfl ?_
    refine Own.iload X4 hx (D d38_20) rfl ?_
    exact k)
  have K10 : Own.To p e below B0 T4 (mkF m 23 #[vr o0, vi 0, vi 4, vi 0, vi 0, vi x7, vl x6, .second, vi 2, vi (own_kd ch3), .unset, .unset, .unset, .unset] [(.int ch2)]) := fun t k => K9 t (by
    refine Own.cal X4 hx hZ e4 A0 ch2 (by decide) (show (2 : Int32).toNatClampNeg < 4 by decide) rfl (D d38_22) ?_
    exact k)
  obtain ⟨T11, X11, e11, st11⟩ := Own.callP (Ls := #[vr o0, vi 0, vi 4, vi 0, vi 0, vi x7, vl x6, .second, vi 2, vi (own_kd ch3), .unset, .unset, .unset, .unset]) X4 hx hZ e4 [(.int ch2)] [] (cKI l Z a0 hw ch2 wK h0 SK KD hch2) hown (W_ hw 205 rfl) (W_ hw 206 rfl) (W_ hw 41 rfl) (W_ hw 207 rfl) (by decide) 0 rfl rfl (by decide) (by decide) (by decide) (by decide) (szOf hml rfl) (lenOf pd_19 rfl) rfl (Nat.le_of_eq rfl) (D d38_23)
  have K12 := fun t k => K10 t (st11 t k)
  obtain ⟨x13, hx13⟩ : ∃ z : Int64, z = ((x6 <<< ((1 : Int32) &&& 0x3f).toInt64) ||| (((own_kd ch2) &&& (1 : Int32)).toInt64)) := ⟨_, rfl⟩
  have K14 : Own.To p e below B0 T11 (mkF m 16 #[vr o0, vi 0, vi 4, vi 0, vi 0, vi (x7 ||| (own_kd ch2)), vl x13, .second, vi 1, vi (own_kd ch2), .unset, .unset, .unset, .unset] [(.int 0), (.int 1)]) := fun t k => K12 t (by
    subst hx13
    refine Own.istore X11 hx #[vr o0, vi 0, vi 4, vi 0, vi 0, vi x7, vl x6, .second, vi 2, vi (own_kd ch2), .unset, .unset, .unset, .unset] (D d38_26) rfl ?_
    refine Own.lload X11 hx (D d38_28) rfl ?_
    refine Own.iconst X11 hx 1 (D d38_30) rfl ?_
    refine Own.lshl X11 hx (D d38_31) ?_
    refine Own.iload X11 hx (D d38_32) rfl ?_
    refine Own.iconst X11 hx 1 (D d38_34) rfl ?_
    refine Own.iand X11 hx (D d38_35) ?_
    refine Own.i2l X11 hx (D d38_36) ?_
    refine Own.lor X11 hx (D d38_37) ?_
    refine Own.lstore X11 hx #[vr o0, vi 0, vi 4, vi 0, vi 0, vi x7, vl ((x6 <<< ((1 : Int32) &&& 0x3f).toInt64) ||| (((own_kd ch2) &&& (1 : Int32)).toInt64)), .second, vi 2, vi (own_kd ch2), .unset, .unset, .unset, .unset] (D d38_38) rfl ?_
    refine Own.iload X11 hx (D d38_40) rfl ?_
    refine Own.iload X11 hx (D d38_42) rfl ?_
    refine Own.ior X11 hx (D d38_44) ?_
    refine Own.istore X11 hx #[vr o0, vi 0, vi 4, vi 0, vi 0, vi (x7 ||| (own_kd ch2)), vl ((x6 <<< ((1 : Int32) &&& 0x3f).toInt64) ||| (((own_kd ch2) &&& (1 : Int32)).toInt64)), .second, vi 2, vi (own_kd ch2), .unset, .unset, .unset, .unset] (D d38_45) rfl ?_
    refine Own.iinc X11 hx (1 : Int32) #[vr o0, vi 0, vi 4, vi 0, vi 0, vi (x7 ||| (own_kd ch2)), vl ((x6 <<< ((1 : Int32) &&& 0x3f).toInt64) ||| (((own_kd ch2) &&& (1 : Int32)).toInt64)), .second, vi 1, vi (own_kd ch2), .unset, .unset, .unset, .unset] (D d38_47) rfl rfl rfl ?_
    refine Own.goto X11 hx 13 (D d38_50) (by decide) (by decide) ?_
    refine Own.iload X11 hx (D d38_13) rfl ?_
    refine Own.iloadN X11 hx (D d38_15) rfl ?_
    exact k)
  have K15 : Own.To p e below B0 T11 (mkF m 22 #[vr o0, vi 0, vi 4, vi 0, vi 0, vi (x7 ||| (own_kd ch2)), vl x13, .second, vi 1, vi (own_kd ch2), .unset, .unset, .unset, .unset] [(.int 1), (.ref o0)]) := fun t k => K14 t (by
    refine Own.icmpNo X11 hx (D d38_16) (flt (by decide : ¬ ((1 : Int32) < (0 : Int32)))).1 ?_
    refine Own.aloadN X11 hx (D d38_19) rfl rfl ?_
    refine Own.iload X11 hx (D d38_20) rfl ?_
    exact k)
  have K16 : Own.To p e below B0 T11 (mkF m 23 #[vr o0, vi 0, vi 4, vi 0, vi 0, vi (x7 ||| (own_kd ch2)), vl x13, .second, vi 1, vi (own_kd ch2), .unset, .unset, .unset, .unset] [(.int ch1)]) := fun t k => K15 t (by
    refine Own.cal X11 hx hZ e11 A0 ch1 (by decide) (show (1 : Int32).toNatClampNeg < 4 by decide) rfl (D d38_22) ?_
    exact k)
  obtain ⟨T17, X17, e17, st17⟩ := Own.callP (Ls := #[vr o0, vi 0, vi 4, vi 0, vi 0, vi (x7 ||| (own_kd ch2)), vl x13, .second, vi 1, vi (own_kd ch2), .unset, .unset, .unset, .unset]) X11 hx hZ e11 [(.int ch1)] [] (cKI l Z a0 hw ch1 wK h0 SK KD hch1) hown (W_ hw 205 rfl) (W_ hw 206 rfl) (W_ hw 41 rfl) (W_ hw 207 rfl) (by decide) 0 rfl rfl (by decide) (by decide) (by decide) (by decide) (szOf hml rfl) (lenOf pd_19 rfl) rfl (Nat.le_of_eq rfl) (D d38_23)
  have K18 := fun t k => K16 t (st17 t k)
  obtain ⟨x19, hx19⟩ : ∃ z : Int64, z = ((x13 <<< ((1 : Int32) &&& 0x3f).toInt64) ||| (((own_kd ch1) &&& (1 : Int32)).toInt64)) := ⟨_, rfl⟩
  obtain ⟨x20, hx20⟩ : ∃ z : Int32, z = ((x7 ||| (own_kd ch2)) ||| (own_kd ch1)) := ⟨_, rfl⟩
  have K21 : Own.To p e below B0 T17 (mkF m 16 #[vr o0, vi 0, vi 4, vi 0, vi 0, vi x20, vl x19, .second, vi 0, vi (own_kd ch1), .unset, .unset, .unset, .unset] [(.int 0), (.int 0)]) := fun t k => K18 t (by
    subst hx20 hx19
    refine Own.istore X17 hx #[vr o0, vi 0, vi 4, vi 0, vi 0, vi (x7 ||| (own_kd ch2)), vl x13, .second, vi 1, vi (own_kd ch1), .unset, .unset, .unset, .unset] (D d38_26) rfl ?_
    refine Own.lload X17 hx (D d38_28) rfl ?_
    refine Own.iconst X17 hx 1 (D d38_30) rfl ?_
    refine Own.lshl X17 hx (D d38_31) ?_
    refine Own.iload X17 hx (D d38_32) rfl ?_
    refine Own.iconst X17 hx 1 (D d38_34) rfl ?_
    refine Own.iand X17 hx (D d38_35) ?_
    refine Own.i2l X17 hx (D d38_36) ?_
    refine Own.lor X17 hx (D d38_37) ?_
    refine Own.lstore X17 hx #[vr o0, vi 0, vi 4, vi 0, vi 0, vi (x7 ||| (own_kd ch2)), vl ((x13 <<< ((1 : Int32) &&& 0x3f).toInt64) ||| (((own_kd ch1) &&& (1 : Int32)).toInt64)), .second, vi 1, vi (own_kd ch1), .unset, .unset, .unset, .unset] (D d38_38) rfl ?_
    refine Own.iload X17 hx (D d38_40) rfl ?_
    refine Own.iload X17 hx (D d38_42) rfl ?_
    refine Own.ior X17 hx (D d38_44) ?_
    refine Own.istore X17 hx #[vr o0, vi 0, vi 4, vi 0, vi 0, vi ((x7 ||| (own_kd ch2)) ||| (own_kd ch1)), vl ((x13 <<< ((1 : Int32) &&& 0x3f).toInt64) ||| (((own_kd ch1) &&& (1 : Int32)).toInt64)), .second, vi 1, vi (own_kd ch1), .unset, .unset, .unset, .unset] (D d38_45) rfl ?_
    refine Own.iinc X17 hx (0 : Int32) #[vr o0, vi 0, vi 4, vi 0, vi 0, vi ((x7 ||| (own_kd ch2)) ||| (own_kd ch1)), vl ((x13 <<< ((1 : Int32) &&& 0x3f).toInt64) ||| (((own_kd ch1) &&& (1 : Int32)).toInt64)), .second, vi 0, vi (own_kd ch1), .unset, .unset, .unset, .unset] (D d38_47) rfl rfl rfl ?_
    refine Own.goto X17 hx 13 (D d38_50) (by decide) (by decide) ?_
    refine Own.iload X17 hx (D d38_13) rfl ?_
    refine Own.iloadN X17 hx (D d38_15) rfl ?_
    exact k)
  have K22 : Own.To p e below B0 T17 (mkF m 22 #[vr o0, vi 0, vi 4, vi 0, vi 0, vi x20, vl x19, .second, vi 0, vi (own_kd ch1), .unset, .unset, .unset, .unset] [(.int 0), (.ref o0)]) := fun t k => K21 t (by
    refine Own.icmpNo X17 hx (D d38_16) (flt (by decide : ¬ ((0 : Int32) < (0 : Int32)))).1 ?_
    refine Own.aloadN X17 hx (D d38_19) rfl rfl ?_
    refine Own.iload X17 hx (D d38_20) rfl ?_
    exact k)
  have K23 : Own.To p e below B0 T17 (mkF m 23 #[vr o0, vi 0, vi 4, vi 0, vi 0, vi x20, vl x19, .second, vi 0, vi (own_kd ch1), .unset, .unset, .unset, .unset] [(.int ch0)]) := fun t k => K22 t (by
    refine Own.cal X17 hx hZ e17 A0 ch0 (by decide) (show (0 : Int32).toNatClampNeg < 4 by decide) rfl (D d38_22) ?_
    exact k)
  obtain ⟨T24, X24, e24, st24⟩ := Own.callP (Ls := #[vr o0, vi 0, vi 4, vi 0, vi 0, vi x20, vl x19, .second, vi 0, vi (own_kd ch1), .unset, .unset, .unset, .unset]) X17 hx hZ e17 [(.int ch0)] [] (cKI l Z a0 hw ch0 wK h0 SK KD hch0) hown (W_ hw 205 rfl) (W_ hw 206 rfl) (W_ hw 41 rfl) (W_ hw 207 rfl) (by decide) 0 rfl rfl (by decide) (by decide) (by decide) (by decide) (szOf hml rfl) (lenOf pd_19 rfl) rfl (Nat.le_of_eq rfl) (D d38_23)
  have K25 := fun t k => K23 t (st24 t k)
  obtain ⟨x26, hx26⟩ : ∃ z : Int64, z = ((x19 <<< ((1 : Int32) &&& 0x3f).toInt64) ||| (((own_kd ch0) &&& (1 : Int32)).toInt64)) := ⟨_, rfl⟩
  have K27 : Own.To p e below B0 T24 (mkF m 16 #[vr o0, vi 0, vi 4, vi 0, vi 0, vi (x20 ||| (own_kd ch0)), vl x26, .second, vi (-1), vi (own_kd ch0), .unset, .unset, .unset, .unset] [(.int 0), (.int (-1))]) := fun t k => K25 t (by
    subst hx26
    refine Own.istore X24 hx #[vr o0, vi 0, vi 4, vi 0, vi 0, vi x20, vl x19, .second, vi 0, vi (own_kd ch0), .unset, .unset, .unset, .unset] (D d38_26) rfl ?_
    refine Own.lload X24 hx (D d38_28) rfl ?_
    refine Own.iconst X24 hx 1 (D d38_30) rfl ?_
    refine Own.lshl X24 hx (D d38_31) ?_
    refine Own.iload X24 hx (D d38_32) rfl ?_
    refine Own.iconst X24 hx 1 (D d38_34) rfl ?_
    refine Own.iand X24 hx (D d38_35) ?_
    refine Own.i2l X24 hx (D d38_36) ?_
    refine Own.lor X24 hx (D d38_37) ?_
    refine Own.lstore X24 hx #[vr o0, vi 0, vi 4, vi 0, vi 0, vi x20, vl ((x19 <<< ((1 : Int32) &&& 0x3f).toInt64) ||| (((own_kd ch0) &&& (1 : Int32)).toInt64)), .second, vi 0, vi (own_kd ch0), .unset, .unset, .unset, .unset] (D d38_38) rfl ?_
    refine Own.iload X24 hx (D d38_40) rfl ?_
    refine Own.iload X24 hx (D d38_42) rfl ?_
    refine Own.ior X24 hx (D d38_44) ?_
    refine Own.istore X24 hx #[vr o0, vi 0, vi 4, vi 0, vi 0, vi (x20 ||| (own_kd ch0)), vl ((x19 <<< ((1 : Int32) &&& 0x3f).toInt64) ||| (((own_kd ch0) &&& (1 : Int32)).toInt64)), .second, vi 0, vi (own_kd ch0), .unset, .unset, .unset, .unset] (D d38_45) rfl ?_
    refine Own.iinc X24 hx (-1 : Int32) #[vr o0, vi 0, vi 4, vi 0, vi 0, vi (x20 ||| (own_kd ch0)), vl ((x19 <<< ((1 : Int32) &&& 0x3f).toInt64) ||| (((own_kd ch0) &&& (1 : Int32)).toInt64)), .second, vi (-1), vi (own_kd ch0), .unset, .unset, .unset, .unset] (D d38_47) rfl rfl rfl ?_
    refine Own.goto X24 hx 13 (D d38_50) (by decide) (by decide) ?_
    refine Own.iload X24 hx (D d38_13) rfl ?_
    refine Own.iloadN X24 hx (D d38_15) rfl ?_
    exact k)
  have K28 : Own.To p e below B0 T24 (mkF m 57 #[vr o0, vi 0, vi 4, vi 0, vi 0, vi (x20 ||| (own_kd ch0)), vl x26, .second, vi (-1), vi (own_kd ch0), .unset, .unset, .unset, .unset] [(.int 0), (.int (x20 ||| (own_kd ch0)))]) := fun t k => K27 t (by
    refine Own.icmpYes X24 hx 53 (D d38_16) (tlt (by decide : (-1 : Int32) < (0 : Int32))).1 (by decide) (by decide) ?_
    refine Own.iload X24 hx (D d38_53) rfl ?_
    refine Own.iload X24 hx (D d38_55) rfl ?_
    exact k)
  obtain ⟨T29, X29, e29, st29⟩ := Own.callP (Ls := #[vr o0, vi 0, vi 4, vi 0, vi 0, vi (x20 ||| (own_kd ch0)), vl x26, .second, vi (-1), vi (own_kd ch0), .unset, .unset, .unset, .unset]) X24 hx hZ e24 [(.int 0)] [(.int (x20 ||| (own_kd ch0)))] (cNIW l Z a0 hw h0) hown (W_ hw 211 rfl) (W_ hw 212 rfl) (W_ hw 41 rfl) (W_ hw 213 rfl) (by decide) 1 rfl rfl (by decide) (by decide) (by decide) (by decide) (szOf hml rfl) (lenOf pd_20 rfl) rfl (Nat.le_of_eq rfl) (D d38_57)
  have K30 := fun t k => K28 t (st29 t k)
  have K31 : Own.To p e below B0 T29 (mkF m 61 #[vr o0, vi 0, vi 4, vi 0, vi 0, vi (x20 ||| (own_kd ch0)), vl x26, .second, vi (-1), vi (own_kd ch0), .unset, .unset, .unset, .unset] [(.int ((x20 ||| (own_kd ch0)) &&& (12 : Int32)))]) := fun t k => K30 t (by
    refine Own.iand X29 hx (D d38_60) ?_
    exact k)
  have K32 : Own.To p e below B0 T29 (mkF m 75 #[vr o0, vi 0, vi 4, vi 0, vi 0, vi (x20 ||| (own_kd ch0)), vl x26, .second, vl 0, .second, .unset, .unset, .unset, .unset] [(.int ((x20 ||| (own_kd ch0)) &&& (2 : Int32)))]) := fun t k => K31 t (by
    refine Own.ifYes X29 hx 68 (D d38_61) ((if0 _ _).trans (teq (by subst hx26; subst hx20; subst hx19; subst hx13; subst hx7; subst hx6; exact own_k12_4 _ (own_k3 ch0) _ (own_k3 ch1) _ (own_k3 ch2) _ (own_k3 ch3) : ((x20 ||| (own_kd ch0)) &&& (12 : Int32)) = (0 : Int32))).1) (by decide) (by decide) ?_
    refine Own.lconst X29 hx (0 : Int64) (D d38_68) rfl ?_
    refine Own.lstore X29 hx #[vr o0, vi 0, vi 4, vi 0, vi 0, vi (x20 ||| (own_kd ch0)), vl x26, .second, vl 0, .second, .unset, .unset, .unset, .unset] (D d38_69) rfl ?_
    refine Own.iload X29 hx (D d38_71) rfl ?_
    refine Own.iconst X29 hx 2 (D d38_73) rfl ?_
    refine Own.iand X29 hx (D d38_74) ?_
    exact k)
  obtain ⟨x73, hx73⟩ : ∃ z : Int64, z = (if ((x20 ||| (own_kd ch0)) &&& (2 : Int32)) = (0 : Int32) then (0 : Int64) else ((((((((0 : Int64) ||| ((if ch3 = (121 : Int32) then (1 : Int32) else (0 : Int32)).toInt64)) <<< ((1 : Int32) &&& 0x3f).toInt64) ||| ((if ch2 = (121 : Int32) then (1 : Int32) else (0 : Int32)).toInt64)) <<< ((1 : Int32) &&& 0x3f).toInt64) ||| ((if ch1 = (121 : Int32) then (1 : Int32) else (0 : Int32)).toInt64)) <<< ((1 : Int32) &&& 0x3f).toInt64) ||| ((if ch0 = (121 : Int32) then (1 : Int32) else (0 : Int32)).toInt64))) := ⟨_, rfl⟩
  obtain ⟨u74, hu74⟩ : ∃ z : Slot, z = (if ((x20 ||| (own_kd ch0)) &&& (2 : Int32)) = (0 : Int32) then (.unset : Slot) else (vi (-1) : Slot)) := ⟨_, rfl⟩
  have ou74 : One u74 := by rw [hu74]; split; exact One.u; exact (One.val rfl)
  obtain ⟨T75, X75, e75, K75⟩ : ∃ T' : State, Stand p l e ({ frames := 2, cells := 0, slots := 0, locals := 26 } : Room) s m #[(.ref o0), (.int 0), (.int 4), (.int 0), (.int 0)] below meth c T' [] 0 0 ∧ T'.heap = h0 ∧ Own.To p e below B0 T' (mkF m 119 #[vr o0, vi 0, vi 4, vi 0, vi 0, vi (x20 ||| (own_kd ch0)), vl x26, .second, vl x73, .second, u74, .unset, .unset, .unset] []) := by
    by_cases hc33 : ((x20 ||| (own_kd ch0)) &&& (2 : Int32)) = (0 : Int32)
    · have K34 : Own.To p e below B0 T29 (mkF m 119 #[vr o0, vi 0, vi 4, vi 0, vi 0, vi (x20 ||| (own_kd ch0)), vl x26, .second, vl 0, .second, .unset, .unset, .unset, .unset] []) := fun t k => K32 t (by
        refine Own.ifYes X29 hx 119 (D d38_75) ((if0 _ _).trans (teq hc33).1) (by decide) (by decide) ?_
        exact k)
      exact ⟨T29, X29, e29, fun t k => K34 t (by rw [hx73, if_pos hc33, hu74, if_pos hc33] at k; exact k)⟩
    · have K35 : Own.To p e below B0 T29 (mkF m 88 #[vr o0, vi 0, vi 4, vi 0, vi 0, vi (x20 ||| (own_kd ch0)), vl x26, .second, vl 0, .second, vi 3, .unset, .unset, .unset] [(.int 0), (.int 3)]) := fun t k => K32 t (by
        refine Own.ifNo X29 hx (D d38_75) ((if0 _ _).trans (feq hc33).1) ?_
        refine Own.iloadN X29 hx (D d38_78) rfl ?_
        refine Own.iloadN X29 hx (D d38_79) rfl ?_
        refine Own.iadd X29 hx (D d38_80) ?_
        refine Own.iconst X29 hx 1 (D d38_81) rfl ?_
        refine Own.isub X29 hx (D d38_82) ?_
        refine Own.istore X29 hx #[vr o0, vi 0, vi 4, vi 0, vi 0, vi (x20 ||| (own_kd ch0)), vl x26, .second, vl 0, .second, vi 3, .unset, .unset, .unset] (D d38_83) rfl ?_
        refine Own.iload X29 hx (D d38_85) rfl ?_
        refine Own.iloadN X29 hx (D d38_87) rfl ?_
        exact k)
      have K36 : Own.To p e below B0 T29 (mkF m 98 #[vr o0, vi 0, vi 4, vi 0, vi 0, vi (x20 ||| (own_kd ch0)), vl x26, .second, vl 0, .second, vi 3, .unset, .unset, .unset] [(.int 3), (.ref o0), (.long 0)]) := fun t k => K35 t (by
        refine Own.icmpNo X29 hx (D d38_88) (flt (by decide : ¬ ((3 : Int32) < (0 : Int32)))).1 ?_
        refine Own.lload X29 hx (D d38_91) rfl ?_
        refine Own.iconst X29 hx 1 (D d38_93) rfl ?_
        refine Own.lshl X29 hx (D d38_94) ?_
        refine Own.aloadN X29 hx (D d38_95) rfl rfl ?_
        refine Own.iload X29 hx (D d38_96) rfl ?_
        exact k)
      have K37 : Own.To p e below B0 T29 (mkF m 101 #[vr o0, vi 0, vi 4, vi 0, vi 0, vi (x20 ||| (own_kd ch0)), vl x26, .second, vl 0, .second, vi 3, .unset, .unset, .unset] [(.int 121), (.int ch3), (.long 0)]) := fun t k => K36 t (by
        refine Own.cal X29 hx hZ e29 A0 ch3 (by decide) (show (3 : Int32).toNatClampNeg < 4 by decide) rfl (D d38_98) ?_
        refine Own.bipush X29 hx 121 (D d38_99) rfl ?_
        exact k)
      obtain ⟨x41, hx41⟩ : ∃ z : Int32, z = (if ch3 = (121 : Int32) then (1 : Int32) else (0 : Int32)) := ⟨_, rfl⟩
      obtain ⟨T42, X42, e42, K42⟩ : ∃ T' : State, Stand p l e ({ frames := 2, cells := 0, slots := 0, locals := 26 } : Room) s m #[(.ref o0), (.int 0), (.int 4), (.int 0), (.int 0)] below meth c T' [] 0 0 ∧ T'.heap = h0 ∧ Own.To p e below B0 T' (mkF m 109 #[vr o0, vi 0, vi 4, vi 0, vi 0, vi (x20 ||| (own_kd ch0)), vl x26, .second, vl 0, .second, vi 3, .unset, .unset, .unset] [(.int x41), (.long 0)]) := by
        by_cases hc38 : ch3 = (121 : Int32)
        · have K39 : Own.To p e below B0 T29 (mkF m 109 #[vr o0, vi 0, vi 4, vi 0, vi 0, vi (x20 ||| (own_kd ch0)), vl x26, .second, vl 0, .second, vi 3, .unset, .unset, .unset] [(.int 1), (.long 0)]) := fun t k => K37 t (by
            refine Own.icmpNo X29 hx (D d38_101) (teq hc38).2 ?_
            refine Own.iconst X29 hx 1 (D d38_104) rfl ?_
            refine Own.goto X29 hx 109 (D d38_105) (by decide) (by decide) ?_
            exact k)
          exact ⟨T29, X29, e29, fun t k => K39 t (by rw [hx41, if_pos hc38] at k; exact k)⟩
        · have K40 : Own.To p e below B0 T29 (mkF m 109 #[vr o0, vi 0, vi 4, vi 0, vi 0, vi (x20 ||| (own_kd ch0)), vl x26, .second, vl 0, .second, vi 3, .unset, .unset, .unset] [(.int 0), (.long 0)]) := fun t k => K37 t (by
            refine Own.icmpYes X29 hx 108 (D d38_101) (feq hc38).2 (by decide) (by decide) ?_
            refine Own.iconst X29 hx 0 (D d38_108) rfl ?_
            exact k)
          exact ⟨T29, X29, e29, fun t k => K40 t (by rw [hx41, if_neg hc38] at k; exact k)⟩
      obtain ⟨x43, hx43⟩ : ∃ z : Int64, z = ((0 : Int64) ||| (x41.toInt64)) := ⟨_, rfl⟩
      have K44 : Own.To p e below B0 T42 (mkF m 88 #[vr o0, vi 0, vi 4, vi 0, vi 0, vi (x20 ||| (own_kd ch0)), vl x26, .second, vl x43, .second, vi 2, .unset, .unset, .unset] [(.int 0), (.int 2)]) := fun t k => K42 t (by
        subst hx43
        refine Own.i2l X42 hx (D d38_109) ?_
        refine Own.lor X42 hx (D d38_110) ?_
        refine Own.lstore X42 hx #[vr o0, vi 0, vi 4, vi 0, vi 0, vi (x20 ||| (own_kd ch0)), vl x26, .second, vl ((0 : Int64) ||| (x41.toInt64)), .second, vi 3, .unset, .unset, .unset] (D d38_111) rfl ?_
        refine Own.iinc X42 hx (2 : Int32) #[vr o0, vi 0, vi 4, vi 0, vi 0, vi (x20 ||| (own_kd ch0)), vl x26, .second, vl ((0 : Int64) ||| (x41.toInt64)), .second, vi 2, .unset, .unset, .unset] (D d38_113) rfl rfl rfl ?_
        refine Own.goto X42 hx 85 (D d38_116) (by decide) (by decide) ?_
        refine Own.iload X42 hx (D d38_85) rfl ?_
        refine Own.iloadN X42 hx (D d38_87) rfl ?_
        exact k)
      have K45 : Own.To p e below B0 T42 (mkF m 98 #[vr o0, vi 0, vi 4, vi 0, vi 0, vi (x20 ||| (own_kd ch0)), vl x26, .second, vl x43, .second, vi 2, .unset, .unset, .unset] [(.int 2), (.ref o0), (.long (x43 <<< ((1 : Int32) &&& 0x3f).toInt64))]) := fun t k => K44 t (by
        refine Own.icmpNo X42 hx (D d38_88) (flt (by decide : ¬ ((2 : Int32) < (0 : Int32)))).1 ?_
        refine Own.lload X42 hx (D d38_91) rfl ?_
        refine Own.iconst X42 hx 1 (D d38_93) rfl ?_
        refine Own.lshl X42 hx (D d38_94) ?_
        refine Own.aloadN X42 hx (D d38_95) rfl rfl ?_
        refine Own.iload X42 hx (D d38_96) rfl ?_
        exact k)
      have K46 : Own.To p e below B0 T42 (mkF m 101 #[vr o0, vi 0, vi 4, vi 0, vi 0, vi (x20 ||| (own_kd ch0)), vl x26, .second, vl x43, .second, vi 2, .unset, .unset, .unset] [(.int 121), (.int ch2), (.long (x43 <<< ((1 : Int32) &&& 0x3f).toInt64))]) := fun t k => K45 t (by
        refine Own.cal X42 hx hZ e42 A0 ch2 (by decide) (show (2 : Int32).toNatClampNeg < 4 by decide) rfl (D d38_98) ?_
        refine Own.bipush X42 hx 121 (D d38_99) rfl ?_
        exact k)
      obtain ⟨x50, hx50⟩ : ∃ z : Int32, z = (if ch2 = (121 : Int32) then (1 : Int32) else (0 : Int32)) := ⟨_, rfl⟩
      obtain ⟨T51, X51, e51, K51⟩ : ∃ T' : State, Stand p l e ({ frames := 2, cells := 0, slots := 0, locals := 26 } : Room) s m #[(.ref o0), (.int 0), (.int 4), (.int 0), (.int 0)] below meth c T' [] 0 0 ∧ T'.heap = h0 ∧ Own.To p e below B0 T' (mkF m 109 #[vr o0, vi 0, vi 4, vi 0, vi 0, vi (x20 ||| (own_kd ch0)), vl x26, .second, vl x43, .second, vi 2, .unset, .unset, .unset] [(.int x50), (.long (x43 <<< ((1 : Int32) &&& 0x3f).toInt64))]) := by
        by_cases hc47 : ch2 = (121 : Int32)
        · have K48 : Own.To p e below B0 T42 (mkF m 109 #[vr o0, vi 0, vi 4, vi 0, vi 0, vi (x20 ||| (own_kd ch0)), vl x26, .second, vl x43, .second, vi 2, .unset, .unset, .unset] [(.int 1), (.long (x43 <<< ((1 : Int32) &&& 0x3f).toInt64))]) := fun t k => K46 t (by
            refine Own.icmpNo X42 hx (D d38_101) (teq hc47).2 ?_
            refine Own.iconst X42 hx 1 (D d38_104) rfl ?_
            refine Own.goto X42 hx 109 (D d38_105) (by decide) (by decide) ?_
            exact k)
          exact ⟨T42, X42, e42, fun t k => K48 t (by rw [hx50, if_pos hc47] at k; exact k)⟩
        · have K49 : Own.To p e below B0 T42 (mkF m 109 #[vr o0, vi 0, vi 4, vi 0, vi 0, vi (x20 ||| (own_kd ch0)), vl x26, .second, vl x43, .second, vi 2, .unset, .unset, .unset] [(.int 0), (.long (x43 <<< ((1 : Int32) &&& 0x3f).toInt64))]) := fun t k => K46 t (by
            refine Own.icmpYes X42 hx 108 (D d38_101) (feq hc47).2 (by decide) (by decide) ?_
            refine Own.iconst X42 hx 0 (D d38_108) rfl ?_
            exact k)
          exact ⟨T42, X42, e42, fun t k => K49 t (by rw [hx50, if_neg hc47] at k; exact k)⟩
      obtain ⟨x52, hx52⟩ : ∃ z : Int64, z = ((x43 <<< ((1 : Int32) &&& 0x3f).toInt64) ||| (x50.toInt64)) := ⟨_, rfl⟩
      have K53 : Own.To p e below B0 T51 (mkF m 88 #[vr o0, vi 0, vi 4, vi 0, vi 0, vi (x20 ||| (own_kd ch0)), vl x26, .second, vl x52, .second, vi 1, .unset, .unset, .unset] [(.int 0), (.int 1)]) := fun t k => K51 t (by
        subst hx52
        refine Own.i2l X51 hx (D d38_109) ?_
        refine Own.lor X51 hx (D d38_110) ?_
        refine Own.lstore X51 hx #[vr o0, vi 0, vi 4, vi 0, vi 0, vi (x20 ||| (own_kd ch0)), vl x26, .second, vl ((x43 <<< ((1 : Int32) &&& 0x3f).toInt64) ||| (x50.toInt64)), .second, vi 2, .unset, .unset, .unset] (D d38_111) rfl ?_
        refine Own.iinc X51 hx (1 : Int32) #[vr o0, vi 0, vi 4, vi 0, vi 0, vi (x20 ||| (own_kd ch0)), vl x26, .second, vl ((x43 <<< ((1 : Int32) &&& 0x3f).toInt64) ||| (x50.toInt64)), .second, vi 1, .unset, .unset, .unset] (D d38_113) rfl rfl rfl ?_
        refine Own.goto X51 hx 85 (D d38_116) (by decide) (by decide) ?_
        refine Own.iload X51 hx (D d38_85) rfl ?_
        refine Own.iloadN X51 hx (D d38_87) rfl ?_
        exact k)
      have K54 : Own.To p e below B0 T51 (mkF m 98 #[vr o0, vi 0, vi 4, vi 0, vi 0, vi (x20 ||| (own_kd ch0)), vl x26, .second, vl x52, .second, vi 1, .unset, .unset, .unset] [(.int 1), (.ref o0), (.long (x52 <<< ((1 : Int32) &&& 0x3f).toInt64))]) := fun t k => K53 t (by
        refine Own.icmpNo X51 hx (D d38_88) (flt (by decide : ¬ ((1 : Int32) < (0 : Int32)))).1 ?_
        refine Own.lload X51 hx (D d38_91) rfl ?_
        refine Own.iconst X51 hx 1 (D d38_93) rfl ?_
        refine Own.lshl X51 hx (D d38_94) ?_
        refine Own.aloadN X51 hx (D d38_95) rfl rfl ?_
        refine Own.iload X51 hx (D d38_96) rfl ?_
        exact k)
      have K55 : Own.To p e below B0 T51 (mkF m 101 #[vr o0, vi 0, vi 4, vi 0, vi 0, vi (x20 ||| (own_kd ch0)), vl x26, .second, vl x52, .second, vi 1, .unset, .unset, .unset] [(.int 121), (.int ch1), (.long (x52 <<< ((1 : Int32) &&& 0x3f).toInt64))]) := fun t k => K54 t (by
        refine Own.cal X51 hx hZ e51 A0 ch1 (by decide) (show (1 : Int32).toNatClampNeg < 4 by decide) rfl (D d38_98) ?_
        refine Own.bipush X51 hx 121 (D d38_99) rfl ?_
        exact k)
      obtain ⟨x59, hx59⟩ : ∃ z : Int32, z = (if ch1 = (121 : Int32) then (1 : Int32) else (0 : Int32)) := ⟨_, rfl⟩
      obtain ⟨T60, X60, e60, K60⟩ : ∃ T' : State, Stand p l e ({ frames := 2, cells := 0, slots := 0, locals := 26 } : Room) s m #[(.ref o0), (.int 0), (.int 4), (.int 0), (.int 0)] below meth c T' [] 0 0 ∧ T'.heap = h0 ∧ Own.To p e below B0 T' (mkF m 109 #[vr o0, vi 0, vi 4, vi 0, vi 0, vi (x20 ||| (own_kd ch0)), vl x26, .second, vl x52, .second, vi 1, .unset, .unset, .unset] [(.int x59), (.long (x52 <<< ((1 : Int32) &&& 0x3f).toInt64))]) := by
        by_cases hc56 : ch1 = (121 : Int32)
        · have K57 : Own.To p e below B0 T51 (mkF m 109 #[vr o0, vi 0, vi 4, vi 0, vi 0, vi (x20 ||| (own_kd ch0)), vl x26, .second, vl x52, .second, vi 1, .unset, .unset, .unset] [(.int 1), (.long (x52 <<< ((1 : Int32) &&& 0x3f).toInt64))]) := fun t k => K55 t (by
            refine Own.icmpNo X51 hx (D d38_101) (teq hc56).2 ?_
            refine Own.iconst X51 hx 1 (D d38_104) rfl ?_
            refine Own.goto X51 hx 109 (D d38_105) (by decide) (by decide) ?_
            exact k)
          exact ⟨T51, X51, e51, fun t k => K57 t (by rw [hx59, if_pos hc56] at k; exact k)⟩
        · have K58 : Own.To p e below B0 T51 (mkF m 109 #[vr o0, vi 0, vi 4, vi 0, vi 0, vi (x20 ||| (own_kd ch0)), vl x26, .second, vl x52, .second, vi 1, .unset, .unset, .unset] [(.int 0), (.long (x52 <<< ((1 : Int32) &&& 0x3f).toInt64))]) := fun t k => K55 t (by
            refine Own.icmpYes X51 hx 108 (D d38_101) (feq hc56).2 (by decide) (by decide) ?_
            refine Own.iconst X51 hx 0 (D d38_108) rfl ?_
            exact k)
          exact ⟨T51, X51, e51, fun t k => K58 t (by rw [hx59, if_neg hc56] at k; exact k)⟩
      obtain ⟨x61, hx61⟩ : ∃ z : Int64, z = ((x52 <<< ((1 : Int32) &&& 0x3f).toInt64) ||| (x59.toInt64)) := ⟨_, rfl⟩
      have K62 : Own.To p e below B0 T60 (mkF m 88 #[vr o0, vi 0, vi 4, vi 0, vi 0, vi (x20 ||| (own_kd ch0)), vl x26, .second, vl x61, .second, vi 0, .unset, .unset, .unset] [(.int 0), (.int 0)]) := fun t k => K60 t (by
        subst hx61
        refine Own.i2l X60 hx (D d38_109) ?_
        refine Own.lor X60 hx (D d38_110) ?_
        refine Own.lstore X60 hx #[vr o0, vi 0, vi 4, vi 0, vi 0, vi (x20 ||| (own_kd ch0)), vl x26, .second, vl ((x52 <<< ((1 : Int32) &&& 0x3f).toInt64) ||| (x59.toInt64)), .second, vi 1, .unset, .unset, .unset] (D d38_111) rfl ?_
        refine Own.iinc X60 hx (0 : Int32) #[vr o0, vi 0, vi 4, vi 0, vi 0, vi (x20 ||| (own_kd ch0)), vl x26, .second, vl ((x52 <<< ((1 : Int32) &&& 0x3f).toInt64) ||| (x59.toInt64)), .second, vi 0, .unset, .unset, .unset] (D d38_113) rfl rfl rfl ?_
        refine Own.goto X60 hx 85 (D d38_116) (by decide) (by decide) ?_
        refine Own.iload X60 hx (D d38_85) rfl ?_
        refine Own.iloadN X60 hx (D d38_87) rfl ?_
        exact k)
      have K63 : Own.To p e below B0 T60 (mkF m 98 #[vr o0, vi 0, vi 4, vi 0, vi 0, vi (x20 ||| (own_kd ch0)), vl x26, .second, vl x61, .second, vi 0, .unset, .unset, .unset] [(.int 0), (.ref o0), (.long (x61 <<< ((1 : Int32) &&& 0x3f).toInt64))]) := fun t k => K62 t (by
        refine Own.icmpNo X60 hx (D d38_88) (flt (by decide : ¬ ((0 : Int32) < (0 : Int32)))).1 ?_
        refine Own.lload X60 hx (D d38_91) rfl ?_
        refine Own.iconst X60 hx 1 (D d38_93) rfl ?_
        refine Own.lshl X60 hx (D d38_94) ?_
        refine Own.aloadN X60 hx (D d38_95) rfl rfl ?_
        refine Own.iload X60 hx (D d38_96) rfl ?_
        exact k)
      have K64 : Own.To p e below B0 T60 (mkF m 101 #[vr o0, vi 0, vi 4, vi 0, vi 0, vi (x20 ||| (own_kd ch0)), vl x26, .second, vl x61, .second, vi 0, .unset, .unset, .unset] [(.int 121), (.int ch0), (.long (x61 <<< ((1 : Int32) &&& 0x3f).toInt64))]) := fun t k => K63 t (by
        refine Own.cal X60 hx hZ e60 A0 ch0 (by decide) (show (0 : Int32).toNatClampNeg < 4 by decide) rfl (D d38_98) ?_
        refine Own.bipush X60 hx 121 (D d38_99) rfl ?_
        exact k)
      obtain ⟨x68, hx68⟩ : ∃ z : Int32, z = (if ch0 = (121 : Int32) then (1 : Int32) else (0 : Int32)) := ⟨_, rfl⟩
      obtain ⟨T69, X69, e69, K69⟩ : ∃ T' : State, Stand p l e ({ frames := 2, cells := 0, slots := 0, locals := 26 } : Room) s m #[(.ref o0), (.int 0), (.int 4), (.int 0), (.int 0)] below meth c T' [] 0 0 ∧ T'.heap = h0 ∧ Own.To p e below B0 T' (mkF m 109 #[vr o0, vi 0, vi 4, vi 0, vi 0, vi (x20 ||| (own_kd ch0)), vl x26, .second, vl x61, .second, vi 0, .unset, .unset, .unset] [(.int x68), (.long (x61 <<< ((1 : Int32) &&& 0x3f).toInt64))]) := by
        by_cases hc65 : ch0 = (121 : Int32)
        · have K66 : Own.To p e below B0 T60 (mkF m 109 #[vr o0, vi 0, vi 4, vi 0, vi 0, vi (x20 ||| (own_kd ch0)), vl x26, .second, vl x61, .second, vi 0, .unset, .unset, .unset] [(.int 1), (.long (x61 <<< ((1 : Int32) &&& 0x3f).toInt64))]) := fun t k => K64 t (by
            refine Own.icmpNo X60 hx (D d38_101) (teq hc65).2 ?_
            refine Own.iconst X60 hx 1 (D d38_104) rfl ?_
            refine Own.goto X60 hx 109 (D d38_105) (by decide) (by decide) ?_
            exact k)
          exact ⟨T60, X60, e60, fun t k => K66 t (by rw [hx68, if_pos hc65] at k; exact k)⟩
        · have K67 : Own.To p e below B0 T60 (mkF m 109 #[vr o0, vi 0, vi 4, vi 0, vi 0, vi (x20 ||| (own_kd ch0)), vl x26, .second, vl x61, .second, vi 0, .unset, .unset, .unset] [(.int 0), (.long (x61 <<< ((1 : Int32) &&& 0x3f).toInt64))]) := fun t k => K64 t (by
            refine Own.icmpYes X60 hx 108 (D d38_101) (feq hc65).2 (by decide) (by decide) ?_
            refine Own.iconst X60 hx 0 (D d38_108) rfl ?_
            exact k)
          exact ⟨T60, X60, e60, fun t k => K67 t (by rw [hx68, if_neg hc65] at k; exact k)⟩
      obtain ⟨x70, hx70⟩ : ∃ z : Int64, z = ((x61 <<< ((1 : Int32) &&& 0x3f).toInt64) ||| (x68.toInt64)) := ⟨_, rfl⟩
      have K71 : Own.To p e below B0 T69 (mkF m 88 #[vr o0, vi 0, vi 4, vi 0, vi 0, vi (x20 ||| (own_kd ch0)), vl x26, .second, vl x70, .second, vi (-1), .unset, .unset, .unset] [(.int 0), (.int (-1))]) := fun t k => K69 t (by
        subst hx70
        refine Own.i2l X69 hx (D d38_109) ?_
        refine Own.lor X69 hx (D d38_110) ?_
        refine Own.lstore X69 hx #[vr o0, vi 0, vi 4, vi 0, vi 0, vi (x20 ||| (own_kd ch0)), vl x26, .second, vl ((x61 <<< ((1 : Int32) &&& 0x3f).toInt64) ||| (x68.toInt64)), .second, vi 0, .unset, .unset, .unset] (D d38_111) rfl ?_
        refine Own.iinc X69 hx (-1 : Int32) #[vr o0, vi 0, vi 4, vi 0, vi 0, vi (x20 ||| (own_kd ch0)), vl x26, .second, vl ((x61 <<< ((1 : Int32) &&& 0x3f).toInt64) ||| (x68.toInt64)), .second, vi (-1), .unset, .unset, .unset] (D d38_113) rfl rfl rfl ?_
        refine Own.goto X69 hx 85 (D d38_116) (by decide) (by decide) ?_
        refine Own.iload X69 hx (D d38_85) rfl ?_
        refine Own.iloadN X69 hx (D d38_87) rfl ?_
        exact k)
      have K72 : Own.To p e below B0 T69 (mkF m 119 #[vr o0, vi 0, vi 4, vi 0, vi 0, vi (x20 ||| (own_kd ch0)), vl x26, .second, vl x70, .second, vi (-1), .unset, .unset, .unset] []) := fun t k => K71 t (by
        refine Own.icmpYes X69 hx 119 (D d38_88) (tlt (by decide : (-1 : Int32) < (0 : Int32))).1 (by decide) (by decide) ?_
        exact k)
      exact ⟨T69, X69, e69, fun t k => K72 t (by subst hx70 hx68 hx61 hx59 hx52 hx50 hx43 hx41; rw [hx73, if_neg hc33, hu74, if_neg hc33] at k; exact k)⟩
  have K76 : Own.To p e below B0 T75 (mkF m 120 #[vr o0, vi 0, vi 4, vi 0, vi 0, vi (x20 ||| (own_kd ch0)), vl x26, .second, vl x73, .second, u74, .unset, .unset, .unset] [(.int 0)]) := fun t k => K75 t (by
    refine Own.iloadN X75 hx (D d38_119) rfl ?_
    exact k)
  have K77 : Own.To p e below B0 T75 (mkF m 148 #[vr o0, vi 0, vi 4, vi 0, vi 0, vi (x20 ||| (own_kd ch0)), vl x26, .second, vl x73, .second, u74, .unset, .unset, .unset] []) := fun t k => K76 t (by
    refine Own.ifYes X75 hx 148 (D d38_120) ((if0 _ _).trans (teq (by decide : (0 : Int32) = (0 : Int32))).1) (by decide) (by decide) ?_
    exact k)
  have mvv : x26 ∈ own_16 := by subst hx73; subst hx26; subst hx20; subst hx19; subst hx13; subst hx7; subst hx6; exact own_vv16_4 _ (own_k3 ch0) _ (own_k3 ch1) _ (own_k3 ch2) _ (own_k3 ch3)
  have myy : x73 ∈ own_16 := by subst hx73; subst hx26; subst hx20; subst hx19; subst hx13; subst hx7; subst hx6; rw [own_y2 ch0, own_y2 ch1, own_y2 ch2, own_y2 ch3]; exact own_yy16_4 _ (own_k3 ch0) _ (own_k3 ch1) _ (own_k3 ch2) _ (own_k3 ch3)
  have hV : own_fin x26 x73 = own_V4 ch0 ch1 ch2 ch3 := by subst hx73; subst hx26; subst hx20; subst hx19; subst hx13; subst hx7; subst hx6; rfl
  rw [← hV]
  exact cVWt hw Bd hx hby hml hZ hown X75 e75 ou74 mvv myy K77

theorem own_V16_4 (ch0 ch1 ch2 ch3 : Int32) : (((((((((0 : Int64) ||| (((own_kd ch3) &&& (1 : Int32)).toInt64)) <<< ((1 : Int32) &&& 0x3f).toInt64) ||| (((own_kd ch2) &&& (1 : Int32)).toInt64)) <<< ((1 : Int32) &&& 0x3f).toInt64) ||| (((own_kd ch1) &&& (1 : Int32)).toInt64)) <<< ((1 : Int32) &&& 0x3f).toInt64) ||| (((own_kd ch0) &&& (1 : Int32)).toInt64))) ∈ own_16 ∧ ((if ((((((0 : Int32) ||| (own_kd ch3)) ||| (own_kd ch2)) ||| (own_kd ch1)) ||| (own_kd ch0)) &&& (2 : Int32)) = (0 : Int32) then (0 : Int64) else ((((((((0 : Int64) ||| ((if ch3 = (121 : Int32) then (1 : Int32) else (0 : Int32)).toInt64)) <<< ((1 : Int32) &&& 0x3f).toInt64) ||| ((if ch2 = (121 : Int32) then (1 : Int32) else (0 : Int32)).toInt64)) <<< ((1 : Int32) &&& 0x3f).toInt64) ||| ((if ch1 = (121 : Int32) then (1 : Int32) else (0 : Int32)).toInt64)) <<< ((1 : Int32) &&& 0x3f).toInt64) ||| ((if ch0 = (121 : Int32) then (1 : Int32) else (0 : Int32)).toInt64)))) ∈ own_16 := ⟨own_vv16_4 _ (own_k3 ch0) _ (own_k3 ch1) _ (own_k3 ch2) _ (own_k3 ch3), by rw [own_y2 ch0, own_y2 ch1, own_y2 ch2, own_y2 ch3]; exact own_yy16_4 _ (own_k3 ch0) _ (own_k3 ch1) _ (own_k3 ch2) _ (own_k3 ch3)⟩
theorem own_Vnn4 (ch0 ch1 ch2 ch3 : Int32) : ¬ own_V4 ch0 ch1 ch2 ch3 < 0 := (own_finnn _ (own_V16_4 ch0 ch1 ch2 ch3).1 _ (own_V16_4 ch0 ch1 ch2 ch3).2).1

def own_Vg (cs : List Int32) : Int64 := match cs with | [a] => own_V1 a | [a, b] => own_V2 a b | [a, b, c] => own_V3 a b c | [a, b, c, d] => own_V4 a b c d | _ => 0
theorem own_Vgnn (cs : List Int32) : ¬ own_Vg cs < 0 ∧ ¬ ((own_Vg cs).toUInt64 >>> ((1 : Int32) &&& 0x3f).toInt64.toUInt64).toInt64 < 0 := by
  unfold own_Vg
  split
  · exact own_finnn _ (own_V16_1 _).1 _ (own_V16_1 _).2
  · exact own_finnn _ (own_V16_2 _ _).1 _ (own_V16_2 _ _).2
  · exact own_finnn _ (own_V16_3 _ _ _).1 _ (own_V16_3 _ _ _).2
  · exact own_finnn _ (own_V16_4 _ _ _ _).1 _ (own_V16_4 _ _ _ _).2
  · exact ⟨by decide, by decide⟩

theorem cVWg (l : Launch) (Z : State) (a0 : Array Value) (hw : ∀ d ∈ tables_1, d.before a0 Z = true) (o0 : Addr) (wK : Addr) (cs : List Int32) (h0 : Heap) (SK : Sta Z h0 "com/example/stemshear/stemshear/Condition" "KINDS" "[B" (.ref wK)) (KD : own_KD Z h0 wK) (hlen : cs.length ≤ 4) (hpos : 0 < cs.length) (A0 : Own.CA Z h0 o0 .char cs) (hl : ∀ c ∈ cs, own_let c) :
    Own.Con l Z (⟨"com/example/stemshear/stemshear/Condition", "vowels", "([CIIIZ)J"⟩ : MethodName) prog_10_method_23_code 14 (some .long) ({ frames := 2, cells := 0, slots := 0, locals := 26 } : Room) #[(.ref o0), (.int 0), (.int (Int32.ofNat cs.length)), (.int 0), (.int 0)] h0 (Own.Pure (.long (own_Vg cs)) h0) :=
  match cs, hlen, hpos, A0, hl with
  | [], _, h, _, _ => absurd h (by decide)
  | [a], _, _, A0, hl => cVW1 l Z a0 hw o0 wK a h0 SK KD A0 (hl a (List.mem_of_getElem? (i := 0) rfl))
  | [a, b], _, _, A0, hl => cVW2 l Z a0 hw o0 wK a b h0 SK KD A0 (hl a (List.mem_of_getElem? (i := 0) rfl)) (hl b (List.mem_of_getElem? (i := 1) rfl))
  | [a, b, c], _, _, A0, hl => cVW3 l Z a0 hw o0 wK a b c h0 SK KD A0 (hl a (List.mem_of_getElem? (i := 0) rfl)) (hl b (List.mem_of_getElem? (i := 1) rfl)) (hl c (List.mem_of_getElem? (i := 2) rfl))
  | [a, b, c, d], _, _, A0, hl => cVW4 l Z a0 hw o0 wK a b c d h0 SK KD A0 (hl a (List.mem_of_getElem? (i := 0) rfl)) (hl b (List.mem_of_getElem? (i := 1) rfl)) (hl c (List.mem_of_getElem? (i := 2) rfl)) (hl d (List.mem_of_getElem? (i := 3) rfl))
  | _ :: _ :: _ :: _ :: _ :: _, h, _, _, _ => absurd h (by simp only [List.length_cons]; omega)

def own_Wg (p0 : Int32) (rs : List Int32) : Int64 := (((own_Vg (p0 :: rs)).toUInt64 >>> ((1 : Int32) &&& 0x3f).toInt64.toUInt64).toInt64)
theorem own_Wgnn (p : Int32) (rs : List Int32) : ¬ own_Wg p rs < 0 := (own_Vgnn _).2

theorem d15_0 : decode J45 0 = .ok (.new 43, 3) := by decide +kernel
theorem d15_3 : decode J45 3 = .ok (.dup, 1) := by decide +kernel
theorem d15_4 : decode J45 4 = .ok (.invokespecial 45, 3) := by decide +kernel
theorem d15_7 : decode J45 7 = .ok (.iload_n 0, 1) := by decide +kernel
theorem d15_8 : decode J45 8 = .ok (.invokevirtual 107, 3) := by decide +kernel
theorem d15_11 : decode J45 11 = .ok (.aload_n 1, 1) := by decide +kernel
theorem d15_12 : decode J45 12 = .ok (.invokevirtual 48, 3) := by decide +kernel
theorem d15_15 : decode J45 15 = .ok (.invokevirtual 55, 3) := by decide +kernel
theorem d15_18 : decode J45 18 = .ok (.invokevirtual 78, 3) := by decide +kernel
theorem d15_21 : decode J45 21 = .ok (.astore_n 2, 1) := by decide +kernel
theorem d15_22 : decode J45 22 = .ok (.aload_n 2, 1) := by decide +kernel
theorem d15_23 : decode J45 23 = .ok (.iconst 0, 1) := by decide +kernel
theorem d15_24 : decode J45 24 = .ok (.aload_n 2, 1) := by decide +kernel
theorem d15_25 : decode J45 25 = .ok (.arraylength, 1) := by decide +kernel
theorem d15_26 : decode J45 26 = .ok (.iconst 0, 1) := by decide +kernel
theorem d15_27 : decode J45 27 = .ok (.iconst 0, 1) := by decide +kernel
theorem d15_28 : decode J45 28 = .ok (.invokestatic 110, 3) := by decide +kernel
theorem d15_31 : decode J45 31 = .ok (.lstore_n 3, 1) := by decide +kernel
theorem d15_32 : decode J45 32 = .ok (.lload_n 3, 1) := by decide +kernel
theorem d15_33 : decode J45 33 = .ok (.lconst 0, 1) := by decide +kernel
theorem d15_34 : decode J45 34 = .ok (.lcmp, 1) := by decide +kernel
theorem d15_35 : decode J45 35 = .ok (.ifCond .ge 7, 3) := by decide +kernel
theorem d15_42 : decode J45 42 = .ok (.lload_n 3, 1) := by decide +kernel
theorem d15_43 : decode J45 43 = .ok (.iconst 1, 1) := by decide +kernel
theorem d15_44 : decode J45 44 = .ok (.lushr, 1) := by decide +kernel
theorem d15_45 : decode J45 45 = .ok (.lreturn, 1) := by decide +kernel
theorem pn_6 : plainName "com/example/stemshear/stemshear/Rule" = true := by first | (simp [plainName, overriddenIn]; done) | decide +kernel
theorem pd_21 : parseMethodDescriptor "()V" = some ⟨[], none⟩ := by decide +kernel
theorem pd_22 : parseMethodDescriptor "(C)Ljava/lang/StringBuilder;" = some ⟨[.char], some (.object "java/lang/StringBuilder")⟩ := by decide +kernel
theorem pd_23 : parseMethodDescriptor "(Ljava/lang/String;)Ljava/lang/StringBuilder;" = some ⟨[(.object "java/lang/String")], some (.object "java/lang/StringBuilder")⟩ := by decide +kernel
theorem pd_24 : parseMethodDescriptor "()Ljava/lang/String;" = some ⟨[], some (.object "java/lang/String")⟩ := by decide +kernel
theorem pd_25 : parseMethodDescriptor "()[C" = some ⟨[], some (.array .char)⟩ := by decide +kernel
theorem pd_26 : parseMethodDescriptor "([CIIIZ)J" = some ⟨[(.array .char), .int, .int, .int, .boolean], some .long⟩ := by decide +kernel
theorem ef_15 (m : MethodId) (p0 : Int32) (o1 : Addr) : entryFrame m #[(.int p0), (.ref o1)] 5 = mkF m 0 #[.val (.int p0), .val (.ref o1), .unset, .unset, .unset] [] := by first | (simp [entryFrame, mkF, argsToLocals, Value.category]; done) | rfl
set_option maxRecDepth 65536 in
set_option maxHeartbeats 40000000 in
theorem cVF (l : Launch) (Z : State) (a0 : Array Value) (hw : ∀ d ∈ tables_1, d.before a0 Z = true) (p0 : Int32) (o1 : Addr) (n0 : Nat) (wK : Addr) (rs : List Int32) (G1 : Int32) (h0 : Heap) (Z0 : n0 ≤ h0.size) (SK : Sta Z h0 "com/example/stemshear/stemshear/Condition" "KINDS" "[B" (.ref wK)) (KD : own_KD Z h0 wK) (TX : own_Txt Z h0 o1 rs) (hrs : rs.length ≤ 3) (hp0 : own_let p0) (hl : ∀ c ∈ rs, own_let c) (SC : Sta Z h0 "java/lang/String" "COMPACT_STRINGS" "Z" (.int G1)) (hG1 : ¬ G1 = 0) : Own.Con l Z (⟨"com/example/stemshear/stemshear/Rule", "vowelsFollowing", "(CLjava/lang/String;)J"⟩ : MethodName) prog_36_method_5_code 5 (some .long) ({ frames := 6, cells := 6, slots := 60, locals := 91 } : Room) #[(.int p0), (.ref o1)] h0 (fun v h L => v = some (.long (own_Wg p0 rs)) ∧ Fr n0 L ∧ Keep h0 h []) := by
  intro ws
  refine MetFree.of_bodySF (plainFor_of_name pn_6) hisR ?_
  intro p e s m args below meth c s₁ Bd hml0 hP hK
  obtain ⟨rfl, hZ, hh⟩ := hP
  have hx := Bd.exec
  have hby := Bd.bytes
  have D := fun {n : Nat} {i} (d : decode prog_36_method_5_code n = .ok i) => hb hby d
  have hml : c.maxLocals = 5 := hml0
  have hown : s.vm.findClass "com/example/stemshear/stemshear/Rule" = some m.cls := findClass_of_methodNamed Bd.named
  have hnm := (name_of_methodNamed Bd.named Bd.method).1
  have X0 : Stand p l e ({ frames := 6, cells := 6, slots := 60, locals := 91 } : Room) s m #[(.int p0), (.ref o1)] below meth c s₁ [] 0 0 := Stand.of_body Bd
  have e0 : s₁.heap = h0 := by rw [← hh, Bd.state]; rfl
  have K0 : ∀ t, Steps p.tables e below (s₁.setTop (mkF m 0 #[vi p0, vr o1, .unset, .unset, .unset] [])) t → Steps p.tables e below (s₁.setTop (entryFrame m #[(.int p0), (.ref o1)] 5)) t := fun t k => castTop (ef_15 m p0 o1) k
  generalize s₁.setTop (entryFrame m #[(.int p0), (.ref o1)] 5) = B0 at K0 ⊢
  show Own.Fin p e below B0 s (({ frames := 6, cells := 6, slots := 60, locals := 91 } : Room)).cells (({ frames := 6, cells := 6, slots := 60, locals := 91 } : Room)).slots (fun v h L => v = some (.long (own_Wg p0 rs)) ∧ Fr n0 L ∧ Keep h0 h [])
  obtain ⟨T1, h1, b1, X1, e1, E1, g1, A1, D1, st1⟩ := Own.newO (Ls := #[vi p0, vr o1, .unset, .unset, .unset]) (S := []) X0 hx hZ e0 hown (W_ hw 88 rfl) (W_ hw 89 rfl) (W_ hw 90 rfl) (D d15_0) (by decide) (by decide)
  have le_b1 : h0.size ≤ b1 := Nat.le_of_eq g1.symm
  have X1 : Stand p l e ({ frames := 6, cells := 6, slots := 60, locals := 91 } : Room) s m #[(.int p0), (.ref o1)] below meth c T1 [] 1 4 := X1
  have m2 : h0.size ≤ h1.size := E1.1
  have F1_value : Fld Z h1 b1 "java/lang/AbstractStringBuilder" "value" "[B" .null := D1 (Or.inl (W_ hw 103 rfl)) (ty := (.array .byte)) (by decide)
  have F1_coder : Fld Z h1 b1 "java/lang/AbstractStringBuilder" "coder" "B" (.int 0) := D1 (Or.inl (W_ hw 105 rfl)) (ty := .byte) (by decide)
  have F1_count : Fld Z h1 b1 "java/lang/AbstractStringBuilder" "count" "I" (.int 0) := D1 (Or.inl (W_ hw 117 rfl)) (ty := .int) (by decide)
  have K3 := fun t k => K0 t (st1 t k)
  have f4 := (SC.ext E1)
  have K5 : Own.To p e below B0 T1 (mkF m 4 #[vi p0, vr o1, .unset, .unset, .unset] [(.ref b1), (.ref b1)]) := fun t k => K3 t (by
    refine Own.dup X1 hx (D d15_3) rfl ?_
    exact k)
  obtain ⟨T6, h6, v6, J6, L6, X6, e6, n6, hQ6, st6⟩ := Own.callI (Ls := #[vi p0, vr o1, .unset, .unset, .unset]) X1 hx hZ e1 rfl b1 [] [(.ref b1)] (cSBI l Z a0 hw b1 n0 G1 h1 (Nat.le_trans Z0 m2) A1 F1_value F1_coder F1_count (Nat.le_trans Z0 (Nat.le_trans (Nat.le_refl _) le_b1)) f4 hG1) hown (W_ hw 91 rfl) (W_ hw 92 rfl) (W_ hw 90 rfl) (W_ hw 93 rfl) (by decide) 1 (by decide) (by decide) (by decide) (by decide) (szOf hml rfl) (lenOf pd_21 rfl) rfl (Nat.le_of_eq rfl) (D d15_4)
  have X6 : Stand p l e ({ frames := 6, cells := 6, slots := 60, locals := 91 } : Room) s m #[(.int p0), (.ref o1)] below meth c T6 L6 2 20 := X6
  obtain ⟨rfl, NN6, K6, bv6, le6, B6⟩ := hQ6
  have N6 : Fr n0 L6 := n6 n0 (Fr.nil _) NN6
  have m7 : h1.size ≤ h6.size := K6.1
  have K8 := fun t k => K5 t (st6 t k)
  have f9 := (Own.sta_keep f4 K6 A1)
  have K10 : Own.To p e below B0 T6 (mkF m 8 #[vi p0, vr o1, .unset, .unset, .unset] [(.int p0), (.ref b1)]) := fun t k => K8 t (by
    refine Own.iloadN X6 hx (D d15_7) rfl ?_
    exact k)
  obtain ⟨T11, h11, v11, J11, L11, X11, e11, n11, hQ11, st11⟩ := Own.callVH (Ls := #[vi p0, vr o1, .unset, .unset, .unset]) X6 hx hZ e6 b1 [(.int p0)] [] (cSAPC l Z a0 hw b1 p0 n0 bv6 G1 h6 (Nat.le_trans Z0 (Nat.le_trans m2 m7)) B6 (Nat.le_trans Z0 (Nat.le_trans (Nat.le_refl _) le_b1)) (Nat.le_trans Z0 (Nat.le_trans m2 le6)) (own_let_ok hp0).1 (own_let_ok hp0).2 f9 hG1) hown B6.exa (W_ hw 106 rfl) (W_ hw 107 rfl) (W_ hw 109 rfl) rfl (W_ hw 109 rfl) (W_ hw 108 rfl) (W_ hw 90 rfl) (W_ hw 110 rfl) (by decide) 0 (by decide) (by decide) (by decide) (by decide) (szOf hml rfl) (lenOf pd_22 rfl) rfl (Nat.le_of_eq rfl) (D d15_8)
  have X11 : Stand p l e ({ frames := 6, cells := 6, slots := 60, locals := 91 } : Room) s m #[(.int p0), (.ref o1)] below meth c T11 L11 2 20 := X11
  obtain ⟨rfl, NN11, K11, B11⟩ := hQ11
  have N11 : Fr n0 L11 := n11 n0 N6 NN11
  have m12 : h6.size ≤ h11.size := K11.1
  have K13 := fun t k => K10 t (st11 t k)
  have f14 := (TX.ext (Own.Ext.keep (Own.Ext.keep E1 K6 (allS le_b1 all0)) K11 (allS le_b1 (allS (Nat.le_trans m2 le6) all0))))
  have f15 := (Own.sta_keepG f9 K11 (allS (Own.ns_exa B6.exa) (allS (Own.ns_ca B6.arr) all0)))
  have K16 : Own.To p e below B0 T11 (mkF m 12 #[vi p0, vr o1, .unset, .unset, .unset] [(.ref o1), (.ref b1)]) := fun t k => K13 t (by
    refine Own.aloadN X11 hx (D d15_11) rfl rfl ?_
    exact k)
  obtain ⟨T17, h17, v17, J17, L17, X17, e17, n17, hQ17, st17⟩ := Own.callVH (Ls := #[vi p0, vr o1, .unset, .unset, .unset]) X11 hx hZ e11 b1 [(.ref o1)] [] (cSAS l Z a0 hw b1 o1 n0 bv6 [p0] rs G1 h11 (Nat.le_trans Z0 (Nat.le_trans (Nat.le_trans m2 m7) m12)) B11 f14 (by simp only [List.length_append, List.length_nil, List.length_cons]; omega) (Nat.le_trans Z0 (Nat.le_trans (Nat.le_refl _) le_b1)) (Nat.le_trans Z0 (Nat.le_trans m2 le6)) f15 hG1) hown B11.exa (W_ hw 131 rfl) (W_ hw 132 rfl) (W_ hw 109 rfl) rfl (W_ hw 134 rfl) (W_ hw 133 rfl) (W_ hw 90 rfl) (W_ hw 135 rfl) (by decide) 0 (by decide) (by decide) (by decide) (by decide) (szOf hml rfl) (lenOf pd_23 rfl) rfl (Nat.le_of_eq rfl) (D d15_12)
  have X17 : Stand p l e ({ frames := 6, cells := 6, slots := 60, locals := 91 } : Room) s m #[(.int p0), (.ref o1)] below meth c T17 L17 2 20 := X17
  obtain ⟨rfl, NN17, K17, B17⟩ := hQ17
  have N17 : Fr n0 L17 := n17 n0 N11 NN17
  have m18 : h11.size ≤ h17.size := K17.1
  have K19 := fun t k => K16 t (st17 t k)
  have f20 := (Own.sta_keepG f15 K17 (allS (Own.ns_exa B11.exa) (allS (Own.ns_ca B11.arr) all0)))
  obtain ⟨T21, h21, v21, J21, L21, X21, e21, n21, hQ21, st21⟩ := Own.callVH (Ls := #[vi p0, vr o1, .unset, .unset, .unset]) X17 hx hZ e17 b1 [] [] (cTS l Z a0 hw b1 n0 bv6 ([p0] ++ rs) G1 h17 (Nat.le_trans Z0 (Nat.le_trans (Nat.le_trans (Nat.le_trans m2 m7) m12) m18)) B17 (by simp only [List.length_append, List.length_nil, List.length_cons]; omega) f20 hG1) hown B17.exa (W_ hw 161 rfl) (W_ hw 162 rfl) (W_ hw 109 rfl) rfl (W_ hw 164 rfl) (W_ hw 163 rfl) (W_ hw 90 rfl) (W_ hw 165 rfl) (by decide) 0 (by decide) (by decide) (by decide) (by decide) (szOf hml rfl) (lenOf pd_24 rfl) rfl (Nat.le_of_eq rfl) (D d15_15)
  have X21 : Stand p l e ({ frames := 6, cells := 6, slots := 60, locals := 91 } : Room) s m #[(.int p0), (.ref o1)] below meth c T21 L21 4 40 := X21
  obtain ⟨bt21, rfl, le21, NN21, K21, t21⟩ := hQ21
  have N21 : Fr n0 L21 := n21 n0 N17 NN21
  have m22 : h17.size ≤ h21.size := K21.1
  have t21 : own_Txt Z h21 bt21 (p0 :: rs) := t21
  have K23 := fun t k => K19 t (st21 t k)
  have f24 := (f20.ext (Own.Ext.keep (Own.Ext.refl _) K21 all0))
  obtain ⟨T25, h25, v25, J25, L25, X25, e25, n25, hQ25, st25⟩ := Own.callVH (Ls := #[vi p0, vr o1, .unset, .unset, .unset]) X21 hx hZ e21 bt21 [] [] (cTCg l Z a0 hw bt21 n0 (p0 :: rs) G1 h21 (Nat.le_trans Z0 (Nat.le_trans (Nat.le_trans (Nat.le_trans (Nat.le_trans m2 m7) m12) m18) m22)) t21 (by simp only [List.length_append, List.length_nil, List.length_cons]; omega) f24 hG1) hown t21.exa (W_ hw 66 rfl) (W_ hw 67 rfl) (W_ hw 56 rfl) rfl (W_ hw 69 rfl) (W_ hw 68 rfl) (W_ hw 9 rfl) (W_ hw 70 rfl) (by decide) 0 (by decide) (by decide) (by decide) (by decide) (szOf hml rfl) (lenOf pd_25 rfl) rfl (Nat.le_of_eq rfl) (D d15_18)
  have X25 : Stand p l e ({ frames := 6, cells := 6, slots := 60, locals := 91 } : Room) s m #[(.int p0), (.ref o1)] below meth c T25 L25 5 44 := X25
  obtain ⟨bc25, rfl, le25, NN25, K25, V25⟩ := hQ25
  have N25 : Fr n0 L25 := n25 n0 N21 NN25
  have m26 : h21.size ≤ h25.size := K25.1
  have K27 := fun t k => K23 t (st25 t k)
  have K28 : Own.To p e below B0 T25 (mkF m 25 #[vi p0, vr o1, vr bc25, .unset, .unset] [(.ref bc25), (.int 0), (.ref bc25)]) := fun t k => K27 t (by
    refine Own.astoreN X25 hx #[vi p0, vr o1, vr bc25, .unset, .unset] (D d15_21) rfl rfl ?_
    refine Own.aloadN X25 hx (D d15_22) rfl rfl ?_
    refine Own.iconst X25 hx 0 (D d15_23) rfl ?_
    refine Own.aloadN X25 hx (D d15_24) rfl rfl ?_
    exact k)
  obtain ⟨cq29, Aq29, lq29⟩ := Own.CA.len V25
  have f30 := (((Own.sta_keepG (Own.sta_keepG (Own.sta_keep (SK.ext E1) K6 A1) K11 (allS (Own.ns_exa B6.exa) (allS (Own.ns_ca B6.arr) all0))) K17 (allS (Own.ns_exa B11.exa) (allS (Own.ns_ca B11.arr) all0))).ext (Own.Ext.keep (Own.Ext.refl _) K21 all0)).ext (Own.Ext.keep (Own.Ext.refl _) K25 all0))
  have f31 := ((((((KD.ext E1).keep K6 (ninS (Nat.ne_of_lt (Nat.lt_of_lt_of_le KD.lt le_b1)) nin0)).keep K11 (ninS (Nat.ne_of_lt (Nat.lt_of_lt_of_le KD.lt le_b1)) (ninS (Nat.ne_of_lt (Nat.lt_of_lt_of_le (KD.ext E1).lt le6)) nin0))).keep K17 (ninS (Nat.ne_of_lt (Nat.lt_of_lt_of_le KD.lt le_b1)) (ninS (Nat.ne_of_lt (Nat.lt_of_lt_of_le (KD.ext E1).lt le6)) nin0))).keep K21 nin0).keep K25 nin0)
  have K32 : Own.To p e below B0 T25 (mkF m 28 #[vi p0, vr o1, vr bc25, .unset, .unset] [(.int 0), (.int 0), (.int (Int32.ofNat (p0 :: rs).length)), (.int 0), (.ref bc25)]) := fun t k => K28 t (by
    refine Own.arraylength X25 hx (Int32.ofNat (p0 :: rs).length) hZ e25 Aq29 lq29 (D d15_25) ?_
    refine Own.iconst X25 hx 0 (D d15_26) rfl ?_
    refine Own.iconst X25 hx 0 (D d15_27) rfl ?_
    exact k)
  obtain ⟨T33, X33, e33, st33⟩ := Own.callP (Ls := #[vi p0, vr o1, vr bc25, .unset, .unset]) X25 hx hZ e25 [(.ref bc25), (.int 0), (.int (Int32.ofNat (p0 :: rs).length)), (.int 0), (.int 0)] [] (cVWg l Z a0 hw bc25 wK (p0 :: rs) h25 f30 f31 (by simp only [List.length_append, List.length_nil, List.length_cons]; omega) (Nat.succ_pos _) V25 (fun c hc => (List.mem_cons.mp hc).elim (fun q => q ▸ hp0) (hl c))) hown (W_ hw 202 rfl) (W_ hw 203 rfl) (W_ hw 41 rfl) (W_ hw 204 rfl) (by decide) 0 rfl rfl (by decide) (by decide) (by decide) (by decide) (szOf hml rfl) (lenOf pd_26 rfl) rfl (Nat.le_of_eq rfl) (D d15_28)
  have K34 := fun t k => K32 t (st33 t k)
  have K35 : Own.To p e below B0 T33 (mkF m 35 #[vi p0, vr o1, vr bc25, vl (own_Vg (p0 :: rs)), .second] [(.int (lcmpW (own_Vg (p0 :: rs)) (0 : Int64)))]) := fun t k => K34 t (by
    refine Own.lstoreN X33 hx #[vi p0, vr o1, vr bc25, vl (own_Vg (p0 :: rs)), .second] (D d15_31) rfl ?_
    refine Own.lloadN X33 hx (D d15_32) rfl ?_
    refine Own.lconst X33 hx (0 : Int64) (D d15_33) rfl ?_
    refine Own.lcmp X33 hx (D d15_34) ?_
    exact k)
  have K36 : Own.To p e below B0 T33 (mkF m 45 #[vi p0, vr o1, vr bc25, vl (own_Vg (p0 :: rs)), .second] [(.long (((own_Vg (p0 :: rs)).toUInt64 >>> ((1 : Int32) &&& 0x3f).toInt64.toUInt64).toInt64))]) := fun t k => K35 t (by
    refine Own.ifYes X33 hx 42 (D d15_35) (Jvm.Free.XT.ll_ge_t (by exact (own_Vgnn _).1 : ¬ ((own_Vg (p0 :: rs)) < (0 : Int64)))) (by decide) (by decide) ?_
    refine Own.lloadN X33 hx (D d15_42) rfl ?_
    refine Own.iconst X33 hx 1 (D d15_43) rfl ?_
    refine Own.lushr X33 hx (D d15_44) ?_
    exact k)
  have kp := (((((((Keep.refl h0 []).ext E1).trans K6 (allS (Or.inr le_b1) all0)).trans K11 (allS (Or.inr le_b1) (allS (Or.inr (Nat.le_trans m2 le6)) all0))).trans K17 (allS (Or.inr le_b1) (allS (Or.inr (Nat.le_trans m2 le6)) all0))).trans K21 all0).trans K25 all0)
  exact Own.finJ X33 hx (BodyLoose.notSynchronized Bd) Bd.returns (D d15_45) K36 (by decide) (by decide) (by rw [e33]; exact ⟨by rfl, N25, kp⟩)

theorem d8_0 : decode J41 0 = .ok (.iload_n 0, 1) := by decide +kernel
theorem d8_1 : decode J41 1 = .ok (.ifCond .lt 13, 3) := by decide +kernel
theorem d8_4 : decode J41 4 = .ok (.iload_n 0, 1) := by decide +kernel
theorem d8_5 : decode J41 5 = .ok (.bipush 24, 2) := by decide +kernel
theorem d8_7 : decode J41 7 = .ok (.if_icmp .gt 7, 3) := by decide +kernel
theorem d8_10 : decode J41 10 = .ok (.iconst 1, 1) := by decide +kernel
theorem d8_11 : decode J41 11 = .ok (.goto 4, 3) := by decide +kernel
theorem d8_14 : decode J41 14 = .ok (.iconst 0, 1) := by decide +kernel
theorem d8_15 : decode J41 15 = .ok (.ireturn, 1) := by decide +kernel
theorem ef_8 (m : MethodId) (p0 : Int32) : entryFrame m #[(.int p0)] 1 = mkF m 0 #[.val (.int p0)] [] := by first | (simp [entryFrame, mkF, argsToLocals, Value.category]; done) | rfl
def F8 (p0 : Int32) : Int32 := (nar .boolean (if p0 < (0 : Int32) then (0 : Int32) else (if (24 : Int32) < p0 then (0 : Int32) else (1 : Int32))))
set_option maxRecDepth 65536 in
set_option maxHeartbeats 40000000 in
theorem c8 (l : Launch) (Z : State) (a0 : Array Value) (hw : ∀ d ∈ tables_1, d.before a0 Z = true) (p0 : Int32) (h0 : Heap) : Own.Con l Z (⟨"com/example/stemshear/stemshear/Condition", "isCondition", "(I)Z"⟩ : MethodName) prog_10_method_8_code 1 (some .boolean) ({ frames := 0, cells := 0, slots := 0, locals := 0 } : Room) #[(.int p0)] h0 (Own.Pure (.int (F8 p0)) h0) := by
  intro ws
  refine MetFree.of_bodySF (plainFor_of_name pn_5) hisR ?_
  intro p e s m args below meth c s₁ Bd hml0 hP hK
  obtain ⟨rfl, hZ, hh⟩ := hP
  have hx := Bd.exec
  have hby := Bd.bytes
  have D := fun {n : Nat} {i} (d : decode prog_10_method_8_code n = .ok i) => hb hby d
  have hml : c.maxLocals = 1 := hml0
  have hown : s.vm.findClass "com/example/stemshear/stemshear/Condition" = some m.cls := findClass_of_methodNamed Bd.named
  have hnm := (name_of_methodNamed Bd.named Bd.method).1
  have X0 : Stand p l e ({ frames := 0, cells := 0, slots := 0, locals := 0 } : Room) s m #[(.int p0)] below meth c s₁ [] 0 0 := Stand.of_body Bd
  have e0 : s₁.heap = h0 := by rw [← hh, Bd.state]; rfl
  have K0 : ∀ t, Steps p.tables e below (s₁.setTop (mkF m 0 #[vi p0] [])) t → Steps p.tables e below (s₁.setTop (entryFrame m #[(.int p0)] 1)) t := fun t k => castTop (ef_8 m p0) k
  generalize s₁.setTop (entryFrame m #[(.int p0)] 1) = B0 at K0 ⊢
  show Own.Fin p e below B0 s (({ frames := 0, cells := 0, slots := 0, locals := 0 } : Room)).cells (({ frames := 0, cells := 0, slots := 0, locals := 0 } : Room)).slots (Own.Pure (.int (F8 p0)) h0)
  have K1 : Own.To p e below B0 s₁ (mkF m 1 #[vi p0] [(.int p0)]) := fun t k => K0 t (by
    refine Own.iloadN X0 hx (D d8_0) rfl ?_
    exact k)
  obtain ⟨x10, hx10⟩ : ∃ z : Int32, z = (if p0 < (0 : Int32) then (0 : Int32) else (if (24 : Int32) < p0 then (0 : Int32) else (1 : Int32))) := ⟨_, rfl⟩
  obtain ⟨T11, X11, e11, K11⟩ : ∃ T' : State, Stand p l e ({ frames := 0, cells := 0, slots := 0, locals := 0 } : Room) s m #[(.int p0)] below meth c T' [] 0 0 ∧ T'.heap = h0 ∧ Own.To p e below B0 T' (mkF m 15 #[vi p0] [(.int x10)]) := by
    by_cases hc2 : p0 < (0 : Int32)
    · have K3 : Own.To p e below B0 s₁ (mkF m 15 #[vi p0] [(.int 0)]) := fun t k => K1 t (by
        refine Own.ifYes X0 hx 14 (D d8_1) ((if0 _ _).trans (tlt hc2).1) (by decide) (by decide) ?_
        refine Own.iconst X0 hx 0 (D d8_14) rfl ?_
        exact k)
      exact ⟨s₁, X0, e0, fun t k => K3 t (by rw [hx10, if_pos hc2] at k; exact k)⟩
    · have K4 : Own.To p e below B0 s₁ (mkF m 7 #[vi p0] [(.int 24), (.int p0)]) := fun t k => K1 t (by
        refine Own.ifNo X0 hx (D d8_1) ((if0 _ _).trans (flt hc2).1) ?_
        refine Own.iloadN X0 hx (D d8_4) rfl ?_
        refine Own.bipush X0 hx 24 (D d8_5) rfl ?_
        exact k)
      obtain ⟨x8, hx8⟩ : ∃ z : Int32, z = (if (24 : Int32) < p0 then (0 : Int32) else (1 : Int32)) := ⟨_, rfl⟩
      obtain ⟨T9, X9, e9, K9⟩ : ∃ T' : State, Stand p l e ({ frames := 0, cells := 0, slots := 0, locals := 0 } : Room) s m #[(.int p0)] below meth c T' [] 0 0 ∧ T'.heap = h0 ∧ Own.To p e below B0 T' (mkF m 15 #[vi p0] [(.int x8)]) := by
        by_cases hc5 : (24 : Int32) < p0
        · have K6 : Own.To p e below B0 s₁ (mkF m 15 #[vi p0] [(.int 0)]) := fun t k => K4 t (by
            refine Own.icmpYes X0 hx 14 (D d8_7) (tlt hc5).2.2.1 (by decide) (by decide) ?_
            refine Own.iconst X0 hx 0 (D d8_14) rfl ?_
            exact k)
          exact ⟨s₁, X0, e0, fun t k => K6 t (by rw [hx8, if_pos hc5] at k; exact k)⟩
        · have K7 : Own.To p e below B0 s₁ (mkF m 15 #[vi p0] [(.int 1)]) := fun t k => K4 t (by
            refine Own.icmpNo X0 hx (D d8_7) (flt hc5).2.2.1 ?_
            refine Own.iconst X0 hx 1 (D d8_10) rfl ?_
            refine Own.goto X0 hx 15 (D d8_11) (by decide) (by decide) ?_
            exact k)
          exact ⟨s₁, X0, e0, fun t k => K7 t (by rw [hx8, if_neg hc5] at k; exact k)⟩
      exact ⟨T9, X9, e9, fun t k => K9 t (by subst hx8; rw [hx10, if_neg hc2] at k; exact k)⟩
  exact Own.finN X11 hx (BodyLoose.notSynchronized Bd) Bd.returns (by simp) (D d8_15) K11 (by decide) (by decide) ⟨by subst hx10; unfold F8; rfl, rfl, e11⟩

theorem d7_0 : decode J44 0 = .ok (.aload_n 0, 1) := by decide +kernel
theorem d7_1 : decode J44 1 = .ok (.invokespecial 34, 3) := by decide +kernel
theorem d7_4 : decode J44 4 = .ok (.iload_n 3, 1) := by decide +kernel
theorem d7_5 : decode J44 5 = .ok (.invokestatic 37, 3) := by decide +kernel
theorem d7_8 : decode J44 8 = .ok (.ifCond .ne 30, 3) := by decide +kernel
theorem d7_38 : decode J44 38 = .ok (.iload 4, 2) := by decide +kernel
theorem d7_40 : decode J44 40 = .ok (.ifCond .lt 9, 3) := by decide +kernel
theorem d7_43 : decode J44 43 = .ok (.iload 4, 2) := by decide +kernel
theorem d7_45 : decode J44 45 = .ok (.iconst 2, 1) := by decide +kernel
theorem d7_46 : decode J44 46 = .ok (.if_icmp .le 31, 3) := by decide +kernel
theorem d7_77 : decode J44 77 = .ok (.aload_n 0, 1) := by decide +kernel
theorem d7_78 : decode J44 78 = .ok (.aload_n 1, 1) := by decide +kernel
theorem d7_79 : decode J44 79 = .ok (.putfield 7, 3) := by decide +kernel
theorem d7_82 : decode J44 82 = .ok (.aload_n 0, 1) := by decide +kernel
theorem d7_83 : decode J44 83 = .ok (.aload_n 2, 1) := by decide +kernel
theorem d7_84 : decode J44 84 = .ok (.putfield 61, 3) := by decide +kernel
theorem d7_87 : decode J44 87 = .ok (.aload_n 0, 1) := by decide +kernel
theorem d7_88 : decode J44 88 = .ok (.iload_n 3, 1) := by decide +kernel
theorem d7_89 : decode J44 89 = .ok (.putfield 17, 3) := by decide +kernel
theorem d7_92 : decode J44 92 = .ok (.aload_n 0, 1) := by decide +kernel
theorem d7_93 : decode J44 93 = .ok (.iload 4, 2) := by decide +kernel
theorem d7_95 : decode J44 95 = .ok (.putfield 64, 3) := by decide +kernel
theorem d7_98 : decode J44 98 = .ok (.aload_n 0, 1) := by decide +kernel
theorem d7_99 : decode J44 99 = .ok (.aload 5, 2) := by decide +kernel
theorem d7_101 : decode J44 101 = .ok (.putfield 67, 3) := by decide +kernel
theorem d7_104 : decode J44 104 = .ok (.aload_n 0, 1) := by decide +kernel
theorem d7_105 : decode J44 105 = .ok (.aload_n 1, 1) := by decide +kernel
theorem d7_106 : decode J44 106 = .ok (.invokevirtual 71, 3) := by decide +kernel
theorem d7_109 : decode J44 109 = .ok (.putfield 75, 3) := by decide +kernel
theorem d7_112 : decode J44 112 = .ok (.aload_n 0, 1) := by decide +kernel
theorem d7_113 : decode J44 113 = .ok (.aload_n 2, 1) := by decide +kernel
theorem d7_114 : decode J44 114 = .ok (.invokevirtual 78, 3) := by decide +kernel
theorem d7_117 : decode J44 117 = .ok (.putfield 82, 3) := by decide +kernel
theorem d7_120 : decode J44 120 = .ok (.aload_n 0, 1) := by decide +kernel
theorem d7_121 : decode J44 121 = .ok (.bipush 97, 2) := by decide +kernel
theorem d7_123 : decode J44 123 = .ok (.aload_n 2, 1) := by decide +kernel
theorem d7_124 : decode J44 124 = .ok (.invokestatic 86, 3) := by decide +kernel
theorem d7_127 : decode J44 127 = .ok (.putfield 90, 3) := by decide +kernel
theorem d7_130 : decode J44 130 = .ok (.aload_n 0, 1) := by decide +kernel
theorem d7_131 : decode J44 131 = .ok (.bipush 98, 2) := by decide +kernel
theorem d7_133 : decode J44 133 = .ok (.aload_n 2, 1) := by decide +kernel
theorem d7_134 : decode J44 134 = .ok (.invokestatic 86, 3) := by decide +kernel
theorem d7_137 : decode J44 137 = .ok (.putfield 94, 3) := by decide +kernel
theorem d7_140 : decode J44 140 = .ok (.aload_n 0, 1) := by decide +kernel
theorem d7_141 : decode J44 141 = .ok (.new 43, 3) := by decide +kernel
theorem d7_144 : decode J44 144 = .ok (.dup, 1) := by decide +kernel
theorem d7_145 : decode J44 145 = .ok (.invokespecial 45, 3) := by decide +kernel
theorem d7_148 : decode J44 148 = .ok (.aload_n 1, 1) := by decide +kernel
theorem d7_149 : decode J44 149 = .ok (.invokevirtual 48, 3) := by decide +kernel
theorem d7_152 : decode J44 152 = .ok (.ldc 97, 2) := by decide +kernel
theorem d7_154 : decode J44 154 = .ok (.invokevirtual 48, 3) := by decide +kernel
theorem d7_157 : decode J44 157 = .ok (.aload_n 2, 1) := by decide +kernel
theorem d7_158 : decode J44 158 = .ok (.invokevirtual 48, 3) := by decide +kernel
theorem d7_161 : decode J44 161 = .ok (.invokevirtual 55, 3) := by decide +kernel
theorem d7_164 : decode J44 164 = .ok (.putfield 99, 3) := by decide +kernel
theorem d7_167 : decode J44 167 = .ok (.aload_n 0, 1) := by decide +kernel
theorem d7_168 : decode J44 168 = .ok (.getfield 90, 3) := by decide +kernel
theorem d7_171 : decode J44 171 = .ok (.lconst 0, 1) := by decide +kernel
theorem d7_172 : decode J44 172 = .ok (.lcmp, 1) := by decide +kernel
theorem d7_173 : decode J44 173 = .ok (.ifCond .ge 30, 3) := by decide +kernel
theorem d7_203 : decode J44 203 = .ok (.return_, 1) := by decide +kernel
theorem pd_27 : parseMethodDescriptor "(I)Z" = some ⟨[.int], some .boolean⟩ := by decide +kernel
theorem pd_28 : parseMethodDescriptor "(CLjava/lang/String;)J" = some ⟨[.char, (.object "java/lang/String")], some .long⟩ := by decide +kernel
theorem ef_7n5 (m : MethodId) (o0 : Addr) (o1 : Addr) (o2 : Addr) (p3 : Int32) (p4 : Int32) : entryFrame m #[(.ref o0), (.ref o1), (.ref o2), (.int p3), (.int p4), .null] 6 = mkF m 0 #[.val (.ref o0), .val (.ref o1), .val (.ref o2), .val (.int p3), .val (.int p4), .val .null] [] := by first | (simp [entryFrame, mkF, argsToLocals, Value.category]; done) | rfl
set_option maxRecDepth 65536 in
set_option maxHeartbeats 40000000 in
theorem cR5 (l : Launch) (Z : State) (a0 : Array Value) (hw : ∀ d ∈ tables_1, d.before a0 Z = true) (o0 : Addr) (o1 : Addr) (o2 : Addr) (p3 : Int32) (n0 : Nat) (wK : Addr) (fs : List Int32) (rs : List Int32) (G1 : Int32) (h0 : Heap) (Z0 : n0 ≤ h0.size) (E0 : Exa Z h0 o0 "com/example/stemshear/stemshear/Rule") (g0 : n0 ≤ o0) (R0 : Fld Z h0 o0 "com/example/stemshear/stemshear/Rule" "suffix" "Ljava/lang/String;" .null) (R1 : Fld Z h0 o0 "com/example/stemshear/stemshear/Rule" "replacement" "Ljava/lang/String;" .null) (R2 : Fld Z h0 o0 "com/example/stemshear/stemshear/Rule" "condition" "I" (.int 0)) (R3 : Fld Z h0 o0 "com/example/stemshear/stemshear/Rule" "then" "I" (.int 0)) (R4 : Fld Z h0 o0 "com/example/stemshear/stemshear/Rule" "otherwise" "Lcom/example/stemshear/stemshear/Rule;" .null) (R5 : Fld Z h0 o0 "com/example/stemshear/stemshear/Rule" "suffixLength" "I" (.int 0)) (R6 : Fld Z h0 o0 "com/example/stemshear/stemshear/Rule" "replacementLetters" "[C" .null) (R7 : Fld Z h0 o0 "com/example/stemshear/stemshear/Rule" "replacementVowels" "J" (.long 0)) (R8 : Fld Z h0 o0 "com/example/stemshear/stemshear/Rule" "replacementVowelsAfterConsonant" "J" (.long 0)) (R9 : Fld Z h0 o0 "com/example/stemshear/stemshear/Rule" "written" "Ljava/lang/String;" .null) (SK : Sta Z h0 "com/example/stemshear/stemshear/Condition" "KINDS" "[B" (.ref wK)) (KD : own_KD Z h0 wK) (hwo : wK ≠ o0) (TF : own_TxN Z h0 o1 fs o0 h0.size) (hfl : fs.length ≤ 3) (TX : own_TxN Z h0 o2 rs o0 h0.size) (hrs : rs.length ≤ 3) (hl : ∀ c ∈ rs, own_let c) (hcd : ¬ (F8 p3) = (0 : Int32)) (SC : Sta Z h0 "java/lang/String" "COMPACT_STRINGS" "Z" (.int G1)) (hG1 : ¬ G1 = 0) : Own.ConH l Z own_EL (⟨"com/example/stemshear/stemshear/Rule", "<init>", "(Ljava/lang/String;Ljava/lang/String;IILcom/example/stemshear/stemshear/Rule;)V"⟩ : MethodName) prog_36_method_4_code 6 none ({ frames := 7, cells := 20, slots := 200, locals := 108 } : Room) #[(.ref o0), (.ref o1), (.ref o2), (.int p3), (.int 0), .null] h0 (fun v h L => v = none ∧ Fr n0 L ∧ Keep h0 h [o0] ∧ Exa Z h o0 "com/example/stemshear/stemshear/Rule" ∧ Fld Z h o0 "com/example/stemshear/stemshear/Rule" "suffixLength" "I" (.int (Int32.ofNat fs.length)) ∧ Fld Z h o0 "com/example/stemshear/stemshear/Rule" "replacementVowels" "J" (.long (own_Wg 97 rs)) ∧ Fld Z h o0 "com/example/stemshear/stemshear/Rule" "replacementVowelsAfterConsonant" "J" (.long (own_Wg 98 rs)) ∧ ∃ b, h0.size ≤ b ∧ Fld Z h o0 "com/example/stemshear/stemshear/Rule" "replacementLetters" "[C" (.ref b) ∧ Own.CA Z h b .char rs) := by
  intro ws
  refine MetFree.of_bodySF (plainFor_of_name pn_6) hisR ?_
  intro p e s m args below meth c s₁ Bd hml0 hP hK
  obtain ⟨rfl, hZ, hh, hH⟩ := hP
  have hx := Bd.exec
  have hby := Bd.bytes
  have D := fun {n : Nat} {i} (d : decode prog_36_method_4_code n = .ok i) => hb hby d
  have hml : c.maxLocals = 6 := hml0
  have hown : s.vm.findClass "com/example/stemshear/stemshear/Rule" = some m.cls := findClass_of_methodNamed Bd.named
  have hnm := (name_of_methodNamed Bd.named Bd.method).1
  have X0 : Stand p l e ({ frames := 7, cells := 20, slots := 200, locals := 108 } : Room) (s.setVm s.vm) m #[(.ref o0), (.ref o1), (.ref o2), (.int p3), (.int 0), .null] below meth c s₁ [] 0 0 := Stand.of_body Bd
  have e0 : s₁.heap = h0 := by rw [← hh, Bd.state]; rfl
  have D0 : Own.Wd s Z own_EL "com/example/stemshear/stemshear/Rule" m.cls s.vm h0 := by rw [← hh]; exact Own.Wd.start hZ hown (by rw [hh]; exact hH)
  have K0 : ∀ t, Steps p.tables e below (s₁.setTop (mkF m 0 #[vr o0, vr o1, vr o2, vi p3, vi 0, .val .null] [])) t → Steps p.tables e below (s₁.setTop (entryFrame m #[(.ref o0), (.ref o1), (.ref o2), (.int p3), (.int 0), .null] 6)) t := fun t k => castTop (ef_7n5 m o0 o1 o2 p3 (0 : Int32)) k
  generalize s₁.setTop (entryFrame m #[(.ref o0), (.ref o1), (.ref o2), (.int p3), (.int 0), .null] 6) = B0 at K0 ⊢
  show Own.FinH p e below B0 s Z own_EL (({ frames := 7, cells := 20, slots := 200, locals := 108 } : Room)).cells (({ frames := 7, cells := 20, slots := 200, locals := 108 } : Room)).slots (fun v h L => v = none ∧ Fr n0 L ∧ Keep h0 h [o0] ∧ Exa Z h o0 "com/example/stemshear/stemshear/Rule" ∧ Fld Z h o0 "com/example/stemshear/stemshear/Rule" "suffixLength" "I" (.int (Int32.ofNat fs.length)) ∧ Fld Z h o0 "com/example/stemshear/stemshear/Rule" "replacementVowels" "J" (.long (own_Wg 97 rs)) ∧ Fld Z h o0 "com/example/stemshear/stemshear/Rule" "replacementVowelsAfterConsonant" "J" (.long (own_Wg 98 rs)) ∧ ∃ b, h0.size ≤ b ∧ Fld Z h o0 "com/example/stemshear/stemshear/Rule" "replacementLetters" "[C" (.ref b) ∧ Own.CA Z h b .char rs)
  have K1 : Own.To p e below B0 s₁ (mkF m 1 #[vr o0, vr o1, vr o2, vi p3, vi 0, .val .null] [(.ref o0)]) := fun t k => K0 t (by
    refine Own.aloadN X0 hx (D d7_0) rfl rfl ?_
    exact k)
  obtain ⟨T2, X2, e2, st2⟩ := Own.initO (Ls := #[vr o0, vr o1, vr o2, vi p3, vi 0, .val .null]) (S := []) (a := o0) X0 hx D0.hZ e0 D0.hown (W_ hw 38 rfl) (W_ hw 19 rfl) (W_ hw 20 rfl) (by rw [hml]; rfl) (D d7_1) (by decide) 0 (Nat.le_of_eq rfl) (by decide)
  have K3 := fun t k => K1 t (st2 t k)
  have K4 : Own.To p e below B0 T2 (mkF m 5 #[vr o0, vr o1, vr o2, vi p3, vi 0, .val .null] [(.int p3)]) := fun t k => K3 t (by
    refine Own.iloadN X2 hx (D d7_4) rfl ?_
    exact k)
  obtain ⟨T5, X5, e5, st5⟩ := Own.callP (Ls := #[vr o0, vr o1, vr o2, vi p3, vi 0, .val .null]) X2 hx D0.hZ e2 [(.int p3)] [] (c8 l Z a0 hw p3  h0 ) D0.hown (W_ hw 39 rfl) (W_ hw 40 rfl) (W_ hw 41 rfl) (W_ hw 42 rfl) (by decide) 0 rfl rfl (by decide) (by decide) (by decide) (by decide) (szOf hml rfl) (lenOf pd_27 rfl) rfl (Nat.le_of_eq rfl) (D d7_5)
  have K6 := fun t k => K4 t (st5 t k)
  have K7 : Own.To p e below B0 T5 (mkF m 40 #[vr o0, vr o1, vr o2, vi p3, vi 0, .val .null] [(.int 0)]) := fun t k => K6 t (by
    refine Own.ifYes X5 hx 38 (D d7_8) ((if0 _ _).trans (feq (hcd : ¬ ((F8 p3) = (0 : Int32)))).2) (by decide) (by decide) ?_
    refine Own.iload X5 hx (D d7_38) rfl ?_
    exact k)
  have K8 : Own.To p e below B0 T5 (mkF m 46 #[vr o0, vr o1, vr o2, vi p3, vi 0, .val .null] [(.int 2), (.int 0)]) := fun t k => K7 t (by
    refine Own.ifNo X5 hx (D d7_40) ((if0 _ _).trans (flt (by decide : ¬ ((0 : Int32) < (0 : Int32)))).1) ?_
    refine Own.iload X5 hx (D d7_43) rfl ?_
    refine Own.iconst X5 hx 2 (D d7_45) rfl ?_
    exact k)
  have K9 : Own.To p e below B0 T5 (mkF m 79 #[vr o0, vr o1, vr o2, vi p3, vi 0, .val .null] [(.ref o1), (.ref o0)]) := fun t k => K8 t (by
    refine Own.icmpYes X5 hx 77 (D d7_46) (flt (by decide : ¬ ((2 : Int32) < (0 : Int32)))).2.2.2 (by decide) (by decide) ?_
    refine Own.aloadN X5 hx (D d7_77) rfl rfl ?_
    refine Own.aloadN X5 hx (D d7_78) rfl rfl ?_
    exact k)
  obtain ⟨T10, h10, L10, X10, e10, n10, W10, F10, st10⟩ := Own.putF (Ls := #[vr o0, vr o1, vr o2, vi p3, vi 0, .val .null]) (S := []) (v := (.ref o1)) X5 hx D0.hZ e5 D0.hown (host := "") (Or.inl (W_ hw 43 rfl)) Via.refl R0 E0 (Or.inr ⟨(W_ hw 44 rfl), rfl, hnm⟩) (W_ hw 30 rfl) (ty := (.object "java/lang/String")) (by decide) rfl rfl (D d7_79)
  have N10 : Fr n0 L10 := n10 n0 (Fr.nil _) g0
  have m11 : h0.size ≤ h10.size := Nat.le_of_eq W10.size.symm
  have D11 := D0.wr W10 (Safe.exa D0.hZ.alike E0 (by decide) (by decide))
  have K12 := fun t k => K9 t (st10 t k)
  have K13 : Own.To p e below B0 T10 (mkF m 84 #[vr o0, vr o1, vr o2, vi p3, vi 0, .val .null] [(.ref o2), (.ref o0)]) := fun t k => K12 t (by
    refine Own.aloadN X10 hx (D d7_82) rfl rfl ?_
    refine Own.aloadN X10 hx (D d7_83) rfl rfl ?_
    exact k)
  have f14 := (R1.other W10 (Or.inr (slot_ne (Or.inr (W_ hw 46 rfl)) (Or.inr (W_ hw 44 rfl)) (by decide) (t := (.object "java/lang/String")) (t' := (.object "java/lang/String")) (by decide) (by decide))))
  have f15 := (E0.wr W10)
  obtain ⟨T16, h16, L16, X16, e16, n16, W16, F16, st16⟩ := Own.putF (Ls := #[vr o0, vr o1, vr o2, vi p3, vi 0, .val .null]) (S := []) (v := (.ref o2)) X10 hx D11.hZ e10 D11.hown (host := "") (Or.inl (W_ hw 45 rfl)) Via.refl f14 f15 (Or.inr ⟨(W_ hw 46 rfl), rfl, hnm⟩) (W_ hw 30 rfl) (ty := (.object "java/lang/String")) (by decide) rfl rfl (D d7_84)
  have N16 : Fr n0 L16 := n16 n0 N10 g0
  have m17 : h10.size ≤ h16.size := Nat.le_of_eq W16.size.symm
  have D17 := D11.wr W16 (Safe.exa D11.hZ.alike f15 (by decide) (by decide))
  have K18 := fun t k => K13 t (st16 t k)
  have K19 : Own.To p e below B0 T16 (mkF m 89 #[vr o0, vr o1, vr o2, vi p3, vi 0, .val .null] [(.int p3), (.ref o0)]) := fun t k => K18 t (by
    refine Own.aloadN X16 hx (D d7_87) rfl rfl ?_
    refine Own.iloadN X16 hx (D d7_88) rfl ?_
    exact k)
  have f20 := ((R2.other W10 (Or.inr (slot_ne (Or.inr (W_ hw 48 rfl)) (Or.inr (W_ hw 44 rfl)) (by decide) (t := .int) (t' := (.object "java/lang/String")) (by decide) (by decide)))).other W16 (Or.inr (slot_ne (Or.inr (W_ hw 48 rfl)) (Or.inr (W_ hw 46 rfl)) (by decide) (t := .int) (t' := (.object "java/lang/String")) (by decide) (by decide))))
  have f21 := (f15.wr W16)
  obtain ⟨T22, h22, L22, X22, e22, n22, W22, F22, st22⟩ := Own.putF (Ls := #[vr o0, vr o1, vr o2, vi p3, vi 0, .val .null]) (S := []) (v := (.int p3)) X16 hx D17.hZ e16 D17.hown (host := "") (Or.inl (W_ hw 47 rfl)) Via.refl f20 f21 (Or.inr ⟨(W_ hw 48 rfl), rfl, hnm⟩) (W_ hw 30 rfl) (ty := .int) (by decide) rfl rfl (D d7_89)
  have N22 : Fr n0 L22 := n22 n0 N16 g0
  have m23 : h16.size ≤ h22.size := Nat.le_of_eq W22.size.symm
  have D23 := D17.wr W22 (Safe.exa D17.hZ.alike f21 (by decide) (by decide))
  have K24 := fun t k => K19 t (st22 t k)
  have K25 : Own.To p e below B0 T22 (mkF m 95 #[vr o0, vr o1, vr o2, vi p3, vi 0, .val .null] [(.int 0), (.ref o0)]) := fun t k => K24 t (by
    refine Own.aloadN X22 hx (D d7_92) rfl rfl ?_
    refine Own.iload X22 hx (D d7_93) rfl ?_
    exact k)
  have f26 := (((R3.other W10 (Or.inr (slot_ne (Or.inr (W_ hw 50 rfl)) (Or.inr (W_ hw 44 rfl)) (by decide) (t := .int) (t' := (.object "java/lang/String")) (by decide) (by decide)))).other W16 (Or.inr (slot_ne (Or.inr (W_ hw 50 rfl)) (Or.inr (W_ hw 46 rfl)) (by decide) (t := .int) (t' := (.object "java/lang/String")) (by decide) (by decide)))).other W22 (Or.inr (slot_ne (Or.inr (W_ hw 50 rfl)) (Or.inr (W_ hw 48 rfl)) (by decide) (t := .int) (t' := .int) (by decide) (by decide))))
  have f27 := (f21.wr W22)
  obtain ⟨T28, h28, L28, X28, e28, n28, W28, F28, st28⟩ := Own.putF (Ls := #[vr o0, vr o1, vr o2, vi p3, vi 0, .val .null]) (S := []) (v := (.int 0)) X22 hx D23.hZ e22 D23.hown (host := "") (Or.inl (W_ hw 49 rfl)) Via.refl f26 f27 (Or.inr ⟨(W_ hw 50 rfl), rfl, hnm⟩) (W_ hw 30 rfl) (ty := .int) (by decide) rfl rfl (D d7_95)
  have N28 : Fr n0 L28 := n28 n0 N22 g0
  have m29 : h22.size ≤ h28.size := Nat.le_of_eq W28.size.symm
  have D29 := D23.wr W28 (Safe.exa D23.hZ.alike f27 (by decide) (by decide))
  have K30 := fun t k => K25 t (st28 t k)
  have K31 : Own.To p e below B0 T28 (mkF m 101 #[vr o0, vr o1, vr o2, vi p3, vi 0, .val .null] [.null, (.ref o0)]) := fun t k => K30 t (by
    refine Own.aloadN X28 hx (D d7_98) rfl rfl ?_
    refine Own.aload X28 hx (D d7_99) rfl rfl ?_
    exact k)
  have f32 := ((((R4.other W10 (Or.inr (slot_ne (Or.inr (W_ hw 52 rfl)) (Or.inr (W_ hw 44 rfl)) (by decide) (t := (.object "com/example/stemshear/stemshear/Rule")) (t' := (.object "java/lang/String")) (by decide) (by decide)))).other W16 (Or.inr (slot_ne (Or.inr (W_ hw 52 rfl)) (Or.inr (W_ hw 46 rfl)) (by decide) (t := (.object "com/example/stemshear/stemshear/Rule")) (t' := (.object "java/lang/String")) (by decide) (by decide)))).other W22 (Or.inr (slot_ne (Or.inr (W_ hw 52 rfl)) (Or.inr (W_ hw 48 rfl)) (by decide) (t := (.object "com/example/stemshear/stemshear/Rule")) (t' := .int) (by decide) (by decide)))).other W28 (Or.inr (slot_ne (Or.inr (W_ hw 52 rfl)) (Or.inr (W_ hw 50 rfl)) (by decide) (t := (.object "com/example/stemshear/stemshear/Rule")) (t' := .int) (by decide) (by decide))))
  have f33 := (f27.wr W28)
  obtain ⟨T34, h34, L34, X34, e34, n34, W34, F34, st34⟩ := Own.putF (Ls := #[vr o0, vr o1, vr o2, vi p3, vi 0, .val .null]) (S := []) (v := .null) X28 hx D29.hZ e28 D29.hown (host := "") (Or.inl (W_ hw 51 rfl)) Via.refl f32 f33 (Or.inr ⟨(W_ hw 52 rfl), rfl, hnm⟩) (W_ hw 30 rfl) (ty := (.object "com/example/stemshear/stemshear/Rule")) (by decide) rfl rfl (D d7_101)
  have N34 : Fr n0 L34 := n34 n0 N28 g0
  have m35 : h28.size ≤ h34.size := Nat.le_of_eq W34.size.symm
  have D35 := D29.wr W34 (Safe.exa D29.hZ.alike f33 (by decide) (by decide))
  have K36 := fun t k => K31 t (st34 t k)
  have f37 := (((((TF.wrW W10 (Or.inl rfl)).wrW W16 (Or.inl rfl)).wrW W22 (Or.inl rfl)).wrW W28 (Or.inl rfl)).wrW W34 (Or.inl rfl))
  have f38 := (((((SC.wr W10).wr W16).wr W22).wr W28).wr W34)
  have K39 : Own.To p e below B0 T34 (mkF m 106 #[vr o0, vr o1, vr o2, vi p3, vi 0, .val .null] [(.ref o1), (.ref o0)]) := fun t k => K36 t (by
    refine Own.aloadN X34 hx (D d7_104) rfl rfl ?_
    refine Own.aloadN X34 hx (D d7_105) rfl rfl ?_
    exact k)
  obtain ⟨T40, X40, e40, st40⟩ := Own.callVHO (Ls := #[vr o0, vr o1, vr o2, vi p3, vi 0, .val .null]) X34 hx D35.hZ e34 o1 [] [(.ref o0)] (cSLN l Z a0 hw o1 fs G1 h34 f37.txt f38 hG1) D35.hown f37.txt.exa (W_ hw 53 rfl) (W_ hw 54 rfl) (W_ hw 56 rfl) rfl (W_ hw 56 rfl) (W_ hw 55 rfl) (W_ hw 9 rfl) (W_ hw 57 rfl) (by decide) 1 rfl rfl (by decide) (by decide) (by decide) (by decide) (szOf hml rfl) (lenOf pd_3 rfl) rfl (Nat.le_of_eq rfl) (D d7_106)
  have K41 := fun t k => K39 t (st40 t k)
  have f42 := (((((R5.other W10 (Or.inr (slot_ne (Or.inr (W_ hw 65 rfl)) (Or.inr (W_ hw 44 rfl)) (by decide) (t := .int) (t' := (.object "java/lang/String")) (by decide) (by decide)))).other W16 (Or.inr (slot_ne (Or.inr (W_ hw 65 rfl)) (Or.inr (W_ hw 46 rfl)) (by decide) (t := .int) (t' := (.object "java/lang/String")) (by decide) (by decide)))).other W22 (Or.inr (slot_ne (Or.inr (W_ hw 65 rfl)) (Or.inr (W_ hw 48 rfl)) (by decide) (t := .int) (t' := .int) (by decide) (by decide)))).other W28 (Or.inr (slot_ne (Or.inr (W_ hw 65 rfl)) (Or.inr (W_ hw 50 rfl)) (by decide) (t := .int) (t' := .int) (by decide) (by decide)))).other W34 (Or.inr (slot_ne (Or.inr (W_ hw 65 rfl)) (Or.inr (W_ hw 52 rfl)) (by decide) (t := .int) (t' := (.object "com/example/stemshear/stemshear/Rule")) (by decide) (by decide))))
  have f43 := (f33.wr W34)
  obtain ⟨T44, h44, L44, X44, e44, n44, W44, F44, st44⟩ := Own.putF (Ls := #[vr o0, vr o1, vr o2, vi p3, vi 0, .val .null]) (S := []) (v := (.int (Int32.ofNat fs.length))) X40 hx D35.hZ e40 D35.hown (host := "") (Or.inl (W_ hw 64 rfl)) Via.refl f42 f43 (Or.inr ⟨(W_ hw 65 rfl), rfl, hnm⟩) (W_ hw 30 rfl) (ty := .int) (by decide) rfl rfl (D d7_109)
  have N44 : Fr n0 L44 := n44 n0 N34 g0
  have m45 : h34.size ≤ h44.size := Nat.le_of_eq W44.size.symm
  have D45 := D35.wr W44 (Safe.exa D35.hZ.alike f43 (by decide) (by decide))
  have K46 := fun t k => K41 t (st44 t k)
  have f47 := ((((((TX.wrW W10 (Or.inl rfl)).wrW W16 (Or.inl rfl)).wrW W22 (Or.inl rfl)).wrW W28 (Or.inl rfl)).wrW W34 (Or.inl rfl)).wrW W44 (Or.inl rfl))
  have f48 := (f38.wr W44)
  have K49 : Own.To p e below B0 T44 (mkF m 114 #[vr o0, vr o1, vr o2, vi p3, vi 0, .val .null] [(.ref o2), (.ref o0)]) := fun t k => K46 t (by
    refine Own.aloadN X44 hx (D d7_112) rfl rfl ?_
    refine Own.aloadN X44 hx (D d7_113) rfl rfl ?_
    exact k)
  obtain ⟨T50, h50, v50, J50, L50, X50, e50, n50, hQ50, st50⟩ := Own.callVH (Ls := #[vr o0, vr o1, vr o2, vi p3, vi 0, .val .null]) X44 hx D45.hZ e44 o2 [] [(.ref o0)] (cTCg l Z a0 hw o2 n0 rs G1 h44 (Nat.le_trans Z0 (Nat.le_trans (Nat.le_trans (Nat.le_trans (Nat.le_trans (Nat.le_trans m11 m17) m23) m29) m35) m45)) f47.txt (by omega) f48 hG1) D45.hown f47.txt.exa (W_ hw 66 rfl) (W_ hw 67 rfl) (W_ hw 56 rfl) rfl (W_ hw 69 rfl) (W_ hw 68 rfl) (W_ hw 9 rfl) (W_ hw 70 rfl) (by decide) 1 (by decide) (by decide) (by decide) (by decide) (szOf hml rfl) (lenOf pd_25 rfl) rfl (Nat.le_of_eq rfl) (D d7_114)
  have X50 : Stand p l e ({ frames := 7, cells := 20, slots := 200, locals := 108 } : Room) (s.setVm s.vm) m #[(.ref o0), (.ref o1), (.ref o2), (.int p3), (.int 0), .null] below meth c T50 L50 1 4 := X50
  obtain ⟨bc50, rfl, le50, NN50, K50, V50⟩ := hQ50
  have N50 : Fr n0 L50 := n50 n0 N44 NN50
  have m51 : h44.size ≤ h50.size := K50.1
  have D51 := D45.keep K50 sf0
  have K52 := fun t k => K49 t (st50 t k)
  have f53 := (((((((R6.other W10 (Or.inr (slot_ne (Or.inr (W_ hw 84 rfl)) (Or.inr (W_ hw 44 rfl)) (by decide) (t := (.array .char)) (t' := (.object "java/lang/String")) (by decide) (by decide)))).other W16 (Or.inr (slot_ne (Or.inr (W_ hw 84 rfl)) (Or.inr (W_ hw 46 rfl)) (by decide) (t := (.array .char)) (t' := (.object "java/lang/String")) (by decide) (by decide)))).other W22 (Or.inr (slot_ne (Or.inr (W_ hw 84 rfl)) (Or.inr (W_ hw 48 rfl)) (by decide) (t := (.array .char)) (t' := .int) (by decide) (by decide)))).other W28 (Or.inr (slot_ne (Or.inr (W_ hw 84 rfl)) (Or.inr (W_ hw 50 rfl)) (by decide) (t := (.array .char)) (t' := .int) (by decide) (by decide)))).other W34 (Or.inr (slot_ne (Or.inr (W_ hw 84 rfl)) (Or.inr (W_ hw 52 rfl)) (by decide) (t := (.array .char)) (t' := (.object "com/example/stemshear/stemshear/Rule")) (by decide) (by decide)))).other W44 (Or.inr (slot_ne (Or.inr (W_ hw 84 rfl)) (Or.inr (W_ hw 65 rfl)) (by decide) (t := (.array .char)) (t' := .int) (by decide) (by decide)))).keep K50 nin0)
  have f54 := ((f43.wr W44).keep K50)
  obtain ⟨T55, h55, L55, X55, e55, n55, W55, F55, st55⟩ := Own.putF (Ls := #[vr o0, vr o1, vr o2, vi p3, vi 0, .val .null]) (S := []) (v := (.ref bc50)) X50 hx D51.hZ e50 D51.hown (host := "") (Or.inl (W_ hw 83 rfl)) Via.refl f53 f54 (Or.inr ⟨(W_ hw 84 rfl), rfl, hnm⟩) (W_ hw 30 rfl) (ty := (.array .char)) (by decide) rfl rfl (D d7_117)
  have N55 : Fr n0 L55 := n55 n0 N50 g0
  have m56 : h50.size ≤ h55.size := Nat.le_of_eq W55.size.symm
  have D56 := D51.wr W55 (Safe.exa D51.hZ.alike f54 (by decide) (by decide))
  have K57 := fun t k => K52 t (st55 t k)
  have f58 := ((f47.keepW K50 all0).wrW W55 (Or.inl rfl))
  have f59 := ((((((((SK.wr W10).wr W16).wr W22).wr W28).wr W34).wr W44).ext (Own.Ext.keep (Own.Ext.refl _) K50 all0)).wr W55)
  have f60 := ((((((((KD.other W10 hwo).other W16 hwo).other W22 hwo).other W28 hwo).other W34 hwo).other W44 hwo).keep K50 nin0).other W55 hwo)
  have f61 := ((f48.ext (Own.Ext.keep (Own.Ext.refl _) K50 all0)).wr W55)
  have K62 : Own.To p e below B0 T55 (mkF m 124 #[vr o0, vr o1, vr o2, vi p3, vi 0, .val .null] [(.ref o2), (.int 97), (.ref o0)]) := fun t k => K57 t (by
    refine Own.aloadN X55 hx (D d7_120) rfl rfl ?_
    refine Own.bipush X55 hx 97 (D d7_121) rfl ?_
    refine Own.aloadN X55 hx (D d7_123) rfl rfl ?_
    exact k)
  obtain ⟨T63, h63, v63, J63, L63, X63, e63, n63, hQ63, st63⟩ := Own.callH (Ls := #[vr o0, vr o1, vr o2, vi p3, vi 0, .val .null]) X55 hx D56.hZ e55 [(.int 97), (.ref o2)] [(.ref o0)] (cVF l Z a0 hw (97 : Int32) o2 n0 wK rs G1 h55 (Nat.le_trans Z0 (Nat.le_trans (Nat.le_trans (Nat.le_trans (Nat.le_trans (Nat.le_trans (Nat.le_trans (Nat.le_trans m11 m17) m23) m29) m35) m45) m51) m56)) f59 f60 f58.txt hrs own_l97 hl f61 hG1) D56.hown (W_ hw 85 rfl) (W_ hw 86 rfl) (W_ hw 31 rfl) (W_ hw 87 rfl) (by decide) 1 (by decide) (by decide) (by decide) (by decide) (szOf hml rfl) (lenOf pd_28 rfl) rfl (Nat.le_of_eq rfl) (D d7_124)
  have X63 : Stand p l e ({ frames := 7, cells := 20, slots := 200, locals := 108 } : Room) (s.setVm s.vm) m #[(.ref o0), (.ref o1), (.ref o2), (.int p3), (.int 0), .null] below meth c T63 L63 7 64 := X63
  obtain ⟨rfl, NN63, K63⟩ := hQ63
  have N63 : Fr n0 L63 := n63 n0 N55 NN63
  have m64 : h55.size ≤ h63.size := K63.1
  have D64 := D56.keep K63 sf0
  have K65 := fun t k => K62 t (st63 t k)
  have f66 := (((((((((R7.other W10 (Or.inr (slot_ne (Or.inr (W_ hw 217 rfl)) (Or.inr (W_ hw 44 rfl)) (by decide) (t := .long) (t' := (.object "java/lang/String")) (by decide) (by decide)))).other W16 (Or.inr (slot_ne (Or.inr (W_ hw 217 rfl)) (Or.inr (W_ hw 46 rfl)) (by decide) (t := .long) (t' := (.object "java/lang/String")) (by decide) (by decide)))).other W22 (Or.inr (slot_ne (Or.inr (W_ hw 217 rfl)) (Or.inr (W_ hw 48 rfl)) (by decide) (t := .long) (t' := .int) (by decide) (by decide)))).other W28 (Or.inr (slot_ne (Or.inr (W_ hw 217 rfl)) (Or.inr (W_ hw 50 rfl)) (by decide) (t := .long) (t' := .int) (by decide) (by decide)))).other W34 (Or.inr (slot_ne (Or.inr (W_ hw 217 rfl)) (Or.inr (W_ hw 52 rfl)) (by decide) (t := .long) (t' := (.object "com/example/stemshear/stemshear/Rule")) (by decide) (by decide)))).other W44 (Or.inr (slot_ne (Or.inr (W_ hw 217 rfl)) (Or.inr (W_ hw 65 rfl)) (by decide) (t := .long) (t' := .int) (by decide) (by decide)))).keep K50 nin0).other W55 (Or.inr (slot_ne (Or.inr (W_ hw 217 rfl)) (Or.inr (W_ hw 84 rfl)) (by decide) (t := .long) (t' := (.array .char)) (by decide) (by decide)))).keep K63 nin0)
  have f67 := ((f54.wr W55).keep K63)
  obtain ⟨T68, h68, L68, X68, e68, n68, W68, F68, st68⟩ := Own.putF (Ls := #[vr o0, vr o1, vr o2, vi p3, vi 0, .val .null]) (S := []) (v := (.long (own_Wg (97 : Int32) rs))) X63 hx D64.hZ e63 D64.hown (host := "") (Or.inl (W_ hw 216 rfl)) Via.refl f66 f67 (Or.inr ⟨(W_ hw 217 rfl), rfl, hnm⟩) (W_ hw 30 rfl) (ty := .long) (by decide) rfl rfl (D d7_127)
  have N68 : Fr n0 L68 := n68 n0 N63 g0
  have m69 : h63.size ≤ h68.size := Nat.le_of_eq W68.size.symm
  have D69 := D64.wr W68 (Safe.exa D64.hZ.alike f67 (by decide) (by decide))
  have K70 := fun t k => K65 t (st68 t k)
  have f71 := ((f58.keepW K63 all0).wrW W68 (Or.inl rfl))
  have f72 := ((f59.ext (Own.Ext.keep (Own.Ext.refl _) K63 all0)).wr W68)
  have f73 := ((f60.keep K63 nin0).other W68 hwo)
  have f74 := ((f61.ext (Own.Ext.keep (Own.Ext.refl _) K63 all0)).wr W68)
  have K75 : Own.To p e below B0 T68 (mkF m 134 #[vr o0, vr o1, vr o2, vi p3, vi 0, .val .null] [(.ref o2), (.int 98), (.ref o0)]) := fun t k => K70 t (by
    refine Own.aloadN X68 hx (D d7_130) rfl rfl ?_
    refine Own.bipush X68 hx 98 (D d7_131) rfl ?_
    refine Own.aloadN X68 hx (D d7_133) rfl rfl ?_
    exact k)
  obtain ⟨T76, h76, v76, J76, L76, X76, e76, n76, hQ76, st76⟩ := Own.callH (Ls := #[vr o0, vr o1, vr o2, vi p3, vi 0, .val .null]) X68 hx D69.hZ e68 [(.int 98), (.ref o2)] [(.ref o0)] (cVF l Z a0 hw (98 : Int32) o2 n0 wK rs G1 h68 (Nat.le_trans Z0 (Nat.le_trans (Nat.le_trans (Nat.le_trans (Nat.le_trans (Nat.le_trans (Nat.le_trans (Nat.le_trans (Nat.le_trans (Nat.le_trans m11 m17) m23) m29) m35) m45) m51) m56) m64) m69)) f72 f73 f71.txt hrs own_l98 hl f74 hG1) D69.hown (W_ hw 85 rfl) (W_ hw 86 rfl) (W_ hw 31 rfl) (W_ hw 87 rfl) (by decide) 1 (by decide) (by decide) (by decide) (by decide) (szOf hml rfl) (lenOf pd_28 rfl) rfl (Nat.le_of_eq rfl) (D d7_134)
  have X76 : Stand p l e ({ frames := 7, cells := 20, slots := 200, locals := 108 } : Room) (s.setVm s.vm) m #[(.ref o0), (.ref o1), (.ref o2), (.int p3), (.int 0), .null] below meth c T76 L76 13 124 := X76
  obtain ⟨rfl, NN76, K76⟩ := hQ76
  have N76 : Fr n0 L76 := n76 n0 N68 NN76
  have m77 : h68.size ≤ h76.size := K76.1
  have D77 := D69.keep K76 sf0
  have K78 := fun t k => K75 t (st76 t k)
  have f79 := (((((((((((R8.other W10 (Or.inr (slot_ne (Or.inr (W_ hw 219 rfl)) (Or.inr (W_ hw 44 rfl)) (by decide) (t := .long) (t' := (.object "java/lang/String")) (by decide) (by decide)))).other W16 (Or.inr (slot_ne (Or.inr (W_ hw 219 rfl)) (Or.inr (W_ hw 46 rfl)) (by decide) (t := .long) (t' := (.object "java/lang/String")) (by decide) (by decide)))).other W22 (Or.inr (slot_ne (Or.inr (W_ hw 219 rfl)) (Or.inr (W_ hw 48 rfl)) (by decide) (t := .long) (t' := .int) (by decide) (by decide)))).other W28 (Or.inr (slot_ne (Or.inr (W_ hw 219 rfl)) (Or.inr (W_ hw 50 rfl)) (by decide) (t := .long) (t' := .int) (by decide) (by decide)))).other W34 (Or.inr (slot_ne (Or.inr (W_ hw 219 rfl)) (Or.inr (W_ hw 52 rfl)) (by decide) (t := .long) (t' := (.object "com/example/stemshear/stemshear/Rule")) (by decide) (by decide)))).other W44 (Or.inr (slot_ne (Or.inr (W_ hw 219 rfl)) (Or.inr (W_ hw 65 rfl)) (by decide) (t := .long) (t' := .int) (by decide) (by decide)))).keep K50 nin0).other W55 (Or.inr (slot_ne (Or.inr (W_ hw 219 rfl)) (Or.inr (W_ hw 84 rfl)) (by decide) (t := .long) (t' := (.array .char)) (by decide) (by decide)))).keep K63 nin0).other W68 (Or.inr (slot_ne (Or.inr (W_ hw 219 rfl)) (Or.inr (W_ hw 217 rfl)) (by decide) (t := .long) (t' := .long) (by decide) (by decide)))).keep K76 nin0)
  have f80 := ((f67.wr W68).keep K76)
  obtain ⟨T81, h81, L81, X81, e81, n81, W81, F81, st81⟩ := Own.putF (Ls := #[vr o0, vr o1, vr o2, vi p3, vi 0, .val .null]) (S := []) (v := (.long (own_Wg (98 : Int32) rs))) X76 hx D77.hZ e76 D77.hown (host := "") (Or.inl (W_ hw 218 rfl)) Via.refl f79 f80 (Or.inr ⟨(W_ hw 219 rfl), rfl, hnm⟩) (W_ hw 30 rfl) (ty := .long) (by decide) rfl rfl (D d7_137)
  have N81 : Fr n0 L81 := n81 n0 N76 g0
  have m82 : h76.size ≤ h81.size := Nat.le_of_eq W81.size.symm
  have D82 := D77.wr W81 (Safe.exa D77.hZ.alike f80 (by decide) (by decide))
  have K83 := fun t k => K78 t (st81 t k)
  have K84 : Own.To p e below B0 T81 (mkF m 141 #[vr o0, vr o1, vr o2, vi p3, vi 0, .val .null] [(.ref o0)]) := fun t k => K83 t (by
    refine Own.aloadN X81 hx (D d7_140) rfl rfl ?_
    exact k)
  obtain ⟨T85, h85, b85, X85, e85, E85, g85, A85, D85, st85⟩ := Own.newO (Ls := #[vr o0, vr o1, vr o2, vi p3, vi 0, .val .null]) (S := [(.ref o0)]) X81 hx D82.hZ e81 D82.hown (W_ hw 88 rfl) (W_ hw 89 rfl) (W_ hw 90 rfl) (D d7_141) (by decide) (by decide)
  have le_b85 : h81.size ≤ b85 := Nat.le_of_eq g85.symm
  have X85 : Stand p l e ({ frames := 7, cells := 20, slots := 200, locals := 108 } : Room) (s.setVm s.vm) m #[(.ref o0), (.ref o1), (.ref o2), (.int p3), (.int 0), .null] below meth c T85 L81 14 128 := X85
  have m86 : h81.size ≤ h85.size := E85.1
  have D86 := D82.ext E85
  have F85_value : Fld Z h85 b85 "java/lang/AbstractStringBuilder" "value" "[B" .null := D85 (Or.inl (W_ hw 103 rfl)) (ty := (.array .byte)) (by decide)
  have F85_coder : Fld Z h85 b85 "java/lang/AbstractStringBuilder" "coder" "B" (.int 0) := D85 (Or.inl (W_ hw 105 rfl)) (ty := .byte) (by decide)
  have F85_count : Fld Z h85 b85 "java/lang/AbstractStringBuilder" "count" "I" (.int 0) := D85 (Or.inl (W_ hw 117 rfl)) (ty := .int) (by decide)
  have K87 := fun t k => K84 t (st85 t k)
  have f88 := (((f74.ext (Own.Ext.keep (Own.Ext.refl _) K76 all0)).wr W81).ext E85)
  have K89 : Own.To p e below B0 T85 (mkF m 145 #[vr o0, vr o1, vr o2, vi p3, vi 0, .val .null] [(.ref b85), (.ref b85), (.ref o0)]) := fun t k => K87 t (by
    refine Own.dup X85 hx (D d7_144) rfl ?_
    exact k)
  obtain ⟨T90, h90, v90, J90, L90, X90, e90, n90, hQ90, st90⟩ := Own.callI (Ls := #[vr o0, vr o1, vr o2, vi p3, vi 0, .val .null]) X85 hx D86.hZ e85 rfl b85 [] [(.ref b85), (.ref o0)] (cSBI l Z a0 hw b85 n0 G1 h85 (Nat.le_trans Z0 (Nat.le_trans (Nat.le_trans (Nat.le_trans (Nat.le_trans (Nat.le_trans (Nat.le_trans (Nat.le_trans (Nat.le_trans (Nat.le_trans (Nat.le_trans (Nat.le_trans (Nat.le_trans m11 m17) m23) m29) m35) m45) m51) m56) m64) m69) m77) m82) m86)) A85 F85_value F85_coder F85_count (Nat.le_trans Z0 (Nat.le_trans (Nat.le_trans (Nat.le_trans (Nat.le_trans (Nat.le_trans (Nat.le_trans (Nat.le_trans (Nat.le_trans (Nat.le_trans (Nat.le_trans (Nat.le_trans (Nat.le_trans m11 m17) m23) m29) m35) m45) m51) m56) m64) m69) m77) m82) le_b85)) f88 hG1) D86.hown (W_ hw 91 rfl) (W_ hw 92 rfl) (W_ hw 90 rfl) (W_ hw 93 rfl) (by decide) 2 (by decide) (by decide) (by decide) (by decide) (szOf hml rfl) (lenOf pd_21 rfl) rfl (Nat.le_of_eq rfl) (D d7_145)
  have X90 : Stand p l e ({ frames := 7, cells := 20, slots := 200, locals := 108 } : Room) (s.setVm s.vm) m #[(.ref o0), (.ref o1), (.ref o2), (.int p3), (.int 0), .null] below meth c T90 L90 15 144 := X90
  obtain ⟨rfl, NN90, K90, bv90, le90, B90⟩ := hQ90
  have N90 : Fr n0 L90 := n90 n0 N81 NN90
  have sv90 := Safe.new (Z := Z) (EL := own_EL) (vm := s.vm) le90
  have m91 : h85.size ≤ h90.size := K90.1
  have S92 := Safe.keep K90 (sfS (Safe.exa D86.hZ.alike A85 (by decide) (by decide)) sf0) D86.H sv90
  have D91 := D86.keep K90 (sfS (Safe.exa D86.hZ.alike A85 (by decide) (by decide)) sf0)
  have K93 := fun t k => K89 t (st90 t k)
  have f94 := (((((((((f37.wrW W44 (Or.inl rfl)).keepW K50 all0).wrW W55 (Or.inl rfl)).keepW K63 all0).wrW W68 (Or.inl rfl)).keepW K76 all0).wrW W81 (Or.inl rfl)).ext E85).keepW K90 (allS (Or.inr (Nat.le_trans (Nat.le_trans (Nat.le_trans (Nat.le_trans (Nat.le_trans (Nat.le_trans (Nat.le_trans (Nat.le_trans (Nat.le_trans (Nat.le_trans (Nat.le_trans (Nat.le_trans m11 m17) m23) m29) m35) m45) m51) m56) m64) m69) m77) m82) le_b85)) all0))
  have f95 := (Own.sta_keep f88 K90 A85)
  have K96 : Own.To p e below B0 T90 (mkF m 149 #[vr o0, vr o1, vr o2, vi p3, vi 0, .val .null] [(.ref o1), (.ref b85), (.ref o0)]) := fun t k => K93 t (by
    refine Own.aloadN X90 hx (D d7_148) rfl rfl ?_
    exact k)
  obtain ⟨T97, h97, v97, J97, L97, X97, e97, n97, hQ97, st97⟩ := Own.callVH (Ls := #[vr o0, vr o1, vr o2, vi p3, vi 0, .val .null]) X90 hx D91.hZ e90 b85 [(.ref o1)] [(.ref o0)] (cSAS l Z a0 hw b85 o1 n0 bv90 ([] : List Int32) fs G1 h90 (Nat.le_trans Z0 (Nat.le_trans (Nat.le_trans (Nat.le_trans (Nat.le_trans (Nat.le_trans (Nat.le_trans (Nat.le_trans (Nat.le_trans (Nat.le_trans (Nat.le_trans (Nat.le_trans (Nat.le_trans (Nat.le_trans m11 m17) m23) m29) m35) m45) m51) m56) m64) m69) m77) m82) m86) m91)) B90 f94.txt (by simp only [List.length_append, List.length_nil, List.length_cons]; omega) (Nat.le_trans Z0 (Nat.le_trans (Nat.le_trans (Nat.le_trans (Nat.le_trans (Nat.le_trans (Nat.le_trans (Nat.le_trans (Nat.le_trans (Nat.le_trans (Nat.le_trans (Nat.le_trans (Nat.le_trans m11 m17) m23) m29) m35) m45) m51) m56) m64) m69) m77) m82) le_b85)) (Nat.le_trans Z0 (Nat.le_trans (Nat.le_trans (Nat.le_trans (Nat.le_trans (Nat.le_trans (Nat.le_trans (Nat.le_trans (Nat.le_trans (Nat.le_trans (Nat.le_trans (Nat.le_trans (Nat.le_trans (Nat.le_trans m11 m17) m23) m29) m35) m45) m51) m56) m64) m69) m77) m82) m86) le90)) f95 hG1) D91.hown B90.exa (W_ hw 131 rfl) (W_ hw 132 rfl) (W_ hw 109 rfl) rfl (W_ hw 134 rfl) (W_ hw 133 rfl) (W_ hw 90 rfl) (W_ hw 135 rfl) (by decide) 1 (by decide) (by decide) (by decide) (by decide) (szOf hml rfl) (lenOf pd_23 rfl) rfl (Nat.le_of_eq rfl) (D d7_149)
  have X97 : Stand p l e ({ frames := 7, cells := 20, slots := 200, locals := 108 } : Room) (s.setVm s.vm) m #[(.ref o0), (.ref o1), (.ref o2), (.int p3), (.int 0), .null] below meth c T97 L97 15 144 := X97
  obtain ⟨rfl, NN97, K97, B97⟩ := hQ97
  have N97 : Fr n0 L97 := n97 n0 N90 NN97
  have m98 : h90.size ≤ h97.size := K97.1
  have S99 := Safe.keep K97 (sfS (Safe.exa D91.hZ.alike B90.exa (by decide) (by decide)) (sfS S92 sf0)) D91.H S92
  have D98 := D91.keep K97 (sfS (Safe.exa D91.hZ.alike B90.exa (by decide) (by decide)) (sfS S92 sf0))
  have K100 := fun t k => K96 t (st97 t k)
  obtain ⟨vm101, T101, h101, a101, b101, k101, X101, e101, E101, D101, sf101, ex101, fv101, fc101, av101, ne101, st101⟩ := Own.ldcT (Ls := #[vr o0, vr o1, vr o2, vi p3, vi 0, .val .null]) (S := [(.ref b85), (.ref o0)]) X97 hx (own_hEL hw) D98 e97 ">" (W_ hw 220 rfl) (own_wS hw) (by decide) [(62 : Int32)] (by decide) (by rfl) 4 (by decide) (by decide) (by decide) (by decide) (by decide) (D d7_152)
  have S102 := sf101 bv90 B97.arr.lt S99
  have X101 : Stand p l e ({ frames := 7, cells := 20, slots := 200, locals := 108 } : Room) (s.setVm vm101) m #[(.ref o0), (.ref o1), (.ref o2), (.int p3), (.int 0), .null] below meth c T101 L97 17 152 := X101
  have m103 : h97.size ≤ h101.size := E101.1
  have ca101 : Own.CA Z h101 b101 .byte ([(62 : Int32)].map fun c => c.toInt8.toInt32) := ⟨k101, by simpa using av101, by simp⟩
  have tx101 : own_Txt Z h101 a101 [(62 : Int32)] := ⟨b101, k101, ex101, fv101, fc101, av101, by decide, by decide⟩
  have K104 := fun t k => K100 t (st101 t k)
  have f105 := (B97.ext E101)
  have f106 := ((Own.sta_keepG f95 K97 (allS (Own.ns_exa B90.exa) (allS (Own.ns_ca B90.arr) all0))).ext E101)
  have f108 := (B97.exa.ext E101)
  obtain ⟨T107, h107, v107, J107, L107, X107, e107, n107, hQ107, st107⟩ := Own.callVH (Ls := #[vr o0, vr o1, vr o2, vi p3, vi 0, .val .null]) X101 hx D101.hZ e101 b85 [(.ref a101)] [(.ref o0)] (cSAS l Z a0 hw b85 a101 n0 bv90 (([] : List Int32) ++ fs) [(62 : Int32)] G1 h101 (Nat.le_trans Z0 (Nat.le_trans (Nat.le_trans (Nat.le_trans (Nat.le_trans (Nat.le_trans (Nat.le_trans (Nat.le_trans (Nat.le_trans (Nat.le_trans (Nat.le_trans (Nat.le_trans (Nat.le_trans (Nat.le_trans (Nat.le_trans (Nat.le_trans m11 m17) m23) m29) m35) m45) m51) m56) m64) m69) m77) m82) m86) m91) m98) m103)) f105 tx101 (by simp only [List.length_append, List.length_nil, List.length_cons]; omega) (Nat.le_trans Z0 (Nat.le_trans (Nat.le_trans (Nat.le_trans (Nat.le_trans (Nat.le_trans (Nat.le_trans (Nat.le_trans (Nat.le_trans (Nat.le_trans (Nat.le_trans (Nat.le_trans (Nat.le_trans m11 m17) m23) m29) m35) m45) m51) m56) m64) m69) m77) m82) le_b85)) (Nat.le_trans Z0 (Nat.le_trans (Nat.le_trans (Nat.le_trans (Nat.le_trans (Nat.le_trans (Nat.le_trans (Nat.le_trans (Nat.le_trans (Nat.le_trans (Nat.le_trans (Nat.le_trans (Nat.le_trans (Nat.le_trans m11 m17) m23) m29) m35) m45) m51) m56) m64) m69) m77) m82) m86) le90)) f106 hG1) D101.hown f108 (W_ hw 131 rfl) (W_ hw 132 rfl) (W_ hw 109 rfl) rfl (W_ hw 134 rfl) (W_ hw 133 rfl) (W_ hw 90 rfl) (W_ hw 135 rfl) (by decide) 1 (by decide) (by decide) (by decide) (by decide) (szOf hml rfl) (lenOf pd_23 rfl) rfl (Nat.le_of_eq rfl) (D d7_154)
  have X107 : Stand p l e ({ frames := 7, cells := 20, slots := 200, locals := 108 } : Room) (s.setVm vm101) m #[(.ref o0), (.ref o1), (.ref o2), (.int p3), (.int 0), .null] below meth c T107 L107 17 152 := X107
  obtain ⟨rfl, NN107, K107, B107⟩ := hQ107
  have N107 : Fr n0 L107 := n107 n0 N97 NN107
  have m109 : h101.size ≤ h107.size := K107.1
  have S110 := Safe.keep K107 (sfS (Safe.exa D101.hZ.alike f108 (by decide) (by decide)) (sfS S102 sf0)) D101.H S102
  have D109 := D101.keep K107 (sfS (Safe.exa D101.hZ.alike f108 (by decide) (by decide)) (sfS S102 sf0))
  have K111 := fun t k => K104 t (st107 t k)
  have f112 := (((((((f71.keepW K76 all0).wrW W81 (Or.inl rfl)).ext E85).keepW K90 (allS (Or.inr (Nat.le_trans (Nat.le_trans (Nat.le_trans (Nat.le_trans (Nat.le_trans (Nat.le_trans (Nat.le_trans (Nat.le_trans (Nat.le_trans (Nat.le_trans (Nat.le_trans (Nat.le_trans m11 m17) m23) m29) m35) m45) m51) m56) m64) m69) m77) m82) le_b85)) all0)).keepW K97 (allS (Or.inr (Nat.le_trans (Nat.le_trans (Nat.le_trans (Nat.le_trans (Nat.le_trans (Nat.le_trans (Nat.le_trans (Nat.le_trans (Nat.le_trans (Nat.le_trans (Nat.le_trans (Nat.le_trans m11 m17) m23) m29) m35) m45) m51) m56) m64) m69) m77) m82) le_b85)) (allS (Or.inr (Nat.le_trans (Nat.le_trans (Nat.le_trans (Nat.le_trans (Nat.le_trans (Nat.le_trans (Nat.le_trans (Nat.le_trans (Nat.le_trans (Nat.le_trans (Nat.le_trans (Nat.le_trans (Nat.le_trans m11 m17) m23) m29) m35) m45) m51) m56) m64) m69) m77) m82) m86) le90)) all0))).ext E101).keepW K107 (allS (Or.inr (Nat.le_trans (Nat.le_trans (Nat.le_trans (Nat.le_trans (Nat.le_trans (Nat.le_trans (Nat.le_trans (Nat.le_trans (Nat.le_trans (Nat.le_trans (Nat.le_trans (Nat.le_trans m11 m17) m23) m29) m35) m45) m51) m56) m64) m69) m77) m82) le_b85)) (allS (Or.inr (Nat.le_trans (Nat.le_trans (Nat.le_trans (Nat.le_trans (Nat.le_trans (Nat.le_trans (Nat.le_trans (Nat.le_trans (Nat.le_trans (Nat.le_trans (Nat.le_trans (Nat.le_trans (Nat.le_trans m11 m17) m23) m29) m35) m45) m51) m56) m64) m69) m77) m82) m86) le90)) all0)))
  have f113 := (Own.sta_keepG f106 K107 (allS (Own.ns_exa f108) (allS (Own.ns_ca (B97.arr.ext E101)) all0)))
  have K114 : Own.To p e below B0 T107 (mkF m 158 #[vr o0, vr o1, vr o2, vi p3, vi 0, .val .null] [(.ref o2), (.ref b85), (.ref o0)]) := fun t k => K111 t (by
    refine Own.aloadN X107 hx (D d7_157) rfl rfl ?_
    exact k)
  obtain ⟨T115, h115, v115, J115, L115, X115, e115, n115, hQ115, st115⟩ := Own.callVH (Ls := #[vr o0, vr o1, vr o2, vi p3, vi 0, .val .null]) X107 hx D109.hZ e107 b85 [(.ref o2)] [(.ref o0)] (cSAS l Z a0 hw b85 o2 n0 bv90 ((([] : List Int32) ++ fs) ++ [(62 : Int32)]) rs G1 h107 (Nat.le_trans Z0 (Nat.le_trans (Nat.le_trans (Nat.le_trans (Nat.le_trans (Nat.le_trans (Nat.le_trans (Nat.le_trans (Nat.le_trans (Nat.le_trans (Nat.le_trans (Nat.le_trans (Nat.le_trans (Nat.le_trans (Nat.le_trans (Nat.le_trans (Nat.le_trans m11 m17) m23) m29) m35) m45) m51) m56) m64) m69) m77) m82) m86) m91) m98) m103) m109)) B107 f112.txt (by simp only [List.length_append, List.length_nil, List.length_cons]; omega) (Nat.le_trans Z0 (Nat.le_trans (Nat.le_trans (Nat.le_trans (Nat.le_trans (Nat.le_trans (Nat.le_trans (Nat.le_trans (Nat.le_trans (Nat.le_trans (Nat.le_trans (Nat.le_trans (Nat.le_trans m11 m17) m23) m29) m35) m45) m51) m56) m64) m69) m77) m82) le_b85)) (Nat.le_trans Z0 (Nat.le_trans (Nat.le_trans (Nat.le_trans (Nat.le_trans (Nat.le_trans (Nat.le_trans (Nat.le_trans (Nat.le_trans (Nat.le_trans (Nat.le_trans (Nat.le_trans (Nat.le_trans (Nat.le_trans m11 m17) m23) m29) m35) m45) m51) m56) m64) m69) m77) m82) m86) le90)) f113 hG1) D109.hown B107.exa (W_ hw 131 rfl) (W_ hw 132 rfl) (W_ hw 109 rfl) rfl (W_ hw 134 rfl) (W_ hw 133 rfl) (W_ hw 90 rfl) (W_ hw 135 rfl) (by decide) 1 (by decide) (by decide) (by decide) (by decide) (szOf hml rfl) (lenOf pd_23 rfl) rfl (Nat.le_of_eq rfl) (D d7_158)
  have X115 : Stand p l e ({ frames := 7, cells := 20, slots := 200, locals := 108 } : Room) (s.setVm vm101) m #[(.ref o0), (.ref o1), (.ref o2), (.int p3), (.int 0), .null] below meth c T115 L115 17 152 := X115
  obtain ⟨rfl, NN115, K115, B115⟩ := hQ115
  have N115 : Fr n0 L115 := n115 n0 N107 NN115
  have m116 : h107.size ≤ h115.size := K115.1
  have S117 := Safe.keep K115 (sfS (Safe.exa D109.hZ.alike B107.exa (by decide) (by decide)) (sfS S110 sf0)) D109.H S110
  have D116 := D109.keep K115 (sfS (Safe.exa D109.hZ.alike B107.exa (by decide) (by decide)) (sfS S110 sf0))
  have K118 := fun t k => K114 t (st115 t k)
  have f119 := (Own.sta_keepG f113 K115 (allS (Own.ns_exa B107.exa) (allS (Own.ns_ca B107.arr) all0)))
  obtain ⟨T120, h120, v120, J120, L120, X120, e120, n120, hQ120, st120⟩ := Own.callVH (Ls := #[vr o0, vr o1, vr o2, vi p3, vi 0, .val .null]) X115 hx D116.hZ e115 b85 [] [(.ref o0)] (cTS l Z a0 hw b85 n0 bv90 (((([] : List Int32) ++ fs) ++ [(62 : Int32)]) ++ rs) G1 h115 (Nat.le_trans Z0 (Nat.le_trans (Nat.le_trans (Nat.le_trans (Nat.le_trans (Nat.le_trans (Nat.le_trans (Nat.le_trans (Nat.le_trans (Nat.le_trans (Nat.le_trans (Nat.le_trans (Nat.le_trans (Nat.le_trans (Nat.le_trans (Nat.le_trans (Nat.le_trans (Nat.le_trans m11 m17) m23) m29) m35) m45) m51) m56) m64) m69) m77) m82) m86) m91) m98) m103) m109) m116)) B115 (by simp only [List.length_append, List.length_nil, List.length_cons]; omega) f119 hG1) D116.hown B115.exa (W_ hw 161 rfl) (W_ hw 162 rfl) (W_ hw 109 rfl) rfl (W_ hw 164 rfl) (W_ hw 163 rfl) (W_ hw 90 rfl) (W_ hw 165 rfl) (by decide) 1 (by decide) (by decide) (by decide) (by decide) (szOf hml rfl) (lenOf pd_24 rfl) rfl (Nat.le_of_eq rfl) (D d7_161)
  have X120 : Stand p l e ({ frames := 7, cells := 20, slots := 200, locals := 108 } : Room) (s.setVm vm101) m #[(.ref o0), (.ref o1), (.ref o2), (.int p3), (.int 0), .null] below meth c T120 L120 19 172 := X120
  obtain ⟨bt120, rfl, le120, NN120, K120, t120⟩ := hQ120
  have N120 : Fr n0 L120 := n120 n0 N115 NN120
  have m121 : h115.size ≤ h120.size := K120.1
  have S122 := Safe.keep K120 sf0 D116.H S117
  have D121 := D116.keep K120 sf0
  have t120 : own_Txt Z h120 bt120 (((([] : List Int32) ++ fs) ++ [(62 : Int32)]) ++ rs) := t120
  have K123 := fun t k => K118 t (st120 t k)
  have f124 := (((((((((((((((((((R9.other W10 (Or.inr (slot_ne (Or.inr (W_ hw 222 rfl)) (Or.inr (W_ hw 44 rfl)) (by decide) (t := (.object "java/lang/String")) (t' := (.object "java/lang/String")) (by decide) (by decide)))).other W16 (Or.inr (slot_ne (Or.inr (W_ hw 222 rfl)) (Or.inr (W_ hw 46 rfl)) (by decide) (t := (.object "java/lang/String")) (t' := (.object "java/lang/String")) (by decide) (by decide)))).other W22 (Or.inr (slot_ne (Or.inr (W_ hw 222 rfl)) (Or.inr (W_ hw 48 rfl)) (by decide) (t := (.object "java/lang/String")) (t' := .int) (by decide) (by decide)))).other W28 (Or.inr (slot_ne (Or.inr (W_ hw 222 rfl)) (Or.inr (W_ hw 50 rfl)) (by decide) (t := (.object "java/lang/String")) (t' := .int) (by decide) (by decide)))).other W34 (Or.inr (slot_ne (Or.inr (W_ hw 222 rfl)) (Or.inr (W_ hw 52 rfl)) (by decide) (t := (.object "java/lang/String")) (t' := (.object "com/example/stemshear/stemshear/Rule")) (by decide) (by decide)))).other W44 (Or.inr (slot_ne (Or.inr (W_ hw 222 rfl)) (Or.inr (W_ hw 65 rfl)) (by decide) (t := (.object "java/lang/String")) (t' := .int) (by decide) (by decide)))).keep K50 nin0).other W55 (Or.inr (slot_ne (Or.inr (W_ hw 222 rfl)) (Or.inr (W_ hw 84 rfl)) (by decide) (t := (.object "java/lang/String")) (t' := (.array .char)) (by decide) (by decide)))).keep K63 nin0).other W68 (Or.inr (slot_ne (Or.inr (W_ hw 222 rfl)) (Or.inr (W_ hw 217 rfl)) (by decide) (t := (.object "java/lang/String")) (t' := .long) (by decide) (by decide)))).keep K76 nin0).other W81 (Or.inr (slot_ne (Or.inr (W_ hw 222 rfl)) (Or.inr (W_ hw 219 rfl)) (by decide) (t := (.object "java/lang/String")) (t' := .long) (by decide) (by decide)))).ext E85).keep K90 (ninS (Nat.ne_of_lt (Nat.lt_of_lt_of_le (f80.wr W81).lt le_b85)) nin0)).keep K97 (ninS (Nat.ne_of_lt (Nat.lt_of_lt_of_le (f80.wr W81).lt le_b85)) (ninS (Nat.ne_of_lt (Nat.lt_of_lt_of_le ((f80.wr W81).ext E85).lt le90)) nin0))).ext E101).keep K107 (ninS (Nat.ne_of_lt (Nat.lt_of_lt_of_le (f80.wr W81).lt le_b85)) (ninS (Nat.ne_of_lt (Nat.lt_of_lt_of_le ((f80.wr W81).ext E85).lt le90)) nin0))).keep K115 (ninS (Nat.ne_of_lt (Nat.lt_of_lt_of_le (f80.wr W81).lt le_b85)) (ninS (Nat.ne_of_lt (Nat.lt_of_lt_of_le ((f80.wr W81).ext E85).lt le90)) nin0))).keep K120 nin0)
  have f125 := ((((((((f80.wr W81).ext E85).keep K90).keep K97).ext E101).keep K107).keep K115).keep K120)
  obtain ⟨T126, h126, L126, X126, e126, n126, W126, F126, st126⟩ := Own.putF (Ls := #[vr o0, vr o1, vr o2, vi p3, vi 0, .val .null]) (S := []) (v := (.ref bt120)) X120 hx D121.hZ e120 D121.hown (host := "") (Or.inl (W_ hw 221 rfl)) Via.refl f124 f125 (Or.inr ⟨(W_ hw 222 rfl), rfl, hnm⟩) (W_ hw 30 rfl) (ty := (.object "java/lang/String")) (by decide) rfl rfl (D d7_164)
  have N126 : Fr n0 L126 := n126 n0 N120 g0
  have m127 : h120.size ≤ h126.size := Nat.le_of_eq W126.size.symm
  have S128 := Safe.wr W126 (Safe.exa D121.hZ.alike f125 (by decide) (by decide)) D121.H S122
  have D127 := D121.wr W126 (Safe.exa D121.hZ.alike f125 (by decide) (by decide))
  have K129 := fun t k => K123 t (st126 t k)
  have K130 : Own.To p e below B0 T126 (mkF m 168 #[vr o0, vr o1, vr o2, vi p3, vi 0, .val .null] [(.ref o0)]) := fun t k => K129 t (by
    refine Own.aloadN X126 hx (D d7_167) rfl rfl ?_
    exact k)
  have f131 := ((((((((((F68.keep K76 nin0).other W81 (Or.inr (slot_ne (Or.inr (W_ hw 217 rfl)) (Or.inr (W_ hw 219 rfl)) (by decide) (t := .long) (t' := .long) (by decide) (by decide)))).ext E85).keep K90 (ninS (Nat.ne_of_lt (Nat.lt_of_lt_of_le (f80.wr W81).lt le_b85)) nin0)).keep K97 (ninS (Nat.ne_of_lt (Nat.lt_of_lt_of_le (f80.wr W81).lt le_b85)) (ninS (Nat.ne_of_lt (Nat.lt_of_lt_of_le ((f80.wr W81).ext E85).lt le90)) nin0))).ext E101).keep K107 (ninS (Nat.ne_of_lt (Nat.lt_of_lt_of_le (f80.wr W81).lt le_b85)) (ninS (Nat.ne_of_lt (Nat.lt_of_lt_of_le ((f80.wr W81).ext E85).lt le90)) nin0))).keep K115 (ninS (Nat.ne_of_lt (Nat.lt_of_lt_of_le (f80.wr W81).lt le_b85)) (ninS (Nat.ne_of_lt (Nat.lt_of_lt_of_le ((f80.wr W81).ext E85).lt le90)) nin0))).keep K120 nin0).other W126 (Or.inr (slot_ne (Or.inr (W_ hw 217 rfl)) (Or.inr (W_ hw 222 rfl)) (by decide) (t := .long) (t' := (.object "java/lang/String")) (by decide) (by decide))))
  obtain ⟨T132, X132, e132, st132⟩ := Own.getF (Ls := #[vr o0, vr o1, vr o2, vi p3, vi 0, .val .null]) X126 hx D127.hZ e126 D127.hown (host := "") (Or.inl (W_ hw 216 rfl)) Via.refl f131 (S := []) (D d7_168)
  have K133 := fun t k => K130 t (st132 t k)
  have K134 : Own.To p e below B0 T132 (mkF m 173 #[vr o0, vr o1, vr o2, vi p3, vi 0, .val .null] [(.int (lcmpW (own_Wg (97 : Int32) rs) (0 : Int64)))]) := fun t k => K133 t (by
    refine Own.lconst X132 hx (0 : Int64) (D d7_171) rfl ?_
    refine Own.lcmp X132 hx (D d7_172) ?_
    exact k)
  have K135 : Own.To p e below B0 T132 (mkF m 203 #[vr o0, vr o1, vr o2, vi p3, vi 0, .val .null] []) := fun t k => K134 t (by
    refine Own.ifYes X132 hx 203 (D d7_173) (Jvm.Free.XT.ll_ge_t (own_Wgnn _ _ : ¬ ((own_Wg (97 : Int32) rs) < (0 : Int64)))) (by decide) (by decide) ?_
    exact k)
  have f136 := (f125.wr W126)
  have f137 := ((((((((((((((F44.keep K50 nin0).other W55 (Or.inr (slot_ne (Or.inr (W_ hw 65 rfl)) (Or.inr (W_ hw 84 rfl)) (by decide) (t := .int) (t' := (.array .char)) (by decide) (by decide)))).keep K63 nin0).other W68 (Or.inr (slot_ne (Or.inr (W_ hw 65 rfl)) (Or.inr (W_ hw 217 rfl)) (by decide) (t := .int) (t' := .long) (by decide) (by decide)))).keep K76 nin0).other W81 (Or.inr (slot_ne (Or.inr (W_ hw 65 rfl)) (Or.inr (W_ hw 219 rfl)) (by decide) (t := .int) (t' := .long) (by decide) (by decide)))).ext E85).keep K90 (ninS (Nat.ne_of_lt (Nat.lt_of_lt_of_le (f80.wr W81).lt le_b85)) nin0)).keep K97 (ninS (Nat.ne_of_lt (Nat.lt_of_lt_of_le (f80.wr W81).lt le_b85)) (ninS (Nat.ne_of_lt (Nat.lt_of_lt_of_le ((f80.wr W81).ext E85).lt le90)) nin0))).ext E101).keep K107 (ninS (Nat.ne_of_lt (Nat.lt_of_lt_of_le (f80.wr W81).lt le_b85)) (ninS (Nat.ne_of_lt (Nat.lt_of_lt_of_le ((f80.wr W81).ext E85).lt le90)) nin0))).keep K115 (ninS (Nat.ne_of_lt (Nat.lt_of_lt_of_le (f80.wr W81).lt le_b85)) (ninS (Nat.ne_of_lt (Nat.lt_of_lt_of_le ((f80.wr W81).ext E85).lt le90)) nin0))).keep K120 nin0).other W126 (Or.inr (slot_ne (Or.inr (W_ hw 65 rfl)) (Or.inr (W_ hw 222 rfl)) (by decide) (t := .int) (t' := (.object "java/lang/String")) (by decide) (by decide))))
  have f138 := ((((((((F81.ext E85).keep K90 (ninS (Nat.ne_of_lt (Nat.lt_of_lt_of_le (f80.wr W81).lt le_b85)) nin0)).keep K97 (ninS (Nat.ne_of_lt (Nat.lt_of_lt_of_le (f80.wr W81).lt le_b85)) (ninS (Nat.ne_of_lt (Nat.lt_of_lt_of_le ((f80.wr W81).ext E85).lt le90)) nin0))).ext E101).keep K107 (ninS (Nat.ne_of_lt (Nat.lt_of_lt_of_le (f80.wr W81).lt le_b85)) (ninS (Nat.ne_of_lt (Nat.lt_of_lt_of_le ((f80.wr W81).ext E85).lt le90)) nin0))).keep K115 (ninS (Nat.ne_of_lt (Nat.lt_of_lt_of_le (f80.wr W81).lt le_b85)) (ninS (Nat.ne_of_lt (Nat.lt_of_lt_of_le ((f80.wr W81).ext E85).lt le90)) nin0))).keep K120 nin0).other W126 (Or.inr (slot_ne (Or.inr (W_ hw 219 rfl)) (Or.inr (W_ hw 222 rfl)) (by decide) (t := .long) (t' := (.object "java/lang/String")) (by decide) (by decide))))
  have f139 := ((((((((((((F55.keep K63 nin0).other W68 (Or.inr (slot_ne (Or.inr (W_ hw 84 rfl)) (Or.inr (W_ hw 217 rfl)) (by decide) (t := (.array .char)) (t' := .long) (by decide) (by decide)))).keep K76 nin0).other W81 (Or.inr (slot_ne (Or.inr (W_ hw 84 rfl)) (Or.inr (W_ hw 219 rfl)) (by decide) (t := (.array .char)) (t' := .long) (by decide) (by decide)))).ext E85).keep K90 (ninS (Nat.ne_of_lt (Nat.lt_of_lt_of_le (f80.wr W81).lt le_b85)) nin0)).keep K97 (ninS (Nat.ne_of_lt (Nat.lt_of_lt_of_le (f80.wr W81).lt le_b85)) (ninS (Nat.ne_of_lt (Nat.lt_of_lt_of_le ((f80.wr W81).ext E85).lt le90)) nin0))).ext E101).keep K107 (ninS (Nat.ne_of_lt (Nat.lt_of_lt_of_le (f80.wr W81).lt le_b85)) (ninS (Nat.ne_of_lt (Nat.lt_of_lt_of_le ((f80.wr W81).ext E85).lt le90)) nin0))).keep K115 (ninS (Nat.ne_of_lt (Nat.lt_of_lt_of_le (f80.wr W81).lt le_b85)) (ninS (Nat.ne_of_lt (Nat.lt_of_lt_of_le ((f80.wr W81).ext E85).lt le90)) nin0))).keep K120 nin0).other W126 (Or.inr (slot_ne (Or.inr (W_ hw 84 rfl)) (Or.inr (W_ hw 222 rfl)) (by decide) (t := (.array .char)) (t' := (.object "java/lang/String")) (by decide) (by decide))))
  have f140 := (((((((((((((V50.other W55 (Ne.symm (Nat.ne_of_lt (Nat.lt_of_lt_of_le (f43.wr W44).lt le50)))).keep K63 nin0).other W68 (Ne.symm (Nat.ne_of_lt (Nat.lt_of_lt_of_le (f43.wr W44).lt le50)))).keep K76 nin0).other W81 (Ne.symm (Nat.ne_of_lt (Nat.lt_of_lt_of_le (f43.wr W44).lt le50)))).ext E85).keep K90 (ninS (Nat.ne_of_lt (Nat.lt_of_lt_of_le (((((V50.other W55 (Ne.symm (Nat.ne_of_lt (Nat.lt_of_lt_of_le (f43.wr W44).lt le50)))).keep K63 nin0).other W68 (Ne.symm (Nat.ne_of_lt (Nat.lt_of_lt_of_le (f43.wr W44).lt le50)))).keep K76 nin0).other W81 (Ne.symm (Nat.ne_of_lt (Nat.lt_of_lt_of_le (f43.wr W44).lt le50)))).lt le_b85)) nin0)).keep K97 (ninS (Nat.ne_of_lt (Nat.lt_of_lt_of_le (((((V50.other W55 (Ne.symm (Nat.ne_of_lt (Nat.lt_of_lt_of_le (f43.wr W44).lt le50)))).keep K63 nin0).other W68 (Ne.symm (Nat.ne_of_lt (Nat.lt_of_lt_of_le (f43.wr W44).lt le50)))).keep K76 nin0).other W81 (Ne.symm (Nat.ne_of_lt (Nat.lt_of_lt_of_le (f43.wr W44).lt le50)))).lt le_b85)) (ninS (Nat.ne_of_lt (Nat.lt_of_lt_of_le ((((((V50.other W55 (Ne.symm (Nat.ne_of_lt (Nat.lt_of_lt_of_le (f43.wr W44).lt le50)))).keep K63 nin0).other W68 (Ne.symm (Nat.ne_of_lt (Nat.lt_of_lt_of_le (f43.wr W44).lt le50)))).keep K76 nin0).other W81 (Ne.symm (Nat.ne_of_lt (Nat.lt_of_lt_of_le (f43.wr W44).lt le50)))).ext E85).lt le90)) nin0))).ext E101).keep K107 (ninS (Nat.ne_of_lt (Nat.lt_of_lt_of_le (((((V50.other W55 (Ne.symm (Nat.ne_of_lt (Nat.lt_of_lt_of_le (f43.wr W44).lt le50)))).keep K63 nin0).other W68 (Ne.symm (Nat.ne_of_lt (Nat.lt_of_lt_of_le (f43.wr W44).lt le50)))).keep K76 nin0).other W81 (Ne.symm (Nat.ne_of_lt (Nat.lt_of_lt_of_le (f43.wr W44).lt le50)))).lt le_b85)) (ninS (Nat.ne_of_lt (Nat.lt_of_lt_of_le ((((((V50.other W55 (Ne.symm (Nat.ne_of_lt (Nat.lt_of_lt_of_le (f43.wr W44).lt le50)))).keep K63 nin0).other W68 (Ne.symm (Nat.ne_of_lt (Nat.lt_of_lt_of_le (f43.wr W44).lt le50)))).keep K76 nin0).other W81 (Ne.symm (Nat.ne_of_lt (Nat.lt_of_lt_of_le (f43.wr W44).lt le50)))).ext E85).lt le90)) nin0))).keep K115 (ninS (Nat.ne_of_lt (Nat.lt_of_lt_of_le (((((V50.other W55 (Ne.symm (Nat.ne_of_lt (Nat.lt_of_lt_of_le (f43.wr W44).lt le50)))).keep K63 nin0).other W68 (Ne.symm (Nat.ne_of_lt (Nat.lt_of_lt_of_le (f43.wr W44).lt le50)))).keep K76 nin0).other W81 (Ne.symm (Nat.ne_of_lt (Nat.lt_of_lt_of_le (f43.wr W44).lt le50)))).lt le_b85)) (ninS (Nat.ne_of_lt (Nat.lt_of_lt_of_le ((((((V50.other W55 (Ne.symm (Nat.ne_of_lt (Nat.lt_of_lt_of_le (f43.wr W44).lt le50)))).keep K63 nin0).other W68 (Ne.symm (Nat.ne_of_lt (Nat.lt_of_lt_of_le (f43.wr W44).lt le50)))).keep K76 nin0).other W81 (Ne.symm (Nat.ne_of_lt (Nat.lt_of_lt_of_le (f43.wr W44).lt le50)))).ext E85).lt le90)) nin0))).keep K120 nin0).other W126 (Ne.symm (Nat.ne_of_lt (Nat.lt_of_lt_of_le (f43.wr W44).lt le50))))
  have kp := (((((((((((((((((((((Keep.refl h0 [o0]).wr W10 (Or.inl (List.mem_of_getElem? (i := 0) rfl))).wr W16 (Or.inl (List.mem_of_getElem? (i := 0) rfl))).wr W22 (Or.inl (List.mem_of_getElem? (i := 0) rfl))).wr W28 (Or.inl (List.mem_of_getElem? (i := 0) rfl))).wr W34 (Or.inl (List.mem_of_getElem? (i := 0) rfl))).wr W44 (Or.inl (List.mem_of_getElem? (i := 0) rfl))).trans K50 all0).wr W55 (Or.inl (List.mem_of_getElem? (i := 0) rfl))).trans K63 all0).wr W68 (Or.inl (List.mem_of_getElem? (i := 0) rfl))).trans K76 all0).wr W81 (Or.inl (List.mem_of_getElem? (i := 0) rfl))).ext E85).trans K90 (allS (Or.inr (Nat.le_trans (Nat.le_trans (Nat.le_trans (Nat.le_trans (Nat.le_trans (Nat.le_trans (Nat.le_trans (Nat.le_trans (Nat.le_trans (Nat.le_trans (Nat.le_trans (Nat.le_trans m11 m17) m23) m29) m35) m45) m51) m56) m64) m69) m77) m82) le_b85)) all0)).trans K97 (allS (Or.inr (Nat.le_trans (Nat.le_trans (Nat.le_trans (Nat.le_trans (Nat.le_trans (Nat.le_trans (Nat.le_trans (Nat.le_trans (Nat.le_trans (Nat.le_trans (Nat.le_trans (Nat.le_trans m11 m17) m23) m29) m35) m45) m51) m56) m64) m69) m77) m82) le_b85)) (allS (Or.inr (Nat.le_trans (Nat.le_trans (Nat.le_trans (Nat.le_trans (Nat.le_trans (Nat.le_trans (Nat.le_trans (Nat.le_trans (Nat.le_trans (Nat.le_trans (Nat.le_trans (Nat.le_trans (Nat.le_trans m11 m17) m23) m29) m35) m45) m51) m56) m64) m69) m77) m82) m86) le90)) all0))).ext E101).trans K107 (allS (Or.inr (Nat.le_trans (Nat.le_trans (Nat.le_trans (Nat.le_trans (Nat.le_trans (Nat.le_trans (Nat.le_trans (Nat.le_trans (Nat.le_trans (Nat.le_trans (Nat.le_trans (Nat.le_trans m11 m17) m23) m29) m35) m45) m51) m56) m64) m69) m77) m82) le_b85)) (allS (Or.inr (Nat.le_trans (Nat.le_trans (Nat.le_trans (Nat.le_trans (Nat.le_trans (Nat.le_trans (Nat.le_trans (Nat.le_trans (Nat.le_trans (Nat.le_trans (Nat.le_trans (Nat.le_trans (Nat.le_trans m11 m17) m23) m29) m35) m45) m51) m56) m64) m69) m77) m82) m86) le90)) all0))).trans K115 (allS (Or.inr (Nat.le_trans (Nat.le_trans (Nat.le_trans (Nat.le_trans (Nat.le_trans (Nat.le_trans (Nat.le_trans (Nat.le_trans (Nat.le_trans (Nat.le_trans (Nat.le_trans (Nat.le_trans m11 m17) m23) m29) m35) m45) m51) m56) m64) m69) m77) m82) le_b85)) (allS (Or.inr (Nat.le_trans (Nat.le_trans (Nat.le_trans (Nat.le_trans (Nat.le_trans (Nat.le_trans (Nat.le_trans (Nat.le_trans (Nat.le_trans (Nat.le_trans (Nat.le_trans (Nat.le_trans (Nat.le_trans m11 m17) m23) m29) m35) m45) m51) m56) m64) m69) m77) m82) m86) le90)) all0))).trans K120 all0).wr W126 (Or.inl (List.mem_of_getElem? (i := 0) rfl)))
  exact Own.finHV X132 hx (own_hEL hw) e132 D127 (BodyLoose.notSynchronized Bd) Bd.returns (D d7_203) K135 (by decide) (by decide) (by rw [e132]; exact ⟨rfl, N126, kp, f136, f137, f131, f138, bc50, (Nat.le_trans (Nat.le_trans (Nat.le_trans (Nat.le_trans (Nat.le_trans (Nat.le_trans m11 m17) m23) m29) m35) m45) le50), f139, f140⟩)

theorem d6_0 : decode J42 0 = .ok (.aload_n 0, 1) := by decide +kernel
theorem d6_1 : decode J42 1 = .ok (.aload_n 1, 1) := by decide +kernel
theorem d6_2 : decode J42 2 = .ok (.aload_n 2, 1) := by decide +kernel
theorem d6_3 : decode J42 3 = .ok (.iload_n 3, 1) := by decide +kernel
theorem d6_4 : decode J42 4 = .ok (.iconst 0, 1) := by decide +kernel
theorem d6_5 : decode J42 5 = .ok (.aconst_null, 1) := by decide +kernel
theorem d6_6 : decode J42 6 = .ok (.invokespecial 3, 3) := by decide +kernel
theorem d6_9 : decode J42 9 = .ok (.return_, 1) := by decide +kernel
theorem pd_29 : parseMethodDescriptor "(Ljava/lang/String;Ljava/lang/String;IILcom/example/stemshear/stemshear/Rule;)V" = some ⟨[(.object "java/lang/String"), (.object "java/lang/String"), .int, .int, (.object "com/example/stemshear/stemshear/Rule")], none⟩ := by decide +kernel
theorem ef_6 (m : MethodId) (o0 : Addr) (o1 : Addr) (o2 : Addr) (p3 : Int32) : entryFrame m #[(.ref o0), (.ref o1), (.ref o2), (.int p3)] 4 = mkF m 0 #[.val (.ref o0), .val (.ref o1), .val (.ref o2), .val (.int p3)] [] := by first | (simp [entryFrame, mkF, argsToLocals, Value.category]; done) | rfl
set_option maxRecDepth 65536 in
set_option maxHeartbeats 40000000 in
theorem cR3 (l : Launch) (Z : State) (a0 : Array Value) (hw : ∀ d ∈ tables_1, d.before a0 Z = true) (o0 : Addr) (o1 : Addr) (o2 : Addr) (p3 : Int32) (n0 : Nat) (wK : Addr) (fs : List Int32) (rs : List Int32) (G1 : Int32) (h0 : Heap) (Z0 : n0 ≤ h0.size) (E0 : Exa Z h0 o0 "com/example/stemshear/stemshear/Rule") (g0 : n0 ≤ o0) (R0 : Fld Z h0 o0 "com/example/stemshear/stemshear/Rule" "suffix" "Ljava/lang/String;" .null) (R1 : Fld Z h0 o0 "com/example/stemshear/stemshear/Rule" "replacement" "Ljava/lang/String;" .null) (R2 : Fld Z h0 o0 "com/example/stemshear/stemshear/Rule" "condition" "I" (.int 0)) (R3 : Fld Z h0 o0 "com/example/stemshear/stemshear/Rule" "then" "I" (.int 0)) (R4 : Fld Z h0 o0 "com/example/stemshear/stemshear/Rule" "otherwise" "Lcom/example/stemshear/stemshear/Rule;" .null) (R5 : Fld Z h0 o0 "com/example/stemshear/stemshear/Rule" "suffixLength" "I" (.int 0)) (R6 : Fld Z h0 o0 "com/example/stemshear/stemshear/Rule" "replacementLetters" "[C" .null) (R7 : Fld Z h0 o0 "com/example/stemshear/stemshear/Rule" "replacementVowels" "J" (.long 0)) (R8 : Fld Z h0 o0 "com/example/stemshear/stemshear/Rule" "replacementVowelsAfterConsonant" "J" (.long 0)) (R9 : Fld Z h0 o0 "com/example/stemshear/stemshear/Rule" "written" "Ljava/lang/String;" .null) (SK : Sta Z h0 "com/example/stemshear/stemshear/Condition" "KINDS" "[B" (.ref wK)) (KD : own_KD Z h0 wK) (hwo : wK ≠ o0) (TF : own_TxN Z h0 o1 fs o0 h0.size) (hfl : fs.length ≤ 3) (TX : own_TxN Z h0 o2 rs o0 h0.size) (hrs : rs.length ≤ 3) (hl : ∀ c ∈ rs, own_let c) (hcd : ¬ (F8 p3) = (0 : Int32)) (SC : Sta Z h0 "java/lang/String" "COMPACT_STRINGS" "Z" (.int G1)) (hG1 : ¬ G1 = 0) : Own.ConH l Z own_EL (⟨"com/example/stemshear/stemshear/Rule", "<init>", "(Ljava/lang/String;Ljava/lang/String;I)V"⟩ : MethodName) prog_36_method_1_code 4 none ({ frames := 8, cells := 20, slots := 200, locals := 125 } : Room) #[(.ref o0), (.ref o1), (.ref o2), (.int p3)] h0 (fun v h L => v = none ∧ Fr n0 L ∧ Keep h0 h [o0] ∧ Exa Z h o0 "com/example/stemshear/stemshear/Rule" ∧ Fld Z h o0 "com/example/stemshear/stemshear/Rule" "suffixLength" "I" (.int (Int32.ofNat fs.length)) ∧ Fld Z h o0 "com/example/stemshear/stemshear/Rule" "replacementVowels" "J" (.long (own_Wg 97 rs)) ∧ Fld Z h o0 "com/example/stemshear/stemshear/Rule" "replacementVowelsAfterConsonant" "J" (.long (own_Wg 98 rs)) ∧ ∃ b, h0.size ≤ b ∧ Fld Z h o0 "com/example/stemshear/stemshear/Rule" "replacementLetters" "[C" (.ref b) ∧ Own.CA Z h b .char rs) := by
  intro ws
  refine MetFree.of_bodySF (plainFor_of_name pn_6) hisR ?_
  intro p e s m args below meth c s₁ Bd hml0 hP hK
  obtain ⟨rfl, hZ, hh, hH⟩ := hP
  have hx := Bd.exec
  have hby := Bd.bytes
  have D := fun {n : Nat} {i} (d : decode prog_36_method_1_code n = .ok i) => hb hby d
  have hml : c.maxLocals = 4 := hml0
  have hown : s.vm.findClass "com/example/stemshear/stemshear/Rule" = some m.cls := findClass_of_methodNamed Bd.named
  have hnm := (name_of_methodNamed Bd.named Bd.method).1
  have X0 : Stand p l e ({ frames := 8, cells := 20, slots := 200, locals := 125 } : Room) (s.setVm s.vm) m #[(.ref o0), (.ref o1), (.ref o2), (.int p3)] below meth c s₁ [] 0 0 := Stand.of_body Bd
  have e0 : s₁.heap = h0 := by rw [← hh, Bd.state]; rfl
  have D0 : Own.Wd s Z own_EL "com/example/stemshear/stemshear/Rule" m.cls s.vm h0 := by rw [← hh]; exact Own.Wd.start hZ hown (by rw [hh]; exact hH)
  have K0 : ∀ t, Steps p.tables e below (s₁.setTop (mkF m 0 #[vr o0, vr o1, vr o2, vi p3] [])) t → Steps p.tables e below (s₁.setTop (entryFrame m #[(.ref o0), (.ref o1), (.ref o2), (.int p3)] 4)) t := fun t k => castTop (ef_6 m o0 o1 o2 p3) k
  generalize s₁.setTop (entryFrame m #[(.ref o0), (.ref o1), (.ref o2), (.int p3)] 4) = B0 at K0 ⊢
  show Own.FinH p e below B0 s Z own_EL (({ frames := 8, cells := 20, slots := 200, locals := 125 } : Room)).cells (({ frames := 8, cells := 20, slots := 200, locals := 125 } : Room)).slots (fun v h L => v = none ∧ Fr n0 L ∧ Keep h0 h [o0] ∧ Exa Z h o0 "com/example/stemshear/stemshear/Rule" ∧ Fld Z h o0 "com/example/stemshear/stemshear/Rule" "suffixLength" "I" (.int (Int32.ofNat fs.length)) ∧ Fld Z h o0 "com/example/stemshear/stemshear/Rule" "replacementVowels" "J" (.long (own_Wg 97 rs)) ∧ Fld Z h o0 "com/example/stemshear/stemshear/Rule" "replacementVowelsAfterConsonant" "J" (.long (own_Wg 98 rs)) ∧ ∃ b, h0.size ≤ b ∧ Fld Z h o0 "com/example/stemshear/stemshear/Rule" "replacementLetters" "[C" (.ref b) ∧ Own.CA Z h b .char rs)
  have K1 : Own.To p e below B0 s₁ (mkF m 6 #[vr o0, vr o1, vr o2, vi p3] [.null, (.int 0), (.int p3), (.ref o2), (.ref o1), (.ref o0)]) := fun t k => K0 t (by
    refine Own.aloadN X0 hx (D d6_0) rfl rfl ?_
    refine Own.aloadN X0 hx (D d6_1) rfl rfl ?_
    refine Own.aloadN X0 hx (D d6_2) rfl rfl ?_
    refine Own.iloadN X0 hx (D d6_3) rfl ?_
    refine Own.iconst X0 hx 0 (D d6_4) rfl ?_
    refine Own.aconstNull X0 hx (D d6_5) ?_
    exact k)
  obtain ⟨vm2, T2, h2, v2, J2, L2, X2, e2, D2, mm2, n2, hQ2, st2⟩ := Own.callIW (Ls := #[vr o0, vr o1, vr o2, vi p3]) X0 hx (own_hEL hw) D0 e0 rfl o0 [(.ref o1), (.ref o2), (.int p3), (.int 0), .null] [] (cR5 l Z a0 hw o0 o1 o2 p3 n0 wK fs rs G1 h0 (Nat.le_trans Z0 (Nat.le_refl _)) E0 g0 R0 R1 R2 R3 R4 R5 R6 R7 R8 R9 SK KD hwo TF hfl TX hrs hl hcd SC hG1) (W_ hw 35 rfl) (W_ hw 36 rfl) (W_ hw 31 rfl) (W_ hw 37 rfl) (by decide) 0 (by decide) (by decide) (by decide) (by decide) (szOf hml rfl) (lenOf pd_29 rfl) rfl (Nat.le_of_eq rfl) (D d6_6)
  have X2 : Stand p l e ({ frames := 8, cells := 20, slots := 200, locals := 125 } : Room) (s.setVm vm2) m #[(.ref o0), (.ref o1), (.ref o2), (.int p3)] below meth c T2 L2 20 200 := X2
  obtain ⟨rfl, NN2, K2, E2, FA2, FB2, FC2, bl2, le2, FD2, V2⟩ := hQ2
  have N2 : Fr n0 L2 := n2 n0 (Fr.nil _) NN2
  have m3 : h0.size ≤ h2.size := K2.1
  have K4 := fun t k => K1 t (st2 t k)
  have kp := ((Keep.refl h0 [o0]).trans K2 (allS (Or.inl (List.mem_of_getElem? (i := 0) rfl)) all0))
  exact Own.finHV X2 hx (own_hEL hw) e2 D2 (BodyLoose.notSynchronized Bd) Bd.returns (D d6_9) K4 (by decide) (by decide) (by rw [e2]; exact ⟨rfl, N2, kp, E2, FA2, FB2, FC2, bl2, le2, FD2, V2⟩)

def own_mk (n a b c : Int32) : List Int32 := if n = 0 then [] else (if n = 1 then [a] else (if n = 2 then [a, b] else [a, b, c]))
theorem own_mk_len (n a b c : Int32) : (own_mk n a b c).length ≤ 3 := by unfold own_mk; split; decide; split; simp; split <;> simp
theorem own_mk_let {n a b c : Int32} (ha : own_let a) (hb : own_let b) (hc : own_let c) : ∀ x ∈ own_mk n a b c, own_let x := by
  intro x hx
  unfold own_mk at hx
  have q : x = a ∨ x = b ∨ x = c := by
    split at hx
    · exact absurd hx List.not_mem_nil
    · split at hx
      · exact Or.inl (List.mem_singleton.mp hx)
      · split at hx
        · simp only [List.mem_cons, List.not_mem_nil, or_false] at hx; rcases hx with h | h; exact Or.inl h; exact Or.inr (Or.inl h)
        · simp only [List.mem_cons, List.not_mem_nil, or_false] at hx; exact hx
  rcases q with rfl | rfl | rfl <;> assumption
theorem own_letc (x : Int32) : own_let (((97 : Int32) + ((x &&& (1023 : Int32)) % (26 : Int32))).toUInt32.toUInt16.toUInt32.toInt32) := by
  have h := own_mask x 10 1023 (by decide) (by omega)
  have h0 : 0 ≤ (x &&& (1023 : Int32)).toInt := by omega
  have h1 : ((x &&& (1023 : Int32)) % (26 : Int32)).toInt = (x &&& (1023 : Int32)).toInt.tmod 26 := by rw [Int32.toInt_mod]; rfl
  have h2 := Int.tmod_nonneg 26 h0
  have h3 := Int.tmod_lt_of_pos (x &&& (1023 : Int32)).toInt (show (0 : Int) < 26 by decide)
  have h4 : ((97 : Int32) + ((x &&& (1023 : Int32)) % (26 : Int32))).toInt = 97 + ((x &&& (1023 : Int32)) % (26 : Int32)).toInt := by
    rw [Int32.toInt_add, show (97 : Int32).toInt = 97 by decide]; exact Int.bmod_eq_of_le (by omega) (by omega)
  rw [show ((97 : Int32) + ((x &&& (1023 : Int32)) % (26 : Int32))).toUInt32.toUInt16.toUInt32.toInt32 = (97 : Int32) + ((x &&& (1023 : Int32)) % (26 : Int32)) from own_nar (by omega) (by omega)]
  unfold own_let
  rw [Int32.lt_iff_toInt_lt, Int32.lt_iff_toInt_lt, show (97 : Int32).toInt = 97 by decide, show (122 : Int32).toInt = 122 by decide]
  omega

theorem d49_0 : decode J13 0 = .ok (.iconst 1, 1) := by decide +kernel
theorem d49_1 : decode J13 1 = .ok (.newarray .byte, 2) := by decide +kernel
theorem d49_3 : decode J13 3 = .ok (.dup, 1) := by decide +kernel
theorem d49_4 : decode J13 4 = .ok (.iconst 0, 1) := by decide +kernel
theorem d49_5 : decode J13 5 = .ok (.iload_n 0, 1) := by decide +kernel
theorem d49_6 : decode J13 6 = .ok (.i2b, 1) := by decide +kernel
theorem d49_7 : decode J13 7 = .ok (.bastore, 1) := by decide +kernel
theorem d49_8 : decode J13 8 = .ok (.areturn, 1) := by decide +kernel
theorem ef_49 (m : MethodId) (p0 : Int32) : entryFrame m #[(.int p0)] 1 = mkF m 0 #[.val (.int p0)] [] := by first | (simp [entryFrame, mkF, argsToLocals, Value.category]; done) | rfl
set_option maxRecDepth 65536 in
set_option maxHeartbeats 40000000 in
theorem cTB (l : Launch) (Z : State) (a0 : Array Value) (hw : ∀ d ∈ tables_1, d.before a0 Z = true) (p0 : Int32) (n0 : Nat) (h0 : Heap) (Z0 : n0 ≤ h0.size) : Own.Con l Z (⟨"java/lang/StringLatin1", "toBytes", "(C)[B"⟩ : MethodName) jdk_43_method_46_code 1 (some (.array .byte)) ({ frames := 0, cells := 1, slots := 1, locals := 0 } : Room) #[(.int p0)] h0 (fun v h L => ∃ b, v = some (.ref b) ∧ h0.size ≤ b ∧ Fr n0 L ∧ Keep h0 h [] ∧ Own.CA Z h b .byte [StrChars.lo8 p0]) := by
  intro ws
  refine MetFree.of_bodySF (plainFor_of_name pn_3) hisR ?_
  intro p e s m args below meth c s₁ Bd hml0 hP hK
  obtain ⟨rfl, hZ, hh⟩ := hP
  have hx := Bd.exec
  have hby := Bd.bytes
  have D := fun {n : Nat} {i} (d : decode jdk_43_method_46_code n = .ok i) => hb hby d
  have hml : c.maxLocals = 1 := hml0
  have hown : s.vm.findClass "java/lang/StringLatin1" = some m.cls := findClass_of_methodNamed Bd.named
  have hnm := (name_of_methodNamed Bd.named Bd.method).1
  have X0 : Stand p l e ({ frames := 0, cells := 1, slots := 1, locals := 0 } : Room) s m #[(.int p0)] below meth c s₁ [] 0 0 := Stand.of_body Bd
  have e0 : s₁.heap = h0 := by rw [← hh, Bd.state]; rfl
  have K0 : ∀ t, Steps p.tables e below (s₁.setTop (mkF m 0 #[vi p0] [])) t → Steps p.tables e below (s₁.setTop (entryFrame m #[(.int p0)] 1)) t := fun t k => castTop (ef_49 m p0) k
  generalize s₁.setTop (entryFrame m #[(.int p0)] 1) = B0 at K0 ⊢
  show Own.Fin p e below B0 s (({ frames := 0, cells := 1, slots := 1, locals := 0 } : Room)).cells (({ frames := 0, cells := 1, slots := 1, locals := 0 } : Room)).slots (fun v h L => ∃ b, v = some (.ref b) ∧ h0.size ≤ b ∧ Fr n0 L ∧ Keep h0 h [] ∧ Own.CA Z h b .byte [StrChars.lo8 p0])
  have K1 : Own.To p e below B0 s₁ (mkF m 1 #[vi p0] [(.int 1)]) := fun t k => K0 t (by
    refine Own.iconst X0 hx 1 (D d49_0) rfl ?_
    exact k)
  obtain ⟨T2, h2, b2, X2, e2, E2, g2, V2, st2⟩ := Own.newA (Ls := #[vi p0]) (S := []) (z := (1 : Int32)) X0 hx hZ e0 .byte rfl rfl (W_ hw 22 rfl) 1 rfl (by decide) (D d49_1) (by decide) (by decide)
  have le_b2 : h0.size ≤ b2 := Nat.le_of_eq g2.symm
  have X2 : Stand p l e ({ frames := 0, cells := 1, slots := 1, locals := 0 } : Room) s m #[(.int p0)] below meth c T2 [] 1 1 := X2
  have V2 : Own.CA Z h2 b2 .byte [(0 : Int32)] := V2
  have m3 : h0.size ≤ h2.size := E2.1
  have K4 := fun t k => K1 t (st2 t k)
  have K5 : Own.To p e below B0 T2 (mkF m 7 #[vi p0] [(.int (p0.toInt8.toInt32)), (.int 0), (.ref b2), (.ref b2)]) := fun t k => K4 t (by
    refine Own.dup X2 hx (D d49_3) rfl ?_
    refine Own.iconst X2 hx 0 (D d49_4) rfl ?_
    refine Own.iloadN X2 hx (D d49_5) rfl ?_
    refine Own.i2b X2 hx (D d49_6) ?_
    exact k)
  obtain ⟨T6, h6, L6, X6, e6, n6, W6, V6, st6⟩ := Own.stb (Ls := #[vi p0]) (S := [(.ref b2)]) (x := (p0.toInt8.toInt32)) (j := (0 : Int32)) X2 hx hZ e2 V2 0 rfl (by decide) (show 0 < 1 by decide) (D d49_7)
  have V6 : Own.CA Z h6 b2 .byte [(StrChars.lo8 p0)] := (by rw [show (StrChars.lo8 p0) = nar .byte (p0.toInt8.toInt32) from (own_nb8 p0).symm]; exact V6)
  have N6 : Fr n0 L6 := n6 n0 (Fr.nil _) (Nat.le_trans Z0 (Nat.le_trans (Nat.le_refl _) le_b2))
  have m7 : h2.size ≤ h6.size := Nat.le_of_eq W6.size.symm
  have K8 := fun t k => K5 t (st6 t k)
  have kp := (((Keep.refl h0 []).ext E2).wr W6 (Or.inr le_b2))
  exact Own.finA X6 hx (BodyLoose.notSynchronized Bd) Bd.returns rfl rfl (D d49_8) K8 (by decide) (by decide) (by rw [e6]; exact ⟨_, rfl, le_b2, N6, kp, V6⟩)

theorem d50_0 : decode J6 0 = .ok (.aload_n 0, 1) := by decide +kernel
theorem d50_1 : decode J6 1 = .ok (.invokespecial 1, 3) := by decide +kernel
theorem d50_4 : decode J6 4 = .ok (.aload_n 0, 1) := by decide +kernel
theorem d50_5 : decode J6 5 = .ok (.aload_n 1, 1) := by decide +kernel
theorem d50_6 : decode J6 6 = .ok (.putfield 9, 3) := by decide +kernel
theorem d50_9 : decode J6 9 = .ok (.aload_n 0, 1) := by decide +kernel
theorem d50_10 : decode J6 10 = .ok (.iload_n 2, 1) := by decide +kernel
theorem d50_11 : decode J6 11 = .ok (.putfield 15, 3) := by decide +kernel
theorem d50_14 : decode J6 14 = .ok (.return_, 1) := by decide +kernel
theorem ef_50 (m : MethodId) (o0 : Addr) (o1 : Addr) (p2 : Int32) : entryFrame m #[(.ref o0), (.ref o1), (.int p2)] 3 = mkF m 0 #[.val (.ref o0), .val (.ref o1), .val (.int p2)] [] := by first | (simp [entryFrame, mkF, argsToLocals, Value.category]; done) | rfl
set_option maxRecDepth 65536 in
set_option maxHeartbeats 40000000 in
theorem cSBB (l : Launch) (Z : State) (a0 : Array Value) (hw : ∀ d ∈ tables_1, d.before a0 Z = true) (o0 : Addr) (o1 : Addr) (n0 : Nat) (h0 : Heap) (Z0 : n0 ≤ h0.size) (E0 : Exa Z h0 o0 "java/lang/String") (F0 : Fld Z h0 o0 "java/lang/String" "value" "[B" .null) (F1 : Fld Z h0 o0 "java/lang/String" "coder" "B" (.int 0)) (g0 : n0 ≤ o0) : Own.Con l Z (⟨"java/lang/String", "<init>", "([BB)V"⟩ : MethodName) jdk_42_method_151_code 3 none ({ frames := 1, cells := 0, slots := 0, locals := 12 } : Room) #[(.ref o0), (.ref o1), (.int 0)] h0 (fun v h L => v = none ∧ Fr n0 L ∧ Keep h0 h [o0] ∧ Exa Z h o0 "java/lang/String" ∧ Fld Z h o0 "java/lang/String" "value" "[B" (.ref o1) ∧ Fld Z h o0 "java/lang/String" "coder" "B" (.int 0)) := by
  intro ws
  refine MetFree.of_bodySF (plainFor_of_name pn_0) hisR ?_
  intro p e s m args below meth c s₁ Bd hml0 hP hK
  obtain ⟨rfl, hZ, hh⟩ := hP
  have hx := Bd.exec
  have hby := Bd.bytes
  have D := fun {n : Nat} {i} (d : decode jdk_42_method_151_code n = .ok i) => hb hby d
  have hml : c.maxLocals = 3 := hml0
  have hown : s.vm.findClass "java/lang/String" = some m.cls := findClass_of_methodNamed Bd.named
  have hnm := (name_of_methodNamed Bd.named Bd.method).1
  have X0 : Stand p l e ({ frames := 1, cells := 0, slots := 0, locals := 12 } : Room) s m #[(.ref o0), (.ref o1), (.int 0)] below meth c s₁ [] 0 0 := Stand.of_body Bd
  have e0 : s₁.heap = h0 := by rw [← hh, Bd.state]; rfl
  have K0 : ∀ t, Steps p.tables e below (s₁.setTop (mkF m 0 #[vr o0, vr o1, vi 0] [])) t → Steps p.tables e below (s₁.setTop (entryFrame m #[(.ref o0), (.ref o1), (.int 0)] 3)) t := fun t k => castTop (ef_50 m o0 o1 (0 : Int32)) k
  generalize s₁.setTop (entryFrame m #[(.ref o0), (.ref o1), (.int 0)] 3) = B0 at K0 ⊢
  show Own.Fin p e below B0 s (({ frames := 1, cells := 0, slots := 0, locals := 12 } : Room)).cells (({ frames := 1, cells := 0, slots := 0, locals := 12 } : Room)).slots (fun v h L => v = none ∧ Fr n0 L ∧ Keep h0 h [o0] ∧ Exa Z h o0 "java/lang/String" ∧ Fld Z h o0 "java/lang/String" "value" "[B" (.ref o1) ∧ Fld Z h o0 "java/lang/String" "coder" "B" (.int 0))
  have K1 : Own.To p e below B0 s₁ (mkF m 1 #[vr o0, vr o1, vi 0] [(.ref o0)]) := fun t k => K0 t (by
    refine Own.aloadN X0 hx (D d50_0) rfl rfl ?_
    exact k)
  obtain ⟨T2, X2, e2, st2⟩ := Own.initO (Ls := #[vr o0, vr o1, vi 0]) (S := []) (a := o0) X0 hx hZ e0 hown (W_ hw 18 rfl) (W_ hw 19 rfl) (W_ hw 20 rfl) (by rw [hml]; rfl) (D d50_1) (by decide) 0 (Nat.le_of_eq rfl) (by decide)
  have K3 := fun t k => K1 t (st2 t k)
  have K4 : Own.To p e below B0 T2 (mkF m 6 #[vr o0, vr o1, vi 0] [(.ref o1), (.ref o0)]) := fun t k => K3 t (by
    refine Own.aloadN X2 hx (D d50_4) rfl rfl ?_
    refine Own.aloadN X2 hx (D d50_5) rfl rfl ?_
    exact k)
  obtain ⟨T5, h5, L5, X5, e5, n5, W5, F5, st5⟩ := Own.putF (Ls := #[vr o0, vr o1, vi 0]) (S := []) (v := (.ref o1)) X2 hx hZ e2 hown (host := "") (Or.inl (W_ hw 27 rfl)) Via.refl F0 E0 (Or.inr ⟨(W_ hw 23 rfl), rfl, hnm⟩) (W_ hw 8 rfl) (ty := (.array .byte)) (by decide) rfl rfl (D d50_6)
  have N5 : Fr n0 L5 := n5 n0 (Fr.nil _) g0
  have m6 : h0.size ≤ h5.size := Nat.le_of_eq W5.size.symm
  have K7 := fun t k => K4 t (st5 t k)
  have K8 : Own.To p e below B0 T5 (mkF m 11 #[vr o0, vr o1, vi 0] [(.int 0), (.ref o0)]) := fun t k => K7 t (by
    refine Own.aloadN X5 hx (D d50_9) rfl rfl ?_
    refine Own.iloadN X5 hx (D d50_10) rfl ?_
    exact k)
  have f9 := (F1.other W5 (Or.inr (slot_ne (Or.inr (W_ hw 24 rfl)) (Or.inr (W_ hw 23 rfl)) (by decide) (t := .byte) (t' := (.array .byte)) (by decide) (by decide))))
  have f10 := (E0.wr W5)
  obtain ⟨T11, h11, L11, X11, e11, n11, W11, F11, st11⟩ := Own.putF (Ls := #[vr o0, vr o1, vi 0]) (S := []) (v := (.int 0)) X5 hx hZ e5 hown (host := "") (Or.inl (W_ hw 28 rfl)) Via.refl f9 f10 (Or.inr ⟨(W_ hw 24 rfl), rfl, hnm⟩) (W_ hw 8 rfl) (ty := .byte) (by decide) rfl rfl (D d50_11)
  have N11 : Fr n0 L11 := n11 n0 N5 g0
  have m12 : h5.size ≤ h11.size := Nat.le_of_eq W11.size.symm
  have K13 := fun t k => K8 t (st11 t k)
  have f14 := (f10.wr W11)
  have f15 := (F5.other W11 (Or.inr (slot_ne (Or.inr (W_ hw 23 rfl)) (Or.inr (W_ hw 24 rfl)) (by decide) (t := (.array .byte)) (t' := .byte) (by decide) (by decide))))
  have kp := (((Keep.refl h0 [o0]).wr W5 (Or.inl (List.mem_of_getElem? (i := 0) rfl))).wr W11 (Or.inl (List.mem_of_getElem? (i := 0) rfl)))
  exact Own.finV X11 hx (BodyLoose.notSynchronized Bd) Bd.returns (D d50_14) K13 (by decide) (by decide) (by rw [e11]; exact ⟨rfl, N11, kp, f14, f15, F11⟩)

theorem d48_0 : decode J2 0 = .ok (.getstatic 38, 3) := by decide +kernel
theorem d48_3 : decode J2 3 = .ok (.ifCond .eq 23, 3) := by decide +kernel
theorem d48_6 : decode J2 6 = .ok (.iload_n 0, 1) := by decide +kernel
theorem d48_7 : decode J2 7 = .ok (.invokestatic 1015, 3) := by decide +kernel
theorem d48_10 : decode J2 10 = .ok (.ifCond .eq 16, 3) := by decide +kernel
theorem d48_13 : decode J2 13 = .ok (.new 10, 3) := by decide +kernel
theorem d48_16 : decode J2 16 = .ok (.dup, 1) := by decide +kernel
theorem d48_17 : decode J2 17 = .ok (.iload_n 0, 1) := by decide +kernel
theorem d48_18 : decode J2 18 = .ok (.invokestatic 1018, 3) := by decide +kernel
theorem d48_21 : decode J2 21 = .ok (.iconst 0, 1) := by decide +kernel
theorem d48_22 : decode J2 22 = .ok (.invokespecial 209, 3) := by decide +kernel
theorem d48_25 : decode J2 25 = .ok (.areturn, 1) := by decide +kernel
theorem pd_30 : parseMethodDescriptor "(C)[B" = some ⟨[.char], some (.array .byte)⟩ := by decide +kernel
theorem pd_31 : parseMethodDescriptor "([BB)V" = some ⟨[(.array .byte), .byte], none⟩ := by decide +kernel
theorem ef_48 (m : MethodId) (p0 : Int32) : entryFrame m #[(.int p0)] 1 = mkF m 0 #[.val (.int p0)] [] := by first | (simp [entryFrame, mkF, argsToLocals, Value.category]; done) | rfl
set_option maxRecDepth 65536 in
set_option maxHeartbeats 40000000 in
theorem cVO (l : Launch) (Z : State) (a0 : Array Value) (hw : ∀ d ∈ tables_1, d.before a0 Z = true) (p0 : Int32) (n0 : Nat) (G1 : Int32) (h0 : Heap) (Z0 : n0 ≤ h0.size) (hp0 : ¬ p0 < 0) (hp : ¬ (255 : Int32) < p0) (SC : Sta Z h0 "java/lang/String" "COMPACT_STRINGS" "Z" (.int G1)) (hG1 : ¬ G1 = 0) : Own.Con l Z (⟨"java/lang/String", "valueOf", "(C)Ljava/lang/String;"⟩ : MethodName) jdk_42_method_139_code 1 (some (.object "java/lang/String")) ({ frames := 2, cells := 2, slots := 5, locals := 27 } : Room) #[(.int p0)] h0 (fun v h L => ∃ b, v = some (.ref b) ∧ Fr n0 L ∧ Keep h0 h [] ∧ own_Txt Z h b [p0]) := by
  intro ws
  refine MetFree.of_bodySF (plainFor_of_name pn_0) hisR ?_
  intro p e s m args below meth c s₁ Bd hml0 hP hK
  obtain ⟨rfl, hZ, hh⟩ := hP
  have hx := Bd.exec
  have hby := Bd.bytes
  have D := fun {n : Nat} {i} (d : decode jdk_42_method_139_code n = .ok i) => hb hby d
  have hml : c.maxLocals = 1 := hml0
  have hown : s.vm.findClass "java/lang/String" = some m.cls := findClass_of_methodNamed Bd.named
  have hnm := (name_of_methodNamed Bd.named Bd.method).1
  have X0 : Stand p l e ({ frames := 2, cells := 2, slots := 5, locals := 27 } : Room) s m #[(.int p0)] below meth c s₁ [] 0 0 := Stand.of_body Bd
  have e0 : s₁.heap = h0 := by rw [← hh, Bd.state]; rfl
  have K0 : ∀ t, Steps p.tables e below (s₁.setTop (mkF m 0 #[vi p0] [])) t → Steps p.tables e below (s₁.setTop (entryFrame m #[(.int p0)] 1)) t := fun t k => castTop (ef_48 m p0) k
  generalize s₁.setTop (entryFrame m #[(.int p0)] 1) = B0 at K0 ⊢
  show Own.Fin p e below B0 s (({ frames := 2, cells := 2, slots := 5, locals := 27 } : Room)).cells (({ frames := 2, cells := 2, slots := 5, locals := 27 } : Room)).slots (fun v h L => ∃ b, v = some (.ref b) ∧ Fr n0 L ∧ Keep h0 h [] ∧ own_Txt Z h b [p0])
  obtain ⟨T1, X1, e1, st1⟩ := Own.getS (Ls := #[vi p0]) X0 hx hZ e0 hown (host := "") (Or.inl (W_ hw 63 rfl)) Via.refl SC (S := []) (D d48_0)
  have K2 := fun t k => K0 t (st1 t k)
  have K3 : Own.To p e below B0 T1 (mkF m 7 #[vi p0] [(.int p0)]) := fun t k => K2 t (by
    refine Own.ifNo X1 hx (D d48_3) ((if0 _ _).trans (feq (hG1 : ¬ (G1 = (0 : Int32)))).1) ?_
    refine Own.iloadN X1 hx (D d48_6) rfl ?_
    exact k)
  obtain ⟨T4, X4, e4, st4⟩ := Own.callP (Ls := #[vi p0]) X1 hx hZ e1 [(.int p0)] [] (cCEN l Z a0 hw p0  h0 hp) hown (W_ hw 251 rfl) (W_ hw 129 rfl) (W_ hw 78 rfl) (W_ hw 130 rfl) (by decide) 0 rfl rfl (by decide) (by decide) (by decide) (by decide) (szOf hml rfl) (lenOf pd_5 rfl) rfl (Nat.le_of_eq rfl) (D d48_7)
  have K5 := fun t k => K3 t (st4 t k)
  have K6 : Own.To p e below B0 T4 (mkF m 13 #[vi p0] []) := fun t k => K5 t (by
    refine Own.ifNo X4 hx (D d48_10) ((if0 _ _).trans (feq (by decide : ¬ ((1 : Int32) = (0 : Int32)))).1) ?_
    exact k)
  obtain ⟨T7, h7, b7, X7, e7, E7, g7, A7, D7, st7⟩ := Own.newO (Ls := #[vi p0]) (S := []) X4 hx hZ e4 hown (W_ hw 252 rfl) (W_ hw 8 rfl) (W_ hw 9 rfl) (D d48_13) (by decide) (by decide)
  have le_b7 : h0.size ≤ b7 := Nat.le_of_eq g7.symm
  have X7 : Stand p l e ({ frames := 2, cells := 2, slots := 5, locals := 27 } : Room) s m #[(.int p0)] below meth c T7 [] 1 4 := X7
  have m8 : h0.size ≤ h7.size := E7.1
  have F7_value : Fld Z h7 b7 "java/lang/String" "value" "[B" .null := D7 (Or.inr (W_ hw 23 rfl)) (ty := (.array .byte)) (by decide)
  have F7_coder : Fld Z h7 b7 "java/lang/String" "coder" "B" (.int 0) := D7 (Or.inr (W_ hw 24 rfl)) (ty := .byte) (by decide)
  have K9 := fun t k => K6 t (st7 t k)
  have K10 : Own.To p e below B0 T7 (mkF m 18 #[vi p0] [(.int p0), (.ref b7), (.ref b7)]) := fun t k => K9 t (by
    refine Own.dup X7 hx (D d48_16) rfl ?_
    refine Own.iloadN X7 hx (D d48_17) rfl ?_
    exact k)
  obtain ⟨T11, h11, v11, J11, L11, X11, e11, n11, hQ11, st11⟩ := Own.callH (Ls := #[vi p0]) X7 hx hZ e7 [(.int p0)] [(.ref b7), (.ref b7)] (cTB l Z a0 hw p0 n0 h7 (Nat.le_trans Z0 m8)) hown (W_ hw 253 rfl) (W_ hw 254 rfl) (W_ hw 78 rfl) (W_ hw 255 rfl) (by decide) 2 (by decide) (by decide) (by decide) (by decide) (szOf hml rfl) (lenOf pd_30 rfl) rfl (Nat.le_of_eq rfl) (D d48_18)
  have X11 : Stand p l e ({ frames := 2, cells := 2, slots := 5, locals := 27 } : Room) s m #[(.int p0)] below meth c T11 L11 2 5 := X11
  obtain ⟨bz11, rfl, le11, NN11, K11, V11⟩ := hQ11
  have N11 : Fr n0 L11 := n11 n0 (Fr.nil _) NN11
  have m12 : h7.size ≤ h11.size := K11.1
  have K13 := fun t k => K10 t (st11 t k)
  have f14 := (A7.keep K11)
  have f15 := (F7_value.keep K11 nin0)
  have f16 := (F7_coder.keep K11 nin0)
  have K17 : Own.To p e below B0 T11 (mkF m 22 #[vi p0] [(.int 0), (.ref bz11), (.ref b7), (.ref b7)]) := fun t k => K13 t (by
    refine Own.iconst X11 hx 0 (D d48_21) rfl ?_
    exact k)
  obtain ⟨T18, h18, v18, J18, L18, X18, e18, n18, hQ18, st18⟩ := Own.callI (Ls := #[vi p0]) X11 hx hZ e11 rfl b7 [(.ref bz11), (.int 0)] [(.ref b7)] (cSBB l Z a0 hw b7 bz11 n0 h11 (Nat.le_trans Z0 (Nat.le_trans m8 m12)) f14 f15 f16 (Nat.le_trans Z0 (Nat.le_trans (Nat.le_refl _) le_b7))) hown (W_ hw 256 rfl) (W_ hw 257 rfl) (W_ hw 9 rfl) (W_ hw 258 rfl) (by decide) 1 (by decide) (by decide) (by decide) (by decide) (szOf hml rfl) (lenOf pd_31 rfl) rfl (Nat.le_of_eq rfl) (D d48_22)
  have X18 : Stand p l e ({ frames := 2, cells := 2, slots := 5, locals := 27 } : Room) s m #[(.int p0)] below meth c T18 L18 2 5 := X18
  obtain ⟨rfl, NN18, K18, E18, F18, G18⟩ := hQ18
  have N18 : Fr n0 L18 := n18 n0 N11 NN18
  have m19 : h11.size ≤ h18.size := K18.1
  have K20 := fun t k => K17 t (st18 t k)
  have f21 := (V11.keep K18 (ninS (Ne.symm (Nat.ne_of_lt (Nat.lt_of_lt_of_le A7.lt le11))) nin0))
  have kp := ((((Keep.refl h0 []).ext E7).trans K11 all0).trans K18 (allS (Or.inr le_b7) all0))
  exact Own.finA X18 hx (BodyLoose.notSynchronized Bd) Bd.returns rfl rfl (D d48_25) K20 (by decide) (by decide) (by rw [e18]; exact ⟨_, rfl, N18, kp, own_Txt.mk' E18 F18 G18 f21 (fun c hc => by rw [List.mem_singleton.mp hc]; exact ⟨hp0, hp⟩) (by simp)⟩)

theorem d2_0 : decode J34 0 = .ok (.iload_n 0, 1) := by decide +kernel
theorem d2_1 : decode J34 1 = .ok (.ifCond .ne 14, 3) := by decide +kernel
theorem d2_4 : decode J34 4 = .ok (.new 38, 3) := by decide +kernel
theorem d2_7 : decode J34 7 = .ok (.dup, 1) := by decide +kernel
theorem d2_8 : decode J34 8 = .ok (.iconst 0, 1) := by decide +kernel
theorem d2_9 : decode J34 9 = .ok (.newarray .char, 2) := by decide +kernel
theorem d2_11 : decode J34 11 = .ok (.invokespecial 40, 3) := by decide +kernel
theorem d2_14 : decode J34 14 = .ok (.areturn, 1) := by decide +kernel
theorem d2_15 : decode J34 15 = .ok (.iload_n 0, 1) := by decide +kernel
theorem d2_16 : decode J34 16 = .ok (.iconst 1, 1) := by decide +kernel
theorem d2_17 : decode J34 17 = .ok (.if_icmp .ne 8, 3) := by decide +kernel
theorem d2_20 : decode J34 20 = .ok (.iload_n 1, 1) := by decide +kernel
theorem d2_21 : decode J34 21 = .ok (.invokestatic 43, 3) := by decide +kernel
theorem d2_24 : decode J34 24 = .ok (.areturn, 1) := by decide +kernel
theorem d2_25 : decode J34 25 = .ok (.iload_n 0, 1) := by decide +kernel
theorem d2_26 : decode J34 26 = .ok (.iconst 2, 1) := by decide +kernel
theorem d2_27 : decode J34 27 = .ok (.if_icmp .ne 22, 3) := by decide +kernel
theorem d2_30 : decode J34 30 = .ok (.new 38, 3) := by decide +kernel
theorem d2_33 : decode J34 33 = .ok (.dup, 1) := by decide +kernel
theorem d2_34 : decode J34 34 = .ok (.iconst 2, 1) := by decide +kernel
theorem d2_35 : decode J34 35 = .ok (.newarray .char, 2) := by decide +kernel
theorem d2_37 : decode J34 37 = .ok (.dup, 1) := by decide +kernel
theorem d2_38 : decode J34 38 = .ok (.iconst 0, 1) := by decide +kernel
theorem d2_39 : decode J34 39 = .ok (.iload_n 1, 1) := by decide +kernel
theorem d2_40 : decode J34 40 = .ok (.castore, 1) := by decide +kernel
theorem d2_41 : decode J34 41 = .ok (.dup, 1) := by decide +kernel
theorem d2_42 : decode J34 42 = .ok (.iconst 1, 1) := by decide +kernel
theorem d2_43 : decode J34 43 = .ok (.iload_n 2, 1) := by decide +kernel
theorem d2_44 : decode J34 44 = .ok (.castore, 1) := by decide +kernel
theorem d2_45 : decode J34 45 = .ok (.invokespecial 40, 3) := by decide +kernel
theorem d2_48 : decode J34 48 = .ok (.areturn, 1) := by decide +kernel
theorem d2_49 : decode J34 49 = .ok (.new 38, 3) := by decide +kernel
theorem d2_52 : decode J34 52 = .ok (.dup, 1) := by decide +kernel
theorem d2_53 : decode J34 53 = .ok (.iconst 3, 1) := by decide +kernel
theorem d2_54 : decode J34 54 = .ok (.newarray .char, 2) := by decide +kernel
theorem d2_56 : decode J34 56 = .ok (.dup, 1) := by decide +kernel
theorem d2_57 : decode J34 57 = .ok (.iconst 0, 1) := by decide +kernel
theorem d2_58 : decode J34 58 = .ok (.iload_n 1, 1) := by decide +kernel
theorem d2_59 : decode J34 59 = .ok (.castore, 1) := by decide +kernel
theorem d2_60 : decode J34 60 = .ok (.dup, 1) := by decide +kernel
theorem d2_61 : decode J34 61 = .ok (.iconst 1, 1) := by decide +kernel
theorem d2_62 : decode J34 62 = .ok (.iload_n 2, 1) := by decide +kernel
theorem d2_63 : decode J34 63 = .ok (.castore, 1) := by decide +kernel
theorem d2_64 : decode J34 64 = .ok (.dup, 1) := by decide +kernel
theorem d2_65 : decode J34 65 = .ok (.iconst 2, 1) := by decide +kernel
theorem d2_66 : decode J34 66 = .ok (.iload_n 3, 1) := by decide +kernel
theorem d2_67 : decode J34 67 = .ok (.castore, 1) := by decide +kernel
theorem d2_68 : decode J34 68 = .ok (.invokespecial 40, 3) := by decide +kernel
theorem d2_71 : decode J34 71 = .ok (.areturn, 1) := by decide +kernel
theorem pn_7 : plainName "com/example/stemshear/stemshear/RuleApplyPinLaw" = true := by first | (simp [plainName, overriddenIn]; done) | decide +kernel
theorem pd_32 : parseMethodDescriptor "([C)V" = some ⟨[(.array .char)], none⟩ := by decide +kernel
theorem pd_33 : parseMethodDescriptor "(C)Ljava/lang/String;" = some ⟨[.char], some (.object "java/lang/String")⟩ := by decide +kernel
theorem ef_2 (m : MethodId) (p0 : Int32) (p1 : Int32) (p2 : Int32) (p3 : Int32) : entryFrame m #[(.int p0), (.int p1), (.int p2), (.int p3)] 4 = mkF m 0 #[.val (.int p0), .val (.int p1), .val (.int p2), .val (.int p3)] [] := by first | (simp [entryFrame, mkF, argsToLocals, Value.category]; done) | rfl
set_option maxRecDepth 65536 in
set_option maxHeartbeats 40000000 in
theorem c2 (l : Launch) (Z : State) (a0 : Array Value) (hw : ∀ d ∈ tables_1, d.before a0 Z = true) (p0 : Int32) (p1 : Int32) (p2 : Int32) (p3 : Int32) (n0 : Nat) (G1 : Int32) (h0 : Heap) (Z0 : n0 ≤ h0.size) (hbp1 : own_ok p1) (hbp2 : own_ok p2) (hbp3 : own_ok p3) (SC : Sta Z h0 "java/lang/String" "COMPACT_STRINGS" "Z" (.int G1)) (hG1 : ¬ G1 = 0) : Own.ConH l Z own_EL (⟨"com/example/stemshear/stemshear/RuleApplyPinLaw", "str", "(ICCC)Ljava/lang/String;"⟩ : MethodName) method_4_code 4 (some (.object "java/lang/String")) ({ frames := 4, cells := 8, slots := 20, locals := 66 } : Room) #[(.int p0), (.int p1), (.int p2), (.int p3)] h0 (fun v h L => ∃ b, v = some (.ref b) ∧ Fr n0 L ∧ Keep h0 h [] ∧ own_Txt Z h b (own_mk p0 p1 p2 p3)) := by
  intro ws
  refine MetFree.of_bodySF (plainFor_of_name pn_7) hisR ?_
  intro p e s m args below meth c s₁ Bd hml0 hP hK
  obtain ⟨rfl, hZ, hh, hH⟩ := hP
  have hx := Bd.exec
  have hby := Bd.bytes
  have D := fun {n : Nat} {i} (d : decode method_4_code n = .ok i) => hb hby d
  have hml : c.maxLocals = 4 := hml0
  have hown : s.vm.findClass "com/example/stemshear/stemshear/RuleApplyPinLaw" = some m.cls := findClass_of_methodNamed Bd.named
  have hnm := (name_of_methodNamed Bd.named Bd.method).1
  have X0 : Stand p l e ({ frames := 4, cells := 8, slots := 20, locals := 66 } : Room) (s.setVm s.vm) m #[(.int p0), (.int p1), (.int p2), (.int p3)] below meth c s₁ [] 0 0 := Stand.of_body Bd
  have e0 : s₁.heap = h0 := by rw [← hh, Bd.state]; rfl
  have D0 : Own.Wd s Z own_EL "com/example/stemshear/stemshear/RuleApplyPinLaw" m.cls s.vm h0 := by rw [← hh]; exact Own.Wd.start hZ hown (by rw [hh]; exact hH)
  have K0 : ∀ t, Steps p.tables e below (s₁.setTop (mkF m 0 #[vi p0, vi p1, vi p2, vi p3] [])) t → Steps p.tables e below (s₁.setTop (entryFrame m #[(.int p0), (.int p1), (.int p2), (.int p3)] 4)) t := fun t k => castTop (ef_2 m p0 p1 p2 p3) k
  generalize s₁.setTop (entryFrame m #[(.int p0), (.int p1), (.int p2), (.int p3)] 4) = B0 at K0 ⊢
  show Own.FinH p e below B0 s Z own_EL (({ frames := 4, cells := 8, slots := 20, locals := 66 } : Room)).cells (({ frames := 4, cells := 8, slots := 20, locals := 66 } : Room)).slots (fun v h L => ∃ b, v = some (.ref b) ∧ Fr n0 L ∧ Keep h0 h [] ∧ own_Txt Z h b (own_mk p0 p1 p2 p3))
  have K1 : Own.To p e below B0 s₁ (mkF m 1 #[vi p0, vi p1, vi p2, vi p3] [(.int p0)]) := fun t k => K0 t (by
    refine Own.iloadN X0 hx (D d2_0) rfl ?_
    exact k)
  by_cases hc2 : p0 = (0 : Int32)
  · have K3 : Own.To p e below B0 s₁ (mkF m 4 #[vi p0, vi p1, vi p2, vi p3] []) := fun t k => K1 t (by
      refine Own.ifNo X0 hx (D d2_1) ((if0 _ _).trans (teq hc2).2) ?_
      exact k)
    obtain ⟨T4, h4, b4, X4, e4, E4, g4, A4, D4, st4⟩ := Own.newO (Ls := #[vi p0, vi p1, vi p2, vi p3]) (S := []) X0 hx D0.hZ e0 D0.hown (W_ hw 7 rfl) (W_ hw 8 rfl) (W_ hw 9 rfl) (D d2_4) (by decide) (by decide)
    have le_b4 : h0.size ≤ b4 := Nat.le_of_eq g4.symm
    have X4 : Stand p l e ({ frames := 4, cells := 8, slots := 20, locals := 66 } : Room) (s.setVm s.vm) m #[(.int p0), (.int p1), (.int p2), (.int p3)] below meth c T4 [] 1 4 := X4
    have m5 : h0.size ≤ h4.size := E4.1
    have D5 := D0.ext E4
    have F4_value : Fld Z h4 b4 "java/lang/String" "value" "[B" .null := D4 (Or.inr (W_ hw 23 rfl)) (ty := (.array .byte)) (by decide)
    have F4_coder : Fld Z h4 b4 "java/lang/String" "coder" "B" (.int 0) := D4 (Or.inr (W_ hw 24 rfl)) (ty := .byte) (by decide)
    have K6 := fun t k => K3 t (st4 t k)
    have K7 : Own.To p e below B0 T4 (mkF m 9 #[vi p0, vi p1, vi p2, vi p3] [(.int 0), (.ref b4), (.ref b4)]) := fun t k => K6 t (by
      refine Own.dup X4 hx (D d2_7) rfl ?_
      refine Own.iconst X4 hx 0 (D d2_8) rfl ?_
      exact k)
    obtain ⟨T8, h8, b8, X8, e8, E8, g8, V8, st8⟩ := Own.newA (Ls := #[vi p0, vi p1, vi p2, vi p3]) (S := [(.ref b4), (.ref b4)]) (z := (0 : Int32)) X4 hx D5.hZ e4 .char rfl rfl (W_ hw 10 rfl) 0 rfl (by decide) (D d2_9) (by decide) (by decide)
    have le_b8 : h4.size ≤ b8 := Nat.le_of_eq g8.symm
    have X8 : Stand p l e ({ frames := 4, cells := 8, slots := 20, locals := 66 } : Room) (s.setVm s.vm) m #[(.int p0), (.int p1), (.int p2), (.int p3)] below meth c T8 [] 2 4 := X8
    have V8 : Own.CA Z h8 b8 .char [] := V8
    have m9 : h4.size ≤ h8.size := E8.1
    have D9 := D5.ext E8
    have K10 := fun t k => K7 t (st8 t k)
    have f11 := (A4.ext E8)
    have f12 := (F4_value.ext E8)
    have f13 := (F4_coder.ext E8)
    obtain ⟨vm14, T14, h14, v14, J14, L14, X14, e14, D14, mm14, n14, hQ14, st14⟩ := Own.callIW (Ls := #[vi p0, vi p1, vi p2, vi p3]) X8 hx (own_hEL hw) D9 e8 rfl b4 [(.ref b8)] [(.ref b4)] (cE1 l Z a0 hw b4 b8 n0 (.int 0) h8 (Nat.le_trans Z0 (Nat.le_trans m5 m9)) f11 f12 f13 (Nat.le_trans Z0 (Nat.le_trans (Nat.le_refl _) le_b4)) V8) (W_ hw 11 rfl) (W_ hw 12 rfl) (W_ hw 9 rfl) (W_ hw 13 rfl) (by decide) 1 (by decide) (by decide) (by decide) (by decide) (szOf hml rfl) (lenOf pd_32 rfl) rfl (Nat.le_of_eq rfl) (D d2_11)
    have X14 : Stand p l e ({ frames := 4, cells := 8, slots := 20, locals := 66 } : Room) (s.setVm vm14) m #[(.int p0), (.int p1), (.int p2), (.int p3)] below meth c T14 L14 6 12 := X14
    obtain ⟨rfl, NN14, K14, t14⟩ := hQ14
    have N14 : Fr n0 L14 := n14 n0 (Fr.nil _) NN14
    have m15 : h8.size ≤ h14.size := K14.1
    have K16 := fun t k => K10 t (st14 t k)
    have kp := ((((Keep.refl h0 []).ext E4).ext E8).trans K14 (allS (Or.inr le_b4) all0))
    have tt : own_Txt Z h14 b4 (own_mk p0 p1 p2 p3) := by unfold own_mk; rw [if_pos hc2]; exact t14
    exact Own.finHA X14 hx (own_hEL hw) e14 D14 (BodyLoose.notSynchronized Bd) Bd.returns rfl rfl (D d2_14) K16 (by decide) (by decide) (by rw [e14]; exact ⟨_, rfl, N14, kp, tt⟩)
  · have K17 : Own.To p e below B0 s₁ (mkF m 17 #[vi p0, vi p1, vi p2, vi p3] [(.int 1), (.int p0)]) := fun t k => K1 t (by
      refine Own.ifYes X0 hx 15 (D d2_1) ((if0 _ _).trans (feq hc2).2) (by decide) (by decide) ?_
      refine Own.iloadN X0 hx (D d2_15) rfl ?_
      refine Own.iconst X0 hx 1 (D d2_16) rfl ?_
      exact k)
    by_cases hc18 : p0 = (1 : Int32)
    · have K19 : Own.To p e below B0 s₁ (mkF m 21 #[vi p0, vi p1, vi p2, vi p3] [(.int p1)]) := fun t k => K17 t (by
        refine Own.icmpNo X0 hx (D d2_17) (teq hc18).2 ?_
        refine Own.iloadN X0 hx (D d2_20) rfl ?_
        exact k)
      obtain ⟨T20, h20, v20, J20, L20, X20, e20, n20, hQ20, st20⟩ := Own.callH (Ls := #[vi p0, vi p1, vi p2, vi p3]) X0 hx D0.hZ e0 [(.int p1)] [] (cVO l Z a0 hw p1 n0 G1 h0 (Nat.le_trans Z0 (Nat.le_refl _)) hbp1.1 hbp1.2 SC hG1) D0.hown (W_ hw 248 rfl) (W_ hw 249 rfl) (W_ hw 9 rfl) (W_ hw 250 rfl) (by decide) 0 (by decide) (by decide) (by decide) (by decide) (szOf hml rfl) (lenOf pd_33 rfl) rfl (Nat.le_of_eq rfl) (D d2_21)
      have X20 : Stand p l e ({ frames := 4, cells := 8, slots := 20, locals := 66 } : Room) (s.setVm s.vm) m #[(.int p0), (.int p1), (.int p2), (.int p3)] below meth c T20 L20 2 5 := X20
      obtain ⟨bw20, rfl, NN20, K20, t20⟩ := hQ20
      have N20 : Fr n0 L20 := n20 n0 (Fr.nil _) NN20
      have m21 : h0.size ≤ h20.size := K20.1
      have D21 := D0.keep K20 sf0
      have K22 := fun t k => K19 t (st20 t k)
      have kp := ((Keep.refl h0 []).trans K20 all0)
      have tt : own_Txt Z h20 bw20 (own_mk p0 p1 p2 p3) := by unfold own_mk; rw [if_neg hc2, if_pos hc18]; exact t20
      exact Own.finHA X20 hx (own_hEL hw) e20 D21 (BodyLoose.notSynchronized Bd) Bd.returns rfl rfl (D d2_24) K22 (by decide) (by decide) (by rw [e20]; exact ⟨_, rfl, N20, kp, tt⟩)
    · have K23 : Own.To p e below B0 s₁ (mkF m 27 #[vi p0, vi p1, vi p2, vi p3] [(.int 2), (.int p0)]) := fun t k => K17 t (by
        refine Own.icmpYes X0 hx 25 (D d2_17) (feq hc18).2 (by decide) (by decide) ?_
        refine Own.iloadN X0 hx (D d2_25) rfl ?_
        refine Own.iconst X0 hx 2 (D d2_26) rfl ?_
        exact k)
      by_cases hc24 : p0 = (2 : Int32)
      · have K25 : Own.To p e below B0 s₁ (mkF m 30 #[vi p0, vi p1, vi p2, vi p3] []) := fun t k => K23 t (by
          refine Own.icmpNo X0 hx (D d2_27) (teq hc24).2 ?_
          exact k)
        obtain ⟨T26, h26, b26, X26, e26, E26, g26, A26, D26, st26⟩ := Own.newO (Ls := #[vi p0, vi p1, vi p2, vi p3]) (S := []) X0 hx D0.hZ e0 D0.hown (W_ hw 7 rfl) (W_ hw 8 rfl) (W_ hw 9 rfl) (D d2_30) (by decide) (by decide)
        have le_b26 : h0.size ≤ b26 := Nat.le_of_eq g26.symm
        have X26 : Stand p l e ({ frames := 4, cells := 8, slots := 20, locals := 66 } : Room) (s.setVm s.vm) m #[(.int p0), (.int p1), (.int p2), (.int p3)] below meth c T26 [] 1 4 := X26
        have m27 : h0.size ≤ h26.size := E26.1
        have D27 := D0.ext E26
        have F26_value : Fld Z h26 b26 "java/lang/String" "value" "[B" .null := D26 (Or.inr (W_ hw 23 rfl)) (ty := (.array .byte)) (by decide)
        have F26_coder : Fld Z h26 b26 "java/lang/String" "coder" "B" (.int 0) := D26 (Or.inr (W_ hw 24 rfl)) (ty := .byte) (by decide)
        have K28 := fun t k => K25 t (st26 t k)
        have K29 : Own.To p e below B0 T26 (mkF m 35 #[vi p0, vi p1, vi p2, vi p3] [(.int 2), (.ref b26), (.ref b26)]) := fun t k => K28 t (by
          refine Own.dup X26 hx (D d2_33) rfl ?_
          refine Own.iconst X26 hx 2 (D d2_34) rfl ?_
          exact k)
        obtain ⟨T30, h30, b30, X30, e30, E30, g30, V30, st30⟩ := Own.newA (Ls := #[vi p0, vi p1, vi p2, vi p3]) (S := [(.ref b26), (.ref b26)]) (z := (2 : Int32)) X26 hx D27.hZ e26 .char rfl rfl (W_ hw 10 rfl) 2 rfl (by decide) (D d2_35) (by decide) (by decide)
        have le_b30 : h26.size ≤ b30 := Nat.le_of_eq g30.symm
        have X30 : Stand p l e ({ frames := 4, cells := 8, slots := 20, locals := 66 } : Room) (s.setVm s.vm) m #[(.int p0), (.int p1), (.int p2), (.int p3)] below meth c T30 [] 2 6 := X30
        have V30 : Own.CA Z h30 b30 .char [(0 : Int32), (0 : Int32)] := V30
        have m31 : h26.size ≤ h30.size := E30.1
        have D31 := D27.ext E30
        have K32 := fun t k => K29 t (st30 t k)
        have K33 : Own.To p e below B0 T30 (mkF m 40 #[vi p0, vi p1, vi p2, vi p3] [(.int p1), (.int 0), (.ref b30), (.ref b30), (.ref b26), (.ref b26)]) := fun t k => K32 t (by
          refine Own.dup X30 hx (D d2_37) rfl ?_
          refine Own.iconst X30 hx 0 (D d2_38) rfl ?_
          refine Own.iloadN X30 hx (D d2_39) rfl ?_
          exact k)
        obtain ⟨T34, h34, L34, X34, e34, n34, W34, V34, st34⟩ := Own.stc (Ls := #[vi p0, vi p1, vi p2, vi p3]) (S := [(.ref b30), (.ref b26), (.ref b26)]) (x := p1) (j := (0 : Int32)) X30 hx D31.hZ e30 V30 0 rfl (by decide) (show 0 < 2 by decide) (D d2_40)
        have V34 : Own.CA Z h34 b30 .char [p1, (0 : Int32)] := (by rw [show p1 = nar .char p1 from (own_narb hbp1).symm]; exact V34)
        have N34 : Fr n0 L34 := n34 n0 (Fr.nil _) (Nat.le_trans Z0 (Nat.le_trans m27 le_b30))
        have m35 : h30.size ≤ h34.size := Nat.le_of_eq W34.size.symm
        have D35 := D31.wr W34 (Own.CA.safe D31.hZ.alike V30 (by decide))
        have K36 := fun t k => K33 t (st34 t k)
        have K37 : Own.To p e below B0 T34 (mkF m 44 #[vi p0, vi p1, vi p2, vi p3] [(.int p2), (.int 1), (.ref b30), (.ref b30), (.ref b26), (.ref b26)]) := fun t k => K36 t (by
          refine Own.dup X34 hx (D d2_41) rfl ?_
          refine Own.iconst X34 hx 1 (D d2_42) rfl ?_
          refine Own.iloadN X34 hx (D d2_43) rfl ?_
          exact k)
        obtain ⟨T38, h38, L38, X38, e38, n38, W38, V38, st38⟩ := Own.stc (Ls := #[vi p0, vi p1, vi p2, vi p3]) (S := [(.ref b30), (.ref b26), (.ref b26)]) (x := p2) (j := (1 : Int32)) X34 hx D35.hZ e34 V34 1 rfl (by decide) (show 1 < 2 by decide) (D d2_44)
        have V38 : Own.CA Z h38 b30 .char [p1, p2] := (by rw [show p2 = nar .char p2 from (own_narb hbp2).symm]; exact V38)
        have N38 : Fr n0 L38 := n38 n0 N34 (Nat.le_trans Z0 (Nat.le_trans m27 le_b30))
        have m39 : h34.size ≤ h38.size := Nat.le_of_eq W38.size.symm
        have D39 := D35.wr W38 (Own.CA.safe D35.hZ.alike V34 (by decide))
        have K40 := fun t k => K37 t (st38 t k)
        have f42 := (((A26.ext E30).wr W34).wr W38)
        have f43 := (((F26_value.ext E30).other W34 (Or.inl (Nat.ne_of_lt (Nat.lt_of_lt_of_le A26.lt le_b30)))).other W38 (Or.inl (Nat.ne_of_lt (Nat.lt_of_lt_of_le A26.lt le_b30))))
        have f44 := (((F26_coder.ext E30).other W34 (Or.inl (Nat.ne_of_lt (Nat.lt_of_lt_of_le A26.lt le_b30)))).other W38 (Or.inl (Nat.ne_of_lt (Nat.lt_of_lt_of_le A26.lt le_b30))))
        have f45 := ((((SC.ext E26).ext E30).wr W34).wr W38)
        have hp : ∀ c ∈ ([p1, p2] : List Int32), ¬ c < 0 ∧ ¬ (255 : Int32) < c := by
          intro c hc; simp only [List.mem_cons, List.not_mem_nil, or_false] at hc
          rcases hc with rfl | rfl
          · exact hbp1
          · exact hbp2
        obtain ⟨T41, h41, J41, L41, X41, e41, n41, NN41, K41, t41, st41⟩ := own_newS (Ls := #[vi p0, vi p1, vi p2, vi p3]) (cs := [p1, p2]) (n := 2) (n0 := n0) X38 hx D39.hZ e38 hw (W_ hw 8 rfl) D39.hown rfl (Nat.le_trans Z0 (Nat.le_trans (Nat.le_refl _) le_b26)) (Nat.le_trans Z0 (Nat.le_trans (Nat.le_trans (Nat.le_trans m27 m31) m35) m39)) f42 f43 f44 V38 f45 hG1 (by decide) (by decide) hp (W_ hw 11 rfl) (W_ hw 12 rfl) (W_ hw 13 rfl) [(.ref b26)] 1 (by decide) (by decide) (by decide) (by decide) (by rw [hml]; rfl) (lenOf pd_32 rfl) (Nat.le_of_eq rfl) (D d2_45)
        have X41 : Stand p l e ({ frames := 4, cells := 8, slots := 20, locals := 66 } : Room) (s.setVm s.vm) m #[(.int p0), (.int p1), (.int p2), (.int p3)] below meth c T41 L41 3 8 := X41
        have N41 : Fr n0 L41 := n41 n0 N38 NN41
        have m46 : h38.size ≤ h41.size := K41.1
        have D46 := D39.keep K41 (sfS (Own.safe_null D39.hZ.alike f42 f43) sf0)
        have K47 := fun t k => K40 t (st41 t k)
        have kp := ((((((Keep.refl h0 []).ext E26).ext E30).wr W34 (Or.inr (Nat.le_trans m27 le_b30))).wr W38 (Or.inr (Nat.le_trans m27 le_b30))).trans K41 (allS (Or.inr le_b26) all0))
        have tt : own_Txt Z h41 b26 (own_mk p0 p1 p2 p3) := by unfold own_mk; rw [if_neg hc2, if_neg hc18, if_pos hc24]; exact t41
        exact Own.finHA X41 hx (own_hEL hw) e41 D46 (BodyLoose.notSynchronized Bd) Bd.returns rfl rfl (D d2_48) K47 (by decide) (by decide) (by rw [e41]; exact ⟨_, rfl, N41, kp, tt⟩)
      · have K48 : Own.To p e below B0 s₁ (mkF m 49 #[vi p0, vi p1, vi p2, vi p3] []) := fun t k => K23 t (by
          refine Own.icmpYes X0 hx 49 (D d2_27) (feq hc24).2 (by decide) (by decide) ?_
          exact k)
        obtain ⟨T49, h49, b49, X49, e49, E49, g49, A49, D49, st49⟩ := Own.newO (Ls := #[vi p0, vi p1, vi p2, vi p3]) (S := []) X0 hx D0.hZ e0 D0.hown (W_ hw 7 rfl) (W_ hw 8 rfl) (W_ hw 9 rfl) (D d2_49) (by decide) (by decide)
        have le_b49 : h0.size ≤ b49 := Nat.le_of_eq g49.symm
        have X49 : Stand p l e ({ frames := 4, cells := 8, slots := 20, locals := 66 } : Room) (s.setVm s.vm) m #[(.int p0), (.int p1), (.int p2), (.int p3)] below meth c T49 [] 1 4 := X49
        have m50 : h0.size ≤ h49.size := E49.1
        have D50 := D0.ext E49
        have F49_value : Fld Z h49 b49 "java/lang/String" "value" "[B" .null := D49 (Or.inr (W_ hw 23 rfl)) (ty := (.array .byte)) (by decide)
        have F49_coder : Fld Z h49 b49 "java/lang/String" "coder" "B" (.int 0) := D49 (Or.inr (W_ hw 24 rfl)) (ty := .byte) (by decide)
        have K51 := fun t k => K48 t (st49 t k)
        have K52 : Own.To p e below B0 T49 (mkF m 54 #[vi p0, vi p1, vi p2, vi p3] [(.int 3), (.ref b49), (.ref b49)]) := fun t k => K51 t (by
          refine Own.dup X49 hx (D d2_52) rfl ?_
          refine Own.iconst X49 hx 3 (D d2_53) rfl ?_
          exact k)
        obtain ⟨T53, h53, b53, X53, e53, E53, g53, V53, st53⟩ := Own.newA (Ls := #[vi p0, vi p1, vi p2, vi p3]) (S := [(.ref b49), (.ref b49)]) (z := (3 : Int32)) X49 hx D50.hZ e49 .char rfl rfl (W_ hw 10 rfl) 3 rfl (by decide) (D d2_54) (by decide) (by decide)
        have le_b53 : h49.size ≤ b53 := Nat.le_of_eq g53.symm
        have X53 : Stand p l e ({ frames := 4, cells := 8, slots := 20, locals := 66 } : Room) (s.setVm s.vm) m #[(.int p0), (.int p1), (.int p2), (.int p3)] below meth c T53 [] 2 7 := X53
        have V53 : Own.CA Z h53 b53 .char [(0 : Int32), (0 : Int32), (0 : Int32)] := V53
        have m54 : h49.size ≤ h53.size := E53.1
        have D54 := D50.ext E53
        have K55 := fun t k => K52 t (st53 t k)
        have K56 : Own.To p e below B0 T53 (mkF m 59 #[vi p0, vi p1, vi p2, vi p3] [(.int p1), (.int 0), (.ref b53), (.ref b53), (.ref b49), (.ref b49)]) := fun t k => K55 t (by
          refine Own.dup X53 hx (D d2_56) rfl ?_
          refine Own.iconst X53 hx 0 (D d2_57) rfl ?_
          refine Own.iloadN X53 hx (D d2_58) rfl ?_
          exact k)
        obtain ⟨T57, h57, L57, X57, e57, n57, W57, V57, st57⟩ := Own.stc (Ls := #[vi p0, vi p1, vi p2, vi p3]) (S := [(.ref b53), (.ref b49), (.ref b49)]) (x := p1) (j := (0 : Int32)) X53 hx D54.hZ e53 V53 0 rfl (by decide) (show 0 < 3 by decide) (D d2_59)
        have V57 : Own.CA Z h57 b53 .char [p1, (0 : Int32), (0 : Int32)] := (by rw [show p1 = nar .char p1 from (own_narb hbp1).symm]; exact V57)
        have N57 : Fr n0 L57 := n57 n0 (Fr.nil _) (Nat.le_trans Z0 (Nat.le_trans m50 le_b53))
        have m58 : h53.size ≤ h57.size := Nat.le_of_eq W57.size.symm
        have D58 := D54.wr W57 (Own.CA.safe D54.hZ.alike V53 (by decide))
        have K59 := fun t k => K56 t (st57 t k)
        have K60 : Own.To p e below B0 T57 (mkF m 63 #[vi p0, vi p1, vi p2, vi p3] [(.int p2), (.int 1), (.ref b53), (.ref b53), (.ref b49), (.ref b49)]) := fun t k => K59 t (by
          refine Own.dup X57 hx (D d2_60) rfl ?_
          refine Own.iconst X57 hx 1 (D d2_61) rfl ?_
          refine Own.iloadN X57 hx (D d2_62) rfl ?_
          exact k)
        obtain ⟨T61, h61, L61, X61, e61, n61, W61, V61, st61⟩ := Own.stc (Ls := #[vi p0, vi p1, vi p2, vi p3]) (S := [(.ref b53), (.ref b49), (.ref b49)]) (x := p2) (j := (1 : Int32)) X57 hx D58.hZ e57 V57 1 rfl (by decide) (show 1 < 3 by decide) (D d2_63)
        have V61 : Own.CA Z h61 b53 .char [p1, p2, (0 : Int32)] := (by rw [show p2 = nar .char p2 from (own_narb hbp2).symm]; exact V61)
        have N61 : Fr n0 L61 := n61 n0 N57 (Nat.le_trans Z0 (Nat.le_trans m50 le_b53))
        have m62 : h57.size ≤ h61.size := Nat.le_of_eq W61.size.symm
        have D62 := D58.wr W61 (Own.CA.safe D58.hZ.alike V57 (by decide))
        have K63 := fun t k => K60 t (st61 t k)
        have K64 : Own.To p e below B0 T61 (mkF m 67 #[vi p0, vi p1, vi p2, vi p3] [(.int p3), (.int 2), (.ref b53), (.ref b53), (.ref b49), (.ref b49)]) := fun t k => K63 t (by
          refine Own.dup X61 hx (D d2_64) rfl ?_
          refine Own.iconst X61 hx 2 (D d2_65) rfl ?_
          refine Own.iloadN X61 hx (D d2_66) rfl ?_
          exact k)
        obtain ⟨T65, h65, L65, X65, e65, n65, W65, V65, st65⟩ := Own.stc (Ls := #[vi p0, vi p1, vi p2, vi p3]) (S := [(.ref b53), (.ref b49), (.ref b49)]) (x := p3) (j := (2 : Int32)) X61 hx D62.hZ e61 V61 2 rfl (by decide) (show 2 < 3 by decide) (D d2_67)
        have V65 : Own.CA Z h65 b53 .char [p1, p2, p3] := (by rw [show p3 = nar .char p3 from (own_narb hbp3).symm]; exact V65)
        have N65 : Fr n0 L65 := n65 n0 N61 (Nat.le_trans Z0 (Nat.le_trans m50 le_b53))
        have m66 : h61.size ≤ h65.size := Nat.le_of_eq W65.size.symm
        have D66 := D62.wr W65 (Own.CA.safe D62.hZ.alike V61 (by decide))
        have K67 := fun t k => K64 t (st65 t k)
        have f69 := ((((A49.ext E53).wr W57).wr W61).wr W65)
        have f70 := ((((F49_value.ext E53).other W57 (Or.inl (Nat.ne_of_lt (Nat.lt_of_lt_of_le A49.lt le_b53)))).other W61 (Or.inl (Nat.ne_of_lt (Nat.lt_of_lt_of_le A49.lt le_b53)))).other W65 (Or.inl (Nat.ne_of_lt (Nat.lt_of_lt_of_le A49.lt le_b53))))
        have f71 := ((((F49_coder.ext E53).other W57 (Or.inl (Nat.ne_of_lt (Nat.lt_of_lt_of_le A49.lt le_b53)))).other W61 (Or.inl (Nat.ne_of_lt (Nat.lt_of_lt_of_le A49.lt le_b53)))).other W65 (Or.inl (Nat.ne_of_lt (Nat.lt_of_lt_of_le A49.lt le_b53))))
        have f72 := (((((SC.ext E49).ext E53).wr W57).wr W61).wr W65)
        have hp : ∀ c ∈ ([p1, p2, p3] : List Int32), ¬ c < 0 ∧ ¬ (255 : Int32) < c := by
          intro c hc; simp only [List.mem_cons, List.not_mem_nil, or_false] at hc
          rcases hc with rfl | rfl | rfl
          · exact hbp1
          · exact hbp2
          · exact hbp3
        obtain ⟨T68, h68, J68, L68, X68, e68, n68, NN68, K68, t68, st68⟩ := own_newS (Ls := #[vi p0, vi p1, vi p2, vi p3]) (cs := [p1, p2, p3]) (n := 3) (n0 := n0) X65 hx D66.hZ e65 hw (W_ hw 8 rfl) D66.hown rfl (Nat.le_trans Z0 (Nat.le_trans (Nat.le_refl _) le_b49)) (Nat.le_trans Z0 (Nat.le_trans (Nat.le_trans (Nat.le_trans (Nat.le_trans m50 m54) m58) m62) m66)) f69 f70 f71 V65 f72 hG1 (by decide) (by decide) hp (W_ hw 11 rfl) (W_ hw 12 rfl) (W_ hw 13 rfl) [(.ref b49)] 1 (by decide) (by decide) (by decide) (by decide) (by rw [hml]; rfl) (lenOf pd_32 rfl) (Nat.le_of_eq rfl) (D d2_68)
        have X68 : Stand p l e ({ frames := 4, cells := 8, slots := 20, locals := 66 } : Room) (s.setVm s.vm) m #[(.int p0), (.int p1), (.int p2), (.int p3)] below meth c T68 L68 3 10 := X68
        have N68 : Fr n0 L68 := n68 n0 N65 NN68
        have m73 : h65.size ≤ h68.size := K68.1
        have D73 := D66.keep K68 (sfS (Own.safe_null D66.hZ.alike f69 f70) sf0)
        have K74 := fun t k => K67 t (st68 t k)
        have kp := (((((((Keep.refl h0 []).ext E49).ext E53).wr W57 (Or.inr (Nat.le_trans m50 le_b53))).wr W61 (Or.inr (Nat.le_trans m50 le_b53))).wr W65 (Or.inr (Nat.le_trans m50 le_b53))).trans K68 (allS (Or.inr le_b49) all0))
        have tt : own_Txt Z h68 b49 (own_mk p0 p1 p2 p3) := by unfold own_mk; rw [if_neg hc2, if_neg hc18, if_neg hc24]; exact t68
        exact Own.finHA X68 hx (own_hEL hw) e68 D73 (BodyLoose.notSynchronized Bd) Bd.returns rfl rfl (D d2_71) K74 (by decide) (by decide) (by rw [e68]; exact ⟨_, rfl, N68, kp, tt⟩)

theorem d1_0 : decode J33 0 = .ok (.bipush 97, 2) := by decide +kernel
theorem d1_2 : decode J33 2 = .ok (.iload_n 0, 1) := by decide +kernel
theorem d1_3 : decode J33 3 = .ok (.iload_n 1, 1) := by decide +kernel
theorem d1_4 : decode J33 4 = .ok (.iushr, 1) := by decide +kernel
theorem d1_5 : decode J33 5 = .ok (.sipush 255, 3) := by decide +kernel
theorem d1_8 : decode J33 8 = .ok (.iand, 1) := by decide +kernel
theorem d1_9 : decode J33 9 = .ok (.bipush 26, 2) := by decide +kernel
theorem d1_11 : decode J33 11 = .ok (.irem, 1) := by decide +kernel
theorem d1_12 : decode J33 12 = .ok (.iadd, 1) := by decide +kernel
theorem d1_13 : decode J33 13 = .ok (.i2c, 1) := by decide +kernel
theorem d1_14 : decode J33 14 = .ok (.ireturn, 1) := by decide +kernel
theorem ef_1 (m : MethodId) (p0 : Int32) (p1 : Int32) : entryFrame m #[(.int p0), (.int p1)] 2 = mkF m 0 #[.val (.int p0), .val (.int p1)] [] := by first | (simp [entryFrame, mkF, argsToLocals, Value.category]; done) | rfl
def F1 (p0 : Int32) (p1 : Int32) : Int32 := (nar .char (((97 : Int32) + ((((p0.toUInt32 >>> (p1 &&& 31).toUInt32).toInt32) &&& (255 : Int32)) % (26 : Int32))).toUInt32.toUInt16.toUInt32.toInt32))
set_option maxRecDepth 65536 in
set_option maxHeartbeats 40000000 in
theorem c1 (l : Launch) (Z : State) (a0 : Array Value) (hw : ∀ d ∈ tables_1, d.before a0 Z = true) (p0 : Int32) (p1 : Int32) (h0 : Heap) : Own.Con l Z (⟨"com/example/stemshear/stemshear/RuleApplyPinLaw", "letter", "(II)C"⟩ : MethodName) method_3_code 2 (some .char) ({ frames := 0, cells := 0, slots := 0, locals := 0 } : Room) #[(.int p0), (.int p1)] h0 (Own.Pure (.int (F1 p0 p1)) h0) := by
  intro ws
  refine MetFree.of_bodySF (plainFor_of_name pn_7) hisR ?_
  intro p e s m args below meth c s₁ Bd hml0 hP hK
  obtain ⟨rfl, hZ, hh⟩ := hP
  have hx := Bd.exec
  have hby := Bd.bytes
  have D := fun {n : Nat} {i} (d : decode method_3_code n = .ok i) => hb hby d
  have hml : c.maxLocals = 2 := hml0
  have hown : s.vm.findClass "com/example/stemshear/stemshear/RuleApplyPinLaw" = some m.cls := findClass_of_methodNamed Bd.named
  have hnm := (name_of_methodNamed Bd.named Bd.method).1
  have X0 : Stand p l e ({ frames := 0, cells := 0, slots := 0, locals := 0 } : Room) s m #[(.int p0), (.int p1)] below meth c s₁ [] 0 0 := Stand.of_body Bd
  have e0 : s₁.heap = h0 := by rw [← hh, Bd.state]; rfl
  have K0 : ∀ t, Steps p.tables e below (s₁.setTop (mkF m 0 #[vi p0, vi p1] [])) t → Steps p.tables e below (s₁.setTop (entryFrame m #[(.int p0), (.int p1)] 2)) t := fun t k => castTop (ef_1 m p0 p1) k
  generalize s₁.setTop (entryFrame m #[(.int p0), (.int p1)] 2) = B0 at K0 ⊢
  show Own.Fin p e below B0 s (({ frames := 0, cells := 0, slots := 0, locals := 0 } : Room)).cells (({ frames := 0, cells := 0, slots := 0, locals := 0 } : Room)).slots (Own.Pure (.int (F1 p0 p1)) h0)
  have K1 : Own.To p e below B0 s₁ (mkF m 14 #[vi p0, vi p1] [(.int (((97 : Int32) + ((((p0.toUInt32 >>> (p1 &&& 31).toUInt32).toInt32) &&& (255 : Int32)) % (26 : Int32))).toUInt32.toUInt16.toUInt32.toInt32))]) := fun t k => K0 t (by
    refine Own.bipush X0 hx 97 (D d1_0) rfl ?_
    refine Own.iloadN X0 hx (D d1_2) rfl ?_
    refine Own.iloadN X0 hx (D d1_3) rfl ?_
    refine Own.iushr X0 hx (D d1_4) ?_
    refine Own.sipush X0 hx 255 (D d1_5) rfl ?_
    refine Own.iand X0 hx (D d1_8) ?_
    refine Own.bipush X0 hx 26 (D d1_9) rfl ?_
    refine Own.irem X0 hx (D d1_11) (by decide) ?_
    refine Own.iadd X0 hx (D d1_12) ?_
    refine Own.i2c X0 hx (D d1_13) ?_
    exact k)
  exact Own.finN X0 hx (BodyLoose.notSynchronized Bd) Bd.returns (by simp) (D d1_14) K1 (by decide) (by decide) ⟨by unfold F1; rfl, rfl, e0⟩

theorem own_ushr8 (x : Int32) : 0 ≤ ((x.toUInt32 >>> ((8 : Int32) &&& 31).toUInt32).toInt32).toInt := by
  have e : ((x.toUInt32 >>> ((8 : Int32) &&& 31).toUInt32).toInt32).toBitVec = x.toBitVec >>> 8 := rfl
  show 0 ≤ ((x.toUInt32 >>> ((8 : Int32) &&& 31).toUInt32).toInt32).toBitVec.toInt
  rw [e, BitVec.toInt_eq_toNat_cond]
  have h := x.toBitVec.isLt
  have h2 : (x.toBitVec >>> 8).toNat = x.toBitVec.toNat / 2 ^ 8 := by rw [BitVec.toNat_ushiftRight, Nat.shiftRight_eq_div_pow]
  rw [if_pos (by rw [h2]; omega)]; omega

theorem own_letd (x : Int32) : own_let (nar .char (((97 : Int32) + ((x &&& (255 : Int32)) % (26 : Int32))).toUInt32.toUInt16.toUInt32.toInt32)) := by
  have h := own_mask x 8 255 (by decide) (by omega)
  have h0 : 0 ≤ (x &&& (255 : Int32)).toInt := by omega
  have h1 : ((x &&& (255 : Int32)) % (26 : Int32)).toInt = (x &&& (255 : Int32)).toInt.tmod 26 := by rw [Int32.toInt_mod]; rfl
  have h2 := Int.tmod_nonneg 26 h0
  have h3 := Int.tmod_lt_of_pos (x &&& (255 : Int32)).toInt (show (0 : Int) < 26 by decide)
  have h4 : ((97 : Int32) + ((x &&& (255 : Int32)) % (26 : Int32))).toInt = 97 + ((x &&& (255 : Int32)) % (26 : Int32)).toInt := by
    rw [Int32.toInt_add, show (97 : Int32).toInt = 97 by decide]; exact Int.bmod_eq_of_le (by omega) (by omega)
  rw [show ((97 : Int32) + ((x &&& (255 : Int32)) % (26 : Int32))).toUInt32.toUInt16.toUInt32.toInt32 = (97 : Int32) + ((x &&& (255 : Int32)) % (26 : Int32)) from own_nar (by omega) (by omega), own_nar (by omega) (by omega)]
  unfold own_let
  rw [Int32.lt_iff_toInt_lt, Int32.lt_iff_toInt_lt, show (97 : Int32).toInt = 97 by decide, show (122 : Int32).toInt = 122 by decide]
  omega
theorem own_letL (x k : Int32) : own_let (F1 x k) := own_letd _
theorem own_cond (x : Int32) : ¬ F8 (((x.toUInt32 >>> ((8 : Int32) &&& 31).toUInt32).toInt32) % (25 : Int32)) = 0 := by
  have h0 : 0 ≤ ((x.toUInt32 >>> ((8 : Int32) &&& 31).toUInt32).toInt32).toInt := own_ushr8 x
  have h1 : (((x.toUInt32 >>> ((8 : Int32) &&& 31).toUInt32).toInt32) % (25 : Int32)).toInt = ((x.toUInt32 >>> ((8 : Int32) &&& 31).toUInt32).toInt32).toInt.tmod 25 := by rw [Int32.toInt_mod]; rfl
  have h2 := Int.tmod_nonneg 25 h0
  have h3 := Int.tmod_lt_of_pos ((x.toUInt32 >>> ((8 : Int32) &&& 31).toUInt32).toInt32).toInt (show (0 : Int) < 25 by decide)
  unfold F8
  generalize (((x.toUInt32 >>> ((8 : Int32) &&& 31).toUInt32).toInt32) % (25 : Int32)) = y at *
  rw [if_neg (show ¬ y < 0 by rw [Int32.lt_iff_toInt_lt, show (0 : Int32).toInt = 0 by decide]; omega), if_neg (show ¬ (24 : Int32) < y by rw [Int32.lt_iff_toInt_lt, show (24 : Int32).toInt = 24 by decide]; omega)]
  decide
def own_pl : List Int32 → List Int32 → Nat → List Int32
  | [], xs, _ => xs
  | a :: rs, xs, j => own_pl rs (xs.set j a) (j + 1)
theorem own_pl_len : ∀ (rs xs : List Int32) (j : Nat), (own_pl rs xs j).length = xs.length
  | [], _, _ => rfl
  | a :: rs, xs, j => by rw [own_pl, own_pl_len rs, List.length_set]
theorem own_pl_get : ∀ (rs xs : List Int32) (j i : Nat), j + rs.length ≤ xs.length → (own_pl rs xs j).getD i 0 = if j ≤ i ∧ i < j + rs.length then rs.getD (i - j) 0 else xs.getD i 0
  | [], xs, j, i, h => by rw [own_pl, if_neg (by simp only [List.length_nil]; omega)]
  | a :: rs, xs, j, i, h => by
    rw [List.length_cons] at h
    rw [own_pl, own_pl_get rs (xs.set j a) (j + 1) i (by rw [List.length_set]; omega), List.length_cons]
    by_cases h1 : i = j
    · subst h1
      rw [if_neg (by omega), if_pos (by omega), Nat.sub_self]
      simp only [List.getD_eq_getElem?_getD, List.getElem?_set_self (show i < xs.length by omega)]; rfl
    · by_cases h2 : j + 1 ≤ i ∧ i < j + 1 + rs.length
      · rw [if_pos h2, if_pos (by omega)]
        obtain ⟨d, rfl⟩ : ∃ d, i = j + 1 + d := ⟨i - (j + 1), by omega⟩
        rw [show j + 1 + d - (j + 1) = d by omega, show j + 1 + d - j = d + 1 by omega]; rfl
      · rw [if_neg h2, if_neg (by omega)]
        simp only [List.getD_eq_getElem?_getD, List.getElem?_set_ne (Ne.symm h1)]
theorem own_inc (n : Nat) : Int32.ofNat n + (1 : Int32) = Int32.ofNat (n + 1) := by rw [Int32.ofNat_add]; rfl
theorem own_jx {p : Int32} {j d : Nat} (hp : p = Int32.ofNat j) (h : j + d ≤ 11) : (p + Int32.ofNat d).toNatClampNeg = j + d ∧ ¬ (p + Int32.ofNat d) < 0 := by
  rw [hp, ← Int32.ofNat_add]; exact ⟨Own.ofNat_clamp (by omega), Int32.ofNat_not_neg (by omega)⟩
theorem own_j0 {p : Int32} {j : Nat} (hp : p = Int32.ofNat j) (h : j ≤ 11) : p.toNatClampNeg = j ∧ ¬ p < 0 := by
  rw [hp]; exact ⟨Own.ofNat_clamp (by omega), Int32.ofNat_not_neg (by omega)⟩

def own_fl (q0 : Int64) (p1 : Int32) : List Int32 := [(nar .char (((q0 &&& (255 : Int64)).toInt32).toUInt32.toUInt16.toUInt32.toInt32)), (nar .char (((((q0.toUInt64 >>> ((8 : Int32) &&& 0x3f).toInt64.toUInt64).toInt64) &&& (255 : Int64)).toInt32).toUInt32.toUInt16.toUInt32.toInt32)), (nar .char (((((q0.toUInt64 >>> ((16 : Int32) &&& 0x3f).toInt64.toUInt64).toInt64) &&& (255 : Int64)).toInt32).toUInt32.toUInt16.toUInt32.toInt32)), (nar .char (((((q0.toUInt64 >>> ((24 : Int32) &&& 0x3f).toInt64.toUInt64).toInt64) &&& (255 : Int64)).toInt32).toUInt32.toUInt16.toUInt32.toInt32)), (nar .char (((((q0.toUInt64 >>> ((32 : Int32) &&& 0x3f).toInt64.toUInt64).toInt64) &&& (255 : Int64)).toInt32).toUInt32.toUInt16.toUInt32.toInt32)), (nar .char (((((q0.toUInt64 >>> ((40 : Int32) &&& 0x3f).toInt64.toUInt64).toInt64) &&& (255 : Int64)).toInt32).toUInt32.toUInt16.toUInt32.toInt32)), (nar .char (((((q0.toUInt64 >>> ((48 : Int32) &&& 0x3f).toInt64.toUInt64).toInt64) &&& (255 : Int64)).toInt32).toUInt32.toUInt16.toUInt32.toInt32)), (nar .char (((((q0.toUInt64 >>> ((56 : Int32) &&& 0x3f).toInt64.toUInt64).toInt64) &&& (255 : Int64)).toInt32).toUInt32.toUInt16.toUInt32.toInt32)), (nar .char ((p1 &&& (255 : Int32)).toUInt32.toUInt16.toUInt32.toInt32)), (nar .char ((((p1.toUInt32 >>> ((8 : Int32) &&& 31).toUInt32).toInt32) &&& (255 : Int32)).toUInt32.toUInt16.toUInt32.toInt32)), (nar .char ((((p1.toUInt32 >>> ((16 : Int32) &&& 31).toUInt32).toInt32) &&& (255 : Int32)).toUInt32.toUInt16.toUInt32.toInt32)), (nar .char ((((p1.toUInt32 >>> ((24 : Int32) &&& 31).toUInt32).toInt32) &&& (255 : Int32)).toUInt32.toUInt16.toUInt32.toInt32))]

theorem d41_0 : decode J35 0 = .ok (.bipush 12, 2) := by decide +kernel
theorem d41_2 : decode J35 2 = .ok (.newarray .char, 2) := by decide +kernel
theorem d41_4 : decode J35 4 = .ok (.astore_n 3, 1) := by decide +kernel
theorem d41_5 : decode J35 5 = .ok (.aload_n 3, 1) := by decide +kernel
theorem d41_6 : decode J35 6 = .ok (.iconst 0, 1) := by decide +kernel
theorem d41_7 : decode J35 7 = .ok (.lload_n 0, 1) := by decide +kernel
theorem d41_8 : decode J35 8 = .ok (.ldc2_w 47, 3) := by decide +kernel
theorem d41_11 : decode J35 11 = .ok (.land, 1) := by decide +kernel
theorem d41_12 : decode J35 12 = .ok (.l2i, 1) := by decide +kernel
theorem d41_13 : decode J35 13 = .ok (.i2c, 1) := by decide +kernel
theorem d41_14 : decode J35 14 = .ok (.castore, 1) := by decide +kernel
theorem d41_15 : decode J35 15 = .ok (.aload_n 3, 1) := by decide +kernel
theorem d41_16 : decode J35 16 = .ok (.iconst 1, 1) := by decide +kernel
theorem d41_17 : decode J35 17 = .ok (.lload_n 0, 1) := by decide +kernel
theorem d41_18 : decode J35 18 = .ok (.bipush 8, 2) := by decide +kernel
theorem d41_20 : decode J35 20 = .ok (.lushr, 1) := by decide +kernel
theorem d41_21 : decode J35 21 = .ok (.ldc2_w 47, 3) := by decide +kernel
theorem d41_24 : decode J35 24 = .ok (.land, 1) := by decide +kernel
theorem d41_25 : decode J35 25 = .ok (.l2i, 1) := by decide +kernel
theorem d41_26 : decode J35 26 = .ok (.i2c, 1) := by decide +kernel
theorem d41_27 : decode J35 27 = .ok (.castore, 1) := by decide +kernel
theorem d41_28 : decode J35 28 = .ok (.aload_n 3, 1) := by decide +kernel
theorem d41_29 : decode J35 29 = .ok (.iconst 2, 1) := by decide +kernel
theorem d41_30 : decode J35 30 = .ok (.lload_n 0, 1) := by decide +kernel
theorem d41_31 : decode J35 31 = .ok (.bipush 16, 2) := by decide +kernel
theorem d41_33 : decode J35 33 = .ok (.lushr, 1) := by decide +kernel
theorem d41_34 : decode J35 34 = .ok (.ldc2_w 47, 3) := by decide +kernel
theorem d41_37 : decode J35 37 = .ok (.land, 1) := by decide +kernel
theorem d41_38 : decode J35 38 = .ok (.l2i, 1) := by decide +kernel
theorem d41_39 : decode J35 39 = .ok (.i2c, 1) := by decide +kernel
theorem d41_40 : decode J35 40 = .ok (.castore, 1) := by decide +kernel
theorem d41_41 : decode J35 41 = .ok (.aload_n 3, 1) := by decide +kernel
theorem d41_42 : decode J35 42 = .ok (.iconst 3, 1) := by decide +kernel
theorem d41_43 : decode J35 43 = .ok (.lload_n 0, 1) := by decide +kernel
theorem d41_44 : decode J35 44 = .ok (.bipush 24, 2) := by decide +kernel
theorem d41_46 : decode J35 46 = .ok (.lushr, 1) := by decide +kernel
theorem d41_47 : decode J35 47 = .ok (.ldc2_w 47, 3) := by decide +kernel
theorem d41_50 : decode J35 50 = .ok (.land, 1) := by decide +kernel
theorem d41_51 : decode J35 51 = .ok (.l2i, 1) := by decide +kernel
theorem d41_52 : decode J35 52 = .ok (.i2c, 1) := by decide +kernel
theorem d41_53 : decode J35 53 = .ok (.castore, 1) := by decide +kernel
theorem d41_54 : decode J35 54 = .ok (.aload_n 3, 1) := by decide +kernel
theorem d41_55 : decode J35 55 = .ok (.iconst 4, 1) := by decide +kernel
theorem d41_56 : decode J35 56 = .ok (.lload_n 0, 1) := by decide +kernel
theorem d41_57 : decode J35 57 = .ok (.bipush 32, 2) := by decide +kernel
theorem d41_59 : decode J35 59 = .ok (.lushr, 1) := by decide +kernel
theorem d41_60 : decode J35 60 = .ok (.ldc2_w 47, 3) := by decide +kernel
theorem d41_63 : decode J35 63 = .ok (.land, 1) := by decide +kernel
theorem d41_64 : decode J35 64 = .ok (.l2i, 1) := by decide +kernel
theorem d41_65 : decode J35 65 = .ok (.i2c, 1) := by decide +kernel
theorem d41_66 : decode J35 66 = .ok (.castore, 1) := by decide +kernel
theorem d41_67 : decode J35 67 = .ok (.aload_n 3, 1) := by decide +kernel
theorem d41_68 : decode J35 68 = .ok (.iconst 5, 1) := by decide +kernel
theorem d41_69 : decode J35 69 = .ok (.lload_n 0, 1) := by decide +kernel
theorem d41_70 : decode J35 70 = .ok (.bipush 40, 2) := by decide +kernel
theorem d41_72 : decode J35 72 = .ok (.lushr, 1) := by decide +kernel
theorem d41_73 : decode J35 73 = .ok (.ldc2_w 47, 3) := by decide +kernel
theorem d41_76 : decode J35 76 = .ok (.land, 1) := by decide +kernel
theorem d41_77 : decode J35 77 = .ok (.l2i, 1) := by decide +kernel
theorem d41_78 : decode J35 78 = .ok (.i2c, 1) := by decide +kernel
theorem d41_79 : decode J35 79 = .ok (.castore, 1) := by decide +kernel
theorem d41_80 : decode J35 80 = .ok (.aload_n 3, 1) := by decide +kernel
theorem d41_81 : decode J35 81 = .ok (.bipush 6, 2) := by decide +kernel
theorem d41_83 : decode J35 83 = .ok (.lload_n 0, 1) := by decide +kernel
theorem d41_84 : decode J35 84 = .ok (.bipush 48, 2) := by decide +kernel
theorem d41_86 : decode J35 86 = .ok (.lushr, 1) := by decide +kernel
theorem d41_87 : decode J35 87 = .ok (.ldc2_w 47, 3) := by decide +kernel
theorem d41_90 : decode J35 90 = .ok (.land, 1) := by decide +kernel
theorem d41_91 : decode J35 91 = .ok (.l2i, 1) := by decide +kernel
theorem d41_92 : decode J35 92 = .ok (.i2c, 1) := by decide +kernel
theorem d41_93 : decode J35 93 = .ok (.castore, 1) := by decide +kernel
theorem d41_94 : decode J35 94 = .ok (.aload_n 3, 1) := by decide +kernel
theorem d41_95 : decode J35 95 = .ok (.bipush 7, 2) := by decide +kernel
theorem d41_97 : decode J35 97 = .ok (.lload_n 0, 1) := by decide +kernel
theorem d41_98 : decode J35 98 = .ok (.bipush 56, 2) := by decide +kernel
theorem d41_100 : decode J35 100 = .ok (.lushr, 1) := by decide +kernel
theorem d41_101 : decode J35 101 = .ok (.ldc2_w 47, 3) := by decide +kernel
theorem d41_104 : decode J35 104 = .ok (.land, 1) := by decide +kernel
theorem d41_105 : decode J35 105 = .ok (.l2i, 1) := by decide +kernel
theorem d41_106 : decode J35 106 = .ok (.i2c, 1) := by decide +kernel
theorem d41_107 : decode J35 107 = .ok (.castore, 1) := by decide +kernel
theorem d41_108 : decode J35 108 = .ok (.aload_n 3, 1) := by decide +kernel
theorem d41_109 : decode J35 109 = .ok (.bipush 8, 2) := by decide +kernel
theorem d41_111 : decode J35 111 = .ok (.iload_n 2, 1) := by decide +kernel
theorem d41_112 : decode J35 112 = .ok (.sipush 255, 3) := by decide +kernel
theorem d41_115 : decode J35 115 = .ok (.iand, 1) := by decide +kernel
theorem d41_116 : decode J35 116 = .ok (.i2c, 1) := by decide +kernel
theorem d41_117 : decode J35 117 = .ok (.castore, 1) := by decide +kernel
theorem d41_118 : decode J35 118 = .ok (.aload_n 3, 1) := by decide +kernel
theorem d41_119 : decode J35 119 = .ok (.bipush 9, 2) := by decide +kernel
theorem d41_121 : decode J35 121 = .ok (.iload_n 2, 1) := by decide +kernel
theorem d41_122 : decode J35 122 = .ok (.bipush 8, 2) := by decide +kernel
theorem d41_124 : decode J35 124 = .ok (.iushr, 1) := by decide +kernel
theorem d41_125 : decode J35 125 = .ok (.sipush 255, 3) := by decide +kernel
theorem d41_128 : decode J35 128 = .ok (.iand, 1) := by decide +kernel
theorem d41_129 : decode J35 129 = .ok (.i2c, 1) := by decide +kernel
theorem d41_130 : decode J35 130 = .ok (.castore, 1) := by decide +kernel
theorem d41_131 : decode J35 131 = .ok (.aload_n 3, 1) := by decide +kernel
theorem d41_132 : decode J35 132 = .ok (.bipush 10, 2) := by decide +kernel
theorem d41_134 : decode J35 134 = .ok (.iload_n 2, 1) := by decide +kernel
theorem d41_135 : decode J35 135 = .ok (.bipush 16, 2) := by decide +kernel
theorem d41_137 : decode J35 137 = .ok (.iushr, 1) := by decide +kernel
theorem d41_138 : decode J35 138 = .ok (.sipush 255, 3) := by decide +kernel
theorem d41_141 : decode J35 141 = .ok (.iand, 1) := by decide +kernel
theorem d41_142 : decode J35 142 = .ok (.i2c, 1) := by decide +kernel
theorem d41_143 : decode J35 143 = .ok (.castore, 1) := by decide +kernel
theorem d41_144 : decode J35 144 = .ok (.aload_n 3, 1) := by decide +kernel
theorem d41_145 : decode J35 145 = .ok (.bipush 11, 2) := by decide +kernel
theorem d41_147 : decode J35 147 = .ok (.iload_n 2, 1) := by decide +kernel
theorem d41_148 : decode J35 148 = .ok (.bipush 24, 2) := by decide +kernel
theorem d41_150 : decode J35 150 = .ok (.iushr, 1) := by decide +kernel
theorem d41_151 : decode J35 151 = .ok (.sipush 255, 3) := by decide +kernel
theorem d41_154 : decode J35 154 = .ok (.iand, 1) := by decide +kernel
theorem d41_155 : decode J35 155 = .ok (.i2c, 1) := by decide +kernel
theorem d41_156 : decode J35 156 = .ok (.castore, 1) := by decide +kernel
theorem d41_157 : decode J35 157 = .ok (.aload_n 3, 1) := by decide +kernel
theorem d41_158 : decode J35 158 = .ok (.areturn, 1) := by decide +kernel
theorem ef_41 (m : MethodId) (q0 : Int64) (p1 : Int32) : entryFrame m #[(.long q0), (.int p1)] 4 = mkF m 0 #[.val (.long q0), .second, .val (.int p1), .unset] [] := by first | (simp [entryFrame, mkF, argsToLocals, Value.category]; done) | rfl
set_option maxRecDepth 65536 in
set_option maxHeartbeats 40000000 in
theorem cFI (l : Launch) (Z : State) (a0 : Array Value) (hw : ∀ d ∈ tables_1, d.before a0 Z = true) (q0 : Int64) (p1 : Int32) (n0 : Nat) (h0 : Heap) (Z0 : n0 ≤ h0.size) : Own.Con l Z (⟨"com/example/stemshear/stemshear/RuleApplyPinLaw", "filled", "(JI)[C"⟩ : MethodName) method_5_code 4 (some (.array .char)) ({ frames := 0, cells := 1, slots := 12, locals := 0 } : Room) #[(.long q0), (.int p1)] h0 (fun v h L => ∃ b, v = some (.ref b) ∧ h0.size ≤ b ∧ Fr n0 L ∧ Keep h0 h [] ∧ Own.CA Z h b .char (own_fl q0 p1)) := by
  intro ws
  refine MetFree.of_bodySF (plainFor_of_name pn_7) hisR ?_
  intro p e s m args below meth c s₁ Bd hml0 hP hK
  obtain ⟨rfl, hZ, hh⟩ := hP
  have hx := Bd.exec
  have hby := Bd.bytes
  have D := fun {n : Nat} {i} (d : decode method_5_code n = .ok i) => hb hby d
  have hml : c.maxLocals = 4 := hml0
  have hown : s.vm.findClass "com/example/stemshear/stemshear/RuleApplyPinLaw" = some m.cls := findClass_of_methodNamed Bd.named
  have hnm := (name_of_methodNamed Bd.named Bd.method).1
  have X0 : Stand p l e ({ frames := 0, cells := 1, slots := 12, locals := 0 } : Room) s m #[(.long q0), (.int p1)] below meth c s₁ [] 0 0 := Stand.of_body Bd
  have e0 : s₁.heap = h0 := by rw [← hh, Bd.state]; rfl
  have K0 : ∀ t, Steps p.tables e below (s₁.setTop (mkF m 0 #[vl q0, .second, vi p1, .unset] [])) t → Steps p.tables e below (s₁.setTop (entryFrame m #[(.long q0), (.int p1)] 4)) t := fun t k => castTop (ef_41 m q0 p1) k
  generalize s₁.setTop (entryFrame m #[(.long q0), (.int p1)] 4) = B0 at K0 ⊢
  show Own.Fin p e below B0 s (({ frames := 0, cells := 1, slots := 12, locals := 0 } : Room)).cells (({ frames := 0, cells := 1, slots := 12, locals := 0 } : Room)).slots (fun v h L => ∃ b, v = some (.ref b) ∧ h0.size ≤ b ∧ Fr n0 L ∧ Keep h0 h [] ∧ Own.CA Z h b .char (own_fl q0 p1))
  have K1 : Own.To p e below B0 s₁ (mkF m 2 #[vl q0, .second, vi p1, .unset] [(.int 12)]) := fun t k => K0 t (by
    refine Own.bipush X0 hx 12 (D d41_0) rfl ?_
    exact k)
  obtain ⟨T2, h2, b2, X2, e2, E2, g2, V2, st2⟩ := Own.newA (Ls := #[vl q0, .second, vi p1, .unset]) (S := []) (z := (12 : Int32)) X0 hx hZ e0 .char rfl rfl (W_ hw 10 rfl) 12 rfl (by decide) (D d41_2) (by decide) (by decide)
  have le_b2 : h0.size ≤ b2 := Nat.le_of_eq g2.symm
  have X2 : Stand p l e ({ frames := 0, cells := 1, slots := 12, locals := 0 } : Room) s m #[(.long q0), (.int p1)] below meth c T2 [] 1 12 := X2
  have V2 : Own.CA Z h2 b2 .char [(0 : Int32), (0 : Int32), (0 : Int32), (0 : Int32), (0 : Int32), (0 : Int32), (0 : Int32), (0 : Int32), (0 : Int32), (0 : Int32), (0 : Int32), (0 : Int32)] := V2
  have m3 : h0.size ≤ h2.size := E2.1
  have K4 := fun t k => K1 t (st2 t k)
  have K5 : Own.To p e below B0 T2 (mkF m 14 #[vl q0, .second, vi p1, vr b2] [(.int (((q0 &&& (255 : Int64)).toInt32).toUInt32.toUInt16.toUInt32.toInt32)), (.int 0), (.ref b2)]) := fun t k => K4 t (by
    refine Own.astoreN X2 hx #[vl q0, .second, vi p1, vr b2] (D d41_4) rfl rfl ?_
    refine Own.aloadN X2 hx (D d41_5) rfl rfl ?_
    refine Own.iconst X2 hx 0 (D d41_6) rfl ?_
    refine Own.lloadN X2 hx (D d41_7) rfl ?_
    refine Own.ldc2J X2 hx (255 : Int64) hZ hown (W_ hw 226 rfl) (D d41_8) ?_
    refine Own.land X2 hx (D d41_11) ?_
    refine Own.l2i X2 hx (D d41_12) ?_
    refine Own.i2c X2 hx (D d41_13) ?_
    exact k)
  obtain ⟨cx7, hcx7⟩ : ∃ z : Int32, z = nar .char (((q0 &&& (255 : Int64)).toInt32).toUInt32.toUInt16.toUInt32.toInt32) := ⟨_, rfl⟩
  obtain ⟨T6, h6, L6, X6, e6, n6, W6, V6, st6⟩ := Own.stc (Ls := #[vl q0, .second, vi p1, vr b2]) (S := []) (x := (((q0 &&& (255 : Int64)).toInt32).toUInt32.toUInt16.toUInt32.toInt32)) (j := (0 : Int32)) X2 hx hZ e2 V2 0 rfl (by decide) (show 0 < 12 by decide) (D d41_14)
  have V6 : Own.CA Z h6 b2 .char [cx7, (0 : Int32), (0 : Int32), (0 : Int32), (0 : Int32), (0 : Int32), (0 : Int32), (0 : Int32), (0 : Int32), (0 : Int32), (0 : Int32), (0 : Int32)] := (by rw [hcx7]; exact V6)
  have N6 : Fr n0 L6 := n6 n0 (Fr.nil _) (Nat.le_trans Z0 (Nat.le_trans (Nat.le_refl _) le_b2))
  have m8 : h2.size ≤ h6.size := Nat.le_of_eq W6.size.symm
  have K9 := fun t k => K5 t (st6 t k)
  have K10 : Own.To p e below B0 T6 (mkF m 27 #[vl q0, .second, vi p1, vr b2] [(.int (((((q0.toUInt64 >>> ((8 : Int32) &&& 0x3f).toInt64.toUInt64).toInt64) &&& (255 : Int64)).toInt32).toUInt32.toUInt16.toUInt32.toInt32)), (.int 1), (.ref b2)]) := fun t k => K9 t (by
    refine Own.aloadN X6 hx (D d41_15) rfl rfl ?_
    refine Own.iconst X6 hx 1 (D d41_16) rfl ?_
    refine Own.lloadN X6 hx (D d41_17) rfl ?_
    refine Own.bipush X6 hx 8 (D d41_18) rfl ?_
    refine Own.lushr X6 hx (D d41_20) ?_
    refine Own.ldc2J X6 hx (255 : Int64) hZ hown (W_ hw 226 rfl) (D d41_21) ?_
    refine Own.land X6 hx (D d41_24) ?_
    refine Own.l2i X6 hx (D d41_25) ?_
    refine Own.i2c X6 hx (D d41_26) ?_
    exact k)
  obtain ⟨cx12, hcx12⟩ : ∃ z : Int32, z = nar .char (((((q0.toUInt64 >>> ((8 : Int32) &&& 0x3f).toInt64.toUInt64).toInt64) &&& (255 : Int64)).toInt32).toUInt32.toUInt16.toUInt32.toInt32) := ⟨_, rfl⟩
  obtain ⟨T11, h11, L11, X11, e11, n11, W11, V11, st11⟩ := Own.stc (Ls := #[vl q0, .second, vi p1, vr b2]) (S := []) (x := (((((q0.toUInt64 >>> ((8 : Int32) &&& 0x3f).toInt64.toUInt64).toInt64) &&& (255 : Int64)).toInt32).toUInt32.toUInt16.toUInt32.toInt32)) (j := (1 : Int32)) X6 hx hZ e6 V6 1 rfl (by decide) (show 1 < 12 by decide) (D d41_27)
  have V11 : Own.CA Z h11 b2 .char [cx7, cx12, (0 : Int32), (0 : Int32), (0 : Int32), (0 : Int32), (0 : Int32), (0 : Int32), (0 : Int32), (0 : Int32), (0 : Int32), (0 : Int32)] := (by rw [hcx12]; exact V11)
  have N11 : Fr n0 L11 := n11 n0 N6 (Nat.le_trans Z0 (Nat.le_trans (Nat.le_refl _) le_b2))
  have m13 : h6.size ≤ h11.size := Nat.le_of_eq W11.size.symm
  have K14 := fun t k => K10 t (st11 t k)
  have K15 : Own.To p e below B0 T11 (mkF m 40 #[vl q0, .second, vi p1, vr b2] [(.int (((((q0.toUInt64 >>> ((16 : Int32) &&& 0x3f).toInt64.toUInt64).toInt64) &&& (255 : Int64)).toInt32).toUInt32.toUInt16.toUInt32.toInt32)), (.int 2), (.ref b2)]) := fun t k => K14 t (by
    refine Own.aloadN X11 hx (D d41_28) rfl rfl ?_
    refine Own.iconst X11 hx 2 (D d41_29) rfl ?_
    refine Own.lloadN X11 hx (D d41_30) rfl ?_
    refine Own.bipush X11 hx 16 (D d41_31) rfl ?_
    refine Own.lushr X11 hx (D d41_33) ?_
    refine Own.ldc2J X11 hx (255 : Int64) hZ hown (W_ hw 226 rfl) (D d41_34) ?_
    refine Own.land X11 hx (D d41_37) ?_
    refine Own.l2i X11 hx (D d41_38) ?_
    refine Own.i2c X11 hx (D d41_39) ?_
    exact k)
  obtain ⟨cx17, hcx17⟩ : ∃ z : Int32, z = nar .char (((((q0.toUInt64 >>> ((16 : Int32) &&& 0x3f).toInt64.toUInt64).toInt64) &&& (255 : Int64)).toInt32).toUInt32.toUInt16.toUInt32.toInt32) := ⟨_, rfl⟩
  obtain ⟨T16, h16, L16, X16, e16, n16, W16, V16, st16⟩ := Own.stc (Ls := #[vl q0, .second, vi p1, vr b2]) (S := []) (x := (((((q0.toUInt64 >>> ((16 : Int32) &&& 0x3f).toInt64.toUInt64).toInt64) &&& (255 : Int64)).toInt32).toUInt32.toUInt16.toUInt32.toInt32)) (j := (2 : Int32)) X11 hx hZ e11 V11 2 rfl (by decide) (show 2 < 12 by decide) (D d41_40)
  have V16 : Own.CA Z h16 b2 .char [cx7, cx12, cx17, (0 : Int32), (0 : Int32), (0 : Int32), (0 : Int32), (0 : Int32), (0 : Int32), (0 : Int32), (0 : Int32), (0 : Int32)] := (by rw [hcx17]; exact V16)
  have N16 : Fr n0 L16 := n16 n0 N11 (Nat.le_trans Z0 (Nat.le_trans (Nat.le_refl _) le_b2))
  have m18 : h11.size ≤ h16.size := Nat.le_of_eq W16.size.symm
  have K19 := fun t k => K15 t (st16 t k)
  have K20 : Own.To p e below B0 T16 (mkF m 53 #[vl q0, .second, vi p1, vr b2] [(.int (((((q0.toUInt64 >>> ((24 : Int32) &&& 0x3f).toInt64.toUInt64).toInt64) &&& (255 : Int64)).toInt32).toUInt32.toUInt16.toUInt32.toInt32)), (.int 3), (.ref b2)]) := fun t k => K19 t (by
    refine Own.aloadN X16 hx (D d41_41) rfl rfl ?_
    refine Own.iconst X16 hx 3 (D d41_42) rfl ?_
    refine Own.lloadN X16 hx (D d41_43) rfl ?_
    refine Own.bipush X16 hx 24 (D d41_44) rfl ?_
    refine Own.lushr X16 hx (D d41_46) ?_
    refine Own.ldc2J X16 hx (255 : Int64) hZ hown (W_ hw 226 rfl) (D d41_47) ?_
    refine Own.land X16 hx (D d41_50) ?_
    refine Own.l2i X16 hx (D d41_51) ?_
    refine Own.i2c X16 hx (D d41_52) ?_
    exact k)
  obtain ⟨cx22, hcx22⟩ : ∃ z : Int32, z = nar .char (((((q0.toUInt64 >>> ((24 : Int32) &&& 0x3f).toInt64.toUInt64).toInt64) &&& (255 : Int64)).toInt32).toUInt32.toUInt16.toUInt32.toInt32) := ⟨_, rfl⟩
  obtain ⟨T21, h21, L21, X21, e21, n21, W21, V21, st21⟩ := Own.stc (Ls := #[vl q0, .second, vi p1, vr b2]) (S := []) (x := (((((q0.toUInt64 >>> ((24 : Int32) &&& 0x3f).toInt64.toUInt64).toInt64) &&& (255 : Int64)).toInt32).toUInt32.toUInt16.toUInt32.toInt32)) (j := (3 : Int32)) X16 hx hZ e16 V16 3 rfl (by decide) (show 3 < 12 by decide) (D d41_53)
  have V21 : Own.CA Z h21 b2 .char [cx7, cx12, cx17, cx22, (0 : Int32), (0 : Int32), (0 : Int32), (0 : Int32), (0 : Int32), (0 : Int32), (0 : Int32), (0 : Int32)] := (by rw [hcx22]; exact V21)
  have N21 : Fr n0 L21 := n21 n0 N16 (Nat.le_trans Z0 (Nat.le_trans (Nat.le_refl _) le_b2))
  have m23 : h16.size ≤ h21.size := Nat.le_of_eq W21.size.symm
  have K24 := fun t k => K20 t (st21 t k)
  have K25 : Own.To p e below B0 T21 (mkF m 66 #[vl q0, .second, vi p1, vr b2] [(.int (((((q0.toUInt64 >>> ((32 : Int32) &&& 0x3f).toInt64.toUInt64).toInt64) &&& (255 : Int64)).toInt32).toUInt32.toUInt16.toUInt32.toInt32)), (.int 4), (.ref b2)]) := fun t k => K24 t (by
    refine Own.aloadN X21 hx (D d41_54) rfl rfl ?_
    refine Own.iconst X21 hx 4 (D d41_55) rfl ?_
    refine Own.lloadN X21 hx (D d41_56) rfl ?_
    refine Own.bipush X21 hx 32 (D d41_57) rfl ?_
    refine Own.lushr X21 hx (D d41_59) ?_
    refine Own.ldc2J X21 hx (255 : Int64) hZ hown (W_ hw 226 rfl) (D d41_60) ?_
    refine Own.land X21 hx (D d41_63) ?_
    refine Own.l2i X21 hx (D d41_64) ?_
    refine Own.i2c X21 hx (D d41_65) ?_
    exact k)
  obtain ⟨cx27, hcx27⟩ : ∃ z : Int32, z = nar .char (((((q0.toUInt64 >>> ((32 : Int32) &&& 0x3f).toInt64.toUInt64).toInt64) &&& (255 : Int64)).toInt32).toUInt32.toUInt16.toUInt32.toInt32) := ⟨_, rfl⟩
  obtain ⟨T26, h26, L26, X26, e26, n26, W26, V26, st26⟩ := Own.stc (Ls := #[vl q0, .second, vi p1, vr b2]) (S := []) (x := (((((q0.toUInt64 >>> ((32 : Int32) &&& 0x3f).toInt64.toUInt64).toInt64) &&& (255 : Int64)).toInt32).toUInt32.toUInt16.toUInt32.toInt32)) (j := (4 : Int32)) X21 hx hZ e21 V21 4 rfl (by decide) (show 4 < 12 by decide) (D d41_66)
  have V26 : Own.CA Z h26 b2 .char [cx7, cx12, cx17, cx22, cx27, (0 : Int32), (0 : Int32), (0 : Int32), (0 : Int32), (0 : Int32), (0 : Int32), (0 : Int32)] := (by rw [hcx27]; exact V26)
  have N26 : Fr n0 L26 := n26 n0 N21 (Nat.le_trans Z0 (Nat.le_trans (Nat.le_refl _) le_b2))
  have m28 : h21.size ≤ h26.size := Nat.le_of_eq W26.size.symm
  have K29 := fun t k => K25 t (st26 t k)
  have K30 : Own.To p e below B0 T26 (mkF m 79 #[vl q0, .second, vi p1, vr b2] [(.int (((((q0.toUInt64 >>> ((40 : Int32) &&& 0x3f).toInt64.toUInt64).toInt64) &&& (255 : Int64)).toInt32).toUInt32.toUInt16.toUInt32.toInt32)), (.int 5), (.ref b2)]) := fun t k => K29 t (by
    refine Own.aloadN X26 hx (D d41_67) rfl rfl ?_
    refine Own.iconst X26 hx 5 (D d41_68) rfl ?_
    refine Own.lloadN X26 hx (D d41_69) rfl ?_
    refine Own.bipush X26 hx 40 (D d41_70) rfl ?_
    refine Own.lushr X26 hx (D d41_72) ?_
    refine Own.ldc2J X26 hx (255 : Int64) hZ hown (W_ hw 226 rfl) (D d41_73) ?_
    refine Own.land X26 hx (D d41_76) ?_
    refine Own.l2i X26 hx (D d41_77) ?_
    refine Own.i2c X26 hx (D d41_78) ?_
    exact k)
  obtain ⟨cx32, hcx32⟩ : ∃ z : Int32, z = nar .char (((((q0.toUInt64 >>> ((40 : Int32) &&& 0x3f).toInt64.toUInt64).toInt64) &&& (255 : Int64)).toInt32).toUInt32.toUInt16.toUInt32.toInt32) := ⟨_, rfl⟩
  obtain ⟨T31, h31, L31, X31, e31, n31, W31, V31, st31⟩ := Own.stc (Ls := #[vl q0, .second, vi p1, vr b2]) (S := []) (x := (((((q0.toUInt64 >>> ((40 : Int32) &&& 0x3f).toInt64.toUInt64).toInt64) &&& (255 : Int64)).toInt32).toUInt32.toUInt16.toUInt32.toInt32)) (j := (5 : Int32)) X26 hx hZ e26 V26 5 rfl (by decide) (show 5 < 12 by decide) (D d41_79)
  have V31 : Own.CA Z h31 b2 .char [cx7, cx12, cx17, cx22, cx27, cx32, (0 : Int32), (0 : Int32), (0 : Int32), (0 : Int32), (0 : Int32), (0 : Int32)] := (by rw [hcx32]; exact V31)
  have N31 : Fr n0 L31 := n31 n0 N26 (Nat.le_trans Z0 (Nat.le_trans (Nat.le_refl _) le_b2))
  have m33 : h26.size ≤ h31.size := Nat.le_of_eq W31.size.symm
  have K34 := fun t k => K30 t (st31 t k)
  have K35 : Own.To p e below B0 T31 (mkF m 93 #[vl q0, .second, vi p1, vr b2] [(.int (((((q0.toUInt64 >>> ((48 : Int32) &&& 0x3f).toInt64.toUInt64).toInt64) &&& (255 : Int64)).toInt32).toUInt32.toUInt16.toUInt32.toInt32)), (.int 6), (.ref b2)]) := fun t k => K34 t (by
    refine Own.aloadN X31 hx (D d41_80) rfl rfl ?_
    refine Own.bipush X31 hx 6 (D d41_81) rfl ?_
    refine Own.lloadN X31 hx (D d41_83) rfl ?_
    refine Own.bipush X31 hx 48 (D d41_84) rfl ?_
    refine Own.lushr X31 hx (D d41_86) ?_
    refine Own.ldc2J X31 hx (255 : Int64) hZ hown (W_ hw 226 rfl) (D d41_87) ?_
    refine Own.land X31 hx (D d41_90) ?_
    refine Own.l2i X31 hx (D d41_91) ?_
    refine Own.i2c X31 hx (D d41_92) ?_
    exact k)
  obtain ⟨cx37, hcx37⟩ : ∃ z : Int32, z = nar .char (((((q0.toUInt64 >>> ((48 : Int32) &&& 0x3f).toInt64.toUInt64).toInt64) &&& (255 : Int64)).toInt32).toUInt32.toUInt16.toUInt32.toInt32) := ⟨_, rfl⟩
  obtain ⟨T36, h36, L36, X36, e36, n36, W36, V36, st36⟩ := Own.stc (Ls := #[vl q0, .second, vi p1, vr b2]) (S := []) (x := (((((q0.toUInt64 >>> ((48 : Int32) &&& 0x3f).toInt64.toUInt64).toInt64) &&& (255 : Int64)).toInt32).toUInt32.toUInt16.toUInt32.toInt32)) (j := (6 : Int32)) X31 hx hZ e31 V31 6 rfl (by decide) (show 6 < 12 by decide) (D d41_93)
  have V36 : Own.CA Z h36 b2 .char [cx7, cx12, cx17, cx22, cx27, cx32, cx37, (0 : Int32), (0 : Int32), (0 : Int32), (0 : Int32), (0 : Int32)] := (by rw [hcx37]; exact V36)
  have N36 : Fr n0 L36 := n36 n0 N31 (Nat.le_trans Z0 (Nat.le_trans (Nat.le_refl _) le_b2))
  have m38 : h31.size ≤ h36.size := Nat.le_of_eq W36.size.symm
  have K39 := fun t k => K35 t (st36 t k)
  have K40 : Own.To p e below B0 T36 (mkF m 107 #[vl q0, .second, vi p1, vr b2] [(.int (((((q0.toUInt64 >>> ((56 : Int32) &&& 0x3f).toInt64.toUInt64).toInt64) &&& (255 : Int64)).toInt32).toUInt32.toUInt16.toUInt32.toInt32)), (.int 7), (.ref b2)]) := fun t k => K39 t (by
    refine Own.aloadN X36 hx (D d41_94) rfl rfl ?_
    refine Own.bipush X36 hx 7 (D d41_95) rfl ?_
    refine Own.lloadN X36 hx (D d41_97) rfl ?_
    refine Own.bipush X36 hx 56 (D d41_98) rfl ?_
    refine Own.lushr X36 hx (D d41_100) ?_
    refine Own.ldc2J X36 hx (255 : Int64) hZ hown (W_ hw 226 rfl) (D d41_101) ?_
    refine Own.land X36 hx (D d41_104) ?_
    refine Own.l2i X36 hx (D d41_105) ?_
    refine Own.i2c X36 hx (D d41_106) ?_
    exact k)
  obtain ⟨cx42, hcx42⟩ : ∃ z : Int32, z = nar .char (((((q0.toUInt64 >>> ((56 : Int32) &&& 0x3f).toInt64.toUInt64).toInt64) &&& (255 : Int64)).toInt32).toUInt32.toUInt16.toUInt32.toInt32) := ⟨_, rfl⟩
  obtain ⟨T41, h41, L41, X41, e41, n41, W41, V41, st41⟩ := Own.stc (Ls := #[vl q0, .second, vi p1, vr b2]) (S := []) (x := (((((q0.toUInt64 >>> ((56 : Int32) &&& 0x3f).toInt64.toUInt64).toInt64) &&& (255 : Int64)).toInt32).toUInt32.toUInt16.toUInt32.toInt32)) (j := (7 : Int32)) X36 hx hZ e36 V36 7 rfl (by decide) (show 7 < 12 by decide) (D d41_107)
  have V41 : Own.CA Z h41 b2 .char [cx7, cx12, cx17, cx22, cx27, cx32, cx37, cx42, (0 : Int32), (0 : Int32), (0 : Int32), (0 : Int32)] := (by rw [hcx42]; exact V41)
  have N41 : Fr n0 L41 := n41 n0 N36 (Nat.le_trans Z0 (Nat.le_trans (Nat.le_refl _) le_b2))
  have m43 : h36.size ≤ h41.size := Nat.le_of_eq W41.size.symm
  have K44 := fun t k => K40 t (st41 t k)
  have K45 : Own.To p e below B0 T41 (mkF m 117 #[vl q0, .second, vi p1, vr b2] [(.int ((p1 &&& (255 : Int32)).toUInt32.toUInt16.toUInt32.toInt32)), (.int 8), (.ref b2)]) := fun t k => K44 t (by
    refine Own.aloadN X41 hx (D d41_108) rfl rfl ?_
    refine Own.bipush X41 hx 8 (D d41_109) rfl ?_
    refine Own.iloadN X41 hx (D d41_111) rfl ?_
    refine Own.sipush X41 hx 255 (D d41_112) rfl ?_
    refine Own.iand X41 hx (D d41_115) ?_
    refine Own.i2c X41 hx (D d41_116) ?_
    exact k)
  obtain ⟨cx47, hcx47⟩ : ∃ z : Int32, z = nar .char ((p1 &&& (255 : Int32)).toUInt32.toUInt16.toUInt32.toInt32) := ⟨_, rfl⟩
  obtain ⟨T46, h46, L46, X46, e46, n46, W46, V46, st46⟩ := Own.stc (Ls := #[vl q0, .second, vi p1, vr b2]) (S := []) (x := ((p1 &&& (255 : Int32)).toUInt32.toUInt16.toUInt32.toInt32)) (j := (8 : Int32)) X41 hx hZ e41 V41 8 rfl (by decide) (show 8 < 12 by decide) (D d41_117)
  have V46 : Own.CA Z h46 b2 .char [cx7, cx12, cx17, cx22, cx27, cx32, cx37, cx42, cx47, (0 : Int32), (0 : Int32), (0 : Int32)] := (by rw [hcx47]; exact V46)
  have N46 : Fr n0 L46 := n46 n0 N41 (Nat.le_trans Z0 (Nat.le_trans (Nat.le_refl _) le_b2))
  have m48 : h41.size ≤ h46.size := Nat.le_of_eq W46.size.symm
  have K49 := fun t k => K45 t (st46 t k)
  have K50 : Own.To p e below B0 T46 (mkF m 130 #[vl q0, .second, vi p1, vr b2] [(.int ((((p1.toUInt32 >>> ((8 : Int32) &&& 31).toUInt32).toInt32) &&& (255 : Int32)).toUInt32.toUInt16.toUInt32.toInt32)), (.int 9), (.ref b2)]) := fun t k => K49 t (by
    refine Own.aloadN X46 hx (D d41_118) rfl rfl ?_
    refine Own.bipush X46 hx 9 (D d41_119) rfl ?_
    refine Own.iloadN X46 hx (D d41_121) rfl ?_
    refine Own.bipush X46 hx 8 (D d41_122) rfl ?_
    refine Own.iushr X46 hx (D d41_124) ?_
    refine Own.sipush X46 hx 255 (D d41_125) rfl ?_
    refine Own.iand X46 hx (D d41_128) ?_
    refine Own.i2c X46 hx (D d41_129) ?_
    exact k)
  obtain ⟨cx52, hcx52⟩ : ∃ z : Int32, z = nar .char ((((p1.toUInt32 >>> ((8 : Int32) &&& 31).toUInt32).toInt32) &&& (255 : Int32)).toUInt32.toUInt16.toUInt32.toInt32) := ⟨_, rfl⟩
  obtain ⟨T51, h51, L51, X51, e51, n51, W51, V51, st51⟩ := Own.stc (Ls := #[vl q0, .second, vi p1, vr b2]) (S := []) (x := ((((p1.toUInt32 >>> ((8 : Int32) &&& 31).toUInt32).toInt32) &&& (255 : Int32)).toUInt32.toUInt16.toUInt32.toInt32)) (j := (9 : Int32)) X46 hx hZ e46 V46 9 rfl (by decide) (show 9 < 12 by decide) (D d41_130)
  have V51 : Own.CA Z h51 b2 .char [cx7, cx12, cx17, cx22, cx27, cx32, cx37, cx42, cx47, cx52, (0 : Int32), (0 : Int32)] := (by rw [hcx52]; exact V51)
  have N51 : Fr n0 L51 := n51 n0 N46 (Nat.le_trans Z0 (Nat.le_trans (Nat.le_refl _) le_b2))
  have m53 : h46.size ≤ h51.size := Nat.le_of_eq W51.size.symm
  have K54 := fun t k => K50 t (st51 t k)
  have K55 : Own.To p e below B0 T51 (mkF m 143 #[vl q0, .second, vi p1, vr b2] [(.int ((((p1.toUInt32 >>> ((16 : Int32) &&& 31).toUInt32).toInt32) &&& (255 : Int32)).toUInt32.toUInt16.toUInt32.toInt32)), (.int 10), (.ref b2)]) := fun t k => K54 t (by
    refine Own.aloadN X51 hx (D d41_131) rfl rfl ?_
    refine Own.bipush X51 hx 10 (D d41_132) rfl ?_
    refine Own.iloadN X51 hx (D d41_134) rfl ?_
    refine Own.bipush X51 hx 16 (D d41_135) rfl ?_
    refine Own.iushr X51 hx (D d41_137) ?_
    refine Own.sipush X51 hx 255 (D d41_138) rfl ?_
    refine Own.iand X51 hx (D d41_141) ?_
    refine Own.i2c X51 hx (D d41_142) ?_
    exact k)
  obtain ⟨cx57, hcx57⟩ : ∃ z : Int32, z = nar .char ((((p1.toUInt32 >>> ((16 : Int32) &&& 31).toUInt32).toInt32) &&& (255 : Int32)).toUInt32.toUInt16.toUInt32.toInt32) := ⟨_, rfl⟩
  obtain ⟨T56, h56, L56, X56, e56, n56, W56, V56, st56⟩ := Own.stc (Ls := #[vl q0, .second, vi p1, vr b2]) (S := []) (x := ((((p1.toUInt32 >>> ((16 : Int32) &&& 31).toUInt32).toInt32) &&& (255 : Int32)).toUInt32.toUInt16.toUInt32.toInt32)) (j := (10 : Int32)) X51 hx hZ e51 V51 10 rfl (by decide) (show 10 < 12 by decide) (D d41_143)
  have V56 : Own.CA Z h56 b2 .char [cx7, cx12, cx17, cx22, cx27, cx32, cx37, cx42, cx47, cx52, cx57, (0 : Int32)] := (by rw [hcx57]; exact V56)
  have N56 : Fr n0 L56 := n56 n0 N51 (Nat.le_trans Z0 (Nat.le_trans (Nat.le_refl _) le_b2))
  have m58 : h51.size ≤ h56.size := Nat.le_of_eq W56.size.symm
  have K59 := fun t k => K55 t (st56 t k)
  have K60 : Own.To p e below B0 T56 (mkF m 156 #[vl q0, .second, vi p1, vr b2] [(.int ((((p1.toUInt32 >>> ((24 : Int32) &&& 31).toUInt32).toInt32) &&& (255 : Int32)).toUInt32.toUInt16.toUInt32.toInt32)), (.int 11), (.ref b2)]) := fun t k => K59 t (by
    refine Own.aloadN X56 hx (D d41_144) rfl rfl ?_
    refine Own.bipush X56 hx 11 (D d41_145) rfl ?_
    refine Own.iloadN X56 hx (D d41_147) rfl ?_
    refine Own.bipush X56 hx 24 (D d41_148) rfl ?_
    refine Own.iushr X56 hx (D d41_150) ?_
    refine Own.sipush X56 hx 255 (D d41_151) rfl ?_
    refine Own.iand X56 hx (D d41_154) ?_
    refine Own.i2c X56 hx (D d41_155) ?_
    exact k)
  obtain ⟨cx62, hcx62⟩ : ∃ z : Int32, z = nar .char ((((p1.toUInt32 >>> ((24 : Int32) &&& 31).toUInt32).toInt32) &&& (255 : Int32)).toUInt32.toUInt16.toUInt32.toInt32) := ⟨_, rfl⟩
  obtain ⟨T61, h61, L61, X61, e61, n61, W61, V61, st61⟩ := Own.stc (Ls := #[vl q0, .second, vi p1, vr b2]) (S := []) (x := ((((p1.toUInt32 >>> ((24 : Int32) &&& 31).toUInt32).toInt32) &&& (255 : Int32)).toUInt32.toUInt16.toUInt32.toInt32)) (j := (11 : Int32)) X56 hx hZ e56 V56 11 rfl (by decide) (show 11 < 12 by decide) (D d41_156)
  have V61 : Own.CA Z h61 b2 .char [cx7, cx12, cx17, cx22, cx27, cx32, cx37, cx42, cx47, cx52, cx57, cx62] := (by rw [hcx62]; exact V61)
  have N61 : Fr n0 L61 := n61 n0 N56 (Nat.le_trans Z0 (Nat.le_trans (Nat.le_refl _) le_b2))
  have m63 : h56.size ≤ h61.size := Nat.le_of_eq W61.size.symm
  have K64 := fun t k => K60 t (st61 t k)
  have K65 : Own.To p e below B0 T61 (mkF m 158 #[vl q0, .second, vi p1, vr b2] [(.ref b2)]) := fun t k => K64 t (by
    refine Own.aloadN X61 hx (D d41_157) rfl rfl ?_
    exact k)
  have kp := ((((((((((((((Keep.refl h0 []).ext E2).wr W6 (Or.inr le_b2)).wr W11 (Or.inr le_b2)).wr W16 (Or.inr le_b2)).wr W21 (Or.inr le_b2)).wr W26 (Or.inr le_b2)).wr W31 (Or.inr le_b2)).wr W36 (Or.inr le_b2)).wr W41 (Or.inr le_b2)).wr W46 (Or.inr le_b2)).wr W51 (Or.inr le_b2)).wr W56 (Or.inr le_b2)).wr W61 (Or.inr le_b2))
  exact Own.finA X61 hx (BodyLoose.notSynchronized Bd) Bd.returns rfl rfl (D d41_158) K65 (by decide) (by decide) (by rw [e61]; exact ⟨_, rfl, le_b2, N61, kp, by subst hcx62; subst hcx57; subst hcx52; subst hcx47; subst hcx42; subst hcx37; subst hcx32; subst hcx27; subst hcx22; subst hcx17; subst hcx12; subst hcx7; exact V61⟩)

theorem d42_0 : decode J36 0 = .ok (.iload_n 2, 1) := by decide +kernel
theorem d42_1 : decode J36 1 = .ok (.ifCond .le 7, 3) := by decide +kernel
theorem d42_4 : decode J36 4 = .ok (.aload_n 0, 1) := by decide +kernel
theorem d42_5 : decode J36 5 = .ok (.iload_n 1, 1) := by decide +kernel
theorem d42_6 : decode J36 6 = .ok (.iload_n 3, 1) := by decide +kernel
theorem d42_7 : decode J36 7 = .ok (.castore, 1) := by decide +kernel
theorem d42_8 : decode J36 8 = .ok (.iload_n 2, 1) := by decide +kernel
theorem d42_9 : decode J36 9 = .ok (.iconst 1, 1) := by decide +kernel
theorem d42_10 : decode J36 10 = .ok (.if_icmp .le 10, 3) := by decide +kernel
theorem d42_13 : decode J36 13 = .ok (.aload_n 0, 1) := by decide +kernel
theorem d42_14 : decode J36 14 = .ok (.iload_n 1, 1) := by decide +kernel
theorem d42_15 : decode J36 15 = .ok (.iconst 1, 1) := by decide +kernel
theorem d42_16 : decode J36 16 = .ok (.iadd, 1) := by decide +kernel
theorem d42_17 : decode J36 17 = .ok (.iload 4, 2) := by decide +kernel
theorem d42_19 : decode J36 19 = .ok (.castore, 1) := by decide +kernel
theorem d42_20 : decode J36 20 = .ok (.iload_n 2, 1) := by decide +kernel
theorem d42_21 : decode J36 21 = .ok (.iconst 2, 1) := by decide +kernel
theorem d42_22 : decode J36 22 = .ok (.if_icmp .le 10, 3) := by decide +kernel
theorem d42_25 : decode J36 25 = .ok (.aload_n 0, 1) := by decide +kernel
theorem d42_26 : decode J36 26 = .ok (.iload_n 1, 1) := by decide +kernel
theorem d42_27 : decode J36 27 = .ok (.iconst 2, 1) := by decide +kernel
theorem d42_28 : decode J36 28 = .ok (.iadd, 1) := by decide +kernel
theorem d42_29 : decode J36 29 = .ok (.iload 5, 2) := by decide +kernel
theorem d42_31 : decode J36 31 = .ok (.castore, 1) := by decide +kernel
theorem d42_32 : decode J36 32 = .ok (.return_, 1) := by decide +kernel
theorem ef_42 (m : MethodId) (o0 : Addr) (p1 : Int32) (p2 : Int32) (p3 : Int32) (p4 : Int32) (p5 : Int32) : entryFrame m #[(.ref o0), (.int p1), (.int p2), (.int p3), (.int p4), (.int p5)] 6 = mkF m 0 #[.val (.ref o0), .val (.int p1), .val (.int p2), .val (.int p3), .val (.int p4), .val (.int p5)] [] := by first | (simp [entryFrame, mkF, argsToLocals, Value.category]; done) | rfl
set_option maxRecDepth 65536 in
set_option maxHeartbeats 40000000 in
theorem cPS0 (l : Launch) (Z : State) (a0 : Array Value) (hw : ∀ d ∈ tables_1, d.before a0 Z = true) (o0 : Addr) (p1 : Int32) (p3 : Int32) (p4 : Int32) (p5 : Int32) (n0 : Nat) (j : Nat) (xs : List Int32) (h0 : Heap) (Z0 : n0 ≤ h0.size) (AX : Own.CA Z h0 o0 .char xs) (hxs : xs.length = 12) (hp1 : p1 = Int32.ofNat j) (hj : j ≤ 6) (g0 : n0 ≤ o0) (hbp3 : own_ok p3) (hbp4 : own_ok p4) (hbp5 : own_ok p5) : Own.Con l Z (⟨"com/example/stemshear/stemshear/RuleApplyPinLaw", "putSuffix", "([CIICCC)V"⟩ : MethodName) method_6_code 6 none ({ frames := 0, cells := 0, slots := 0, locals := 0 } : Room) #[(.ref o0), (.int p1), (.int 0), (.int p3), (.int p4), (.int p5)] h0 (fun v h L => v = none ∧ Fr n0 L ∧ Keep h0 h [o0] ∧ Own.CA Z h o0 .char (own_pl (own_mk 0 p3 p4 p5) xs j)) := by
  intro ws
  refine MetFree.of_bodySF (plainFor_of_name pn_7) hisR ?_
  intro p e s m args below meth c s₁ Bd hml0 hP hK
  obtain ⟨rfl, hZ, hh⟩ := hP
  have hx := Bd.exec
  have hby := Bd.bytes
  have D := fun {n : Nat} {i} (d : decode method_6_code n = .ok i) => hb hby d
  have hml : c.maxLocals = 6 := hml0
  have hown : s.vm.findClass "com/example/stemshear/stemshear/RuleApplyPinLaw" = some m.cls := findClass_of_methodNamed Bd.named
  have hnm := (name_of_methodNamed Bd.named Bd.method).1
  have X0 : Stand p l e ({ frames := 0, cells := 0, slots := 0, locals := 0 } : Room) s m #[(.ref o0), (.int p1), (.int 0), (.int p3), (.int p4), (.int p5)] below meth c s₁ [] 0 0 := Stand.of_body Bd
  have e0 : s₁.heap = h0 := by rw [← hh, Bd.state]; rfl
  have K0 : ∀ t, Steps p.tables e below (s₁.setTop (mkF m 0 #[vr o0, vi p1, vi 0, vi p3, vi p4, vi p5] [])) t → Steps p.tables e below (s₁.setTop (entryFrame m #[(.ref o0), (.int p1), (.int 0), (.int p3), (.int p4), (.int p5)] 6)) t := fun t k => castTop (ef_42 m o0 p1 (0 : Int32) p3 p4 p5) k
  generalize s₁.setTop (entryFrame m #[(.ref o0), (.int p1), (.int 0), (.int p3), (.int p4), (.int p5)] 6) = B0 at K0 ⊢
  show Own.Fin p e below B0 s (({ frames := 0, cells := 0, slots := 0, locals := 0 } : Room)).cells (({ frames := 0, cells := 0, slots := 0, locals := 0 } : Room)).slots (fun v h L => v = none ∧ Fr n0 L ∧ Keep h0 h [o0] ∧ Own.CA Z h o0 .char (own_pl (own_mk 0 p3 p4 p5) xs j))
  have K1 : Own.To p e below B0 s₁ (mkF m 1 #[vr o0, vi p1, vi 0, vi p3, vi p4, vi p5] [(.int 0)]) := fun t k => K0 t (by
    refine Own.iloadN X0 hx (D d42_0) rfl ?_
    exact k)
  have K2 : Own.To p e below B0 s₁ (mkF m 10 #[vr o0, vi p1, vi 0, vi p3, vi p4, vi p5] [(.int 1), (.int 0)]) := fun t k => K1 t (by
    refine Own.ifYes X0 hx 8 (D d42_1) ((if0 _ _).trans (flt (by decide : ¬ ((0 : Int32) < (0 : Int32)))).2.2.2) (by decide) (by decide) ?_
    refine Own.iloadN X0 hx (D d42_8) rfl ?_
    refine Own.iconst X0 hx 1 (D d42_9) rfl ?_
    exact k)
  have K3 : Own.To p e below B0 s₁ (mkF m 22 #[vr o0, vi p1, vi 0, vi p3, vi p4, vi p5] [(.int 2), (.int 0)]) := fun t k => K2 t (by
    refine Own.icmpYes X0 hx 20 (D d42_10) (flt (by decide : ¬ ((1 : Int32) < (0 : Int32)))).2.2.2 (by decide) (by decide) ?_
    refine Own.iloadN X0 hx (D d42_20) rfl ?_
    refine Own.iconst X0 hx 2 (D d42_21) rfl ?_
    exact k)
  have K4 : Own.To p e below B0 s₁ (mkF m 32 #[vr o0, vi p1, vi 0, vi p3, vi p4, vi p5] []) := fun t k => K3 t (by
    refine Own.icmpYes X0 hx 32 (D d42_22) (flt (by decide : ¬ ((2 : Int32) < (0 : Int32)))).2.2.2 (by decide) (by decide) ?_
    exact k)
  have kp := (Keep.refl h0 [o0])
  exact Own.finV X0 hx (BodyLoose.notSynchronized Bd) Bd.returns (D d42_32) K4 (by decide) (by decide) (by rw [e0]; exact ⟨rfl, Fr.nil _, kp, AX⟩)

set_option maxRecDepth 65536 in
set_option maxHeartbeats 40000000 in
theorem cPS1 (l : Launch) (Z : State) (a0 : Array Value) (hw : ∀ d ∈ tables_1, d.before a0 Z = true) (o0 : Addr) (p1 : Int32) (p3 : Int32) (p4 : Int32) (p5 : Int32) (n0 : Nat) (j : Nat) (xs : List Int32) (h0 : Heap) (Z0 : n0 ≤ h0.size) (AX : Own.CA Z h0 o0 .char xs) (hxs : xs.length = 12) (hp1 : p1 = Int32.ofNat j) (hj : j ≤ 6) (g0 : n0 ≤ o0) (hbp3 : own_ok p3) (hbp4 : own_ok p4) (hbp5 : own_ok p5) : Own.Con l Z (⟨"com/example/stemshear/stemshear/RuleApplyPinLaw", "putSuffix", "([CIICCC)V"⟩ : MethodName) method_6_code 6 none ({ frames := 0, cells := 0, slots := 0, locals := 0 } : Room) #[(.ref o0), (.int p1), (.int 1), (.int p3), (.int p4), (.int p5)] h0 (fun v h L => v = none ∧ Fr n0 L ∧ Keep h0 h [o0] ∧ Own.CA Z h o0 .char (own_pl (own_mk 1 p3 p4 p5) xs j)) := by
  intro ws
  refine MetFree.of_bodySF (plainFor_of_name pn_7) hisR ?_
  intro p e s m args below meth c s₁ Bd hml0 hP hK
  obtain ⟨rfl, hZ, hh⟩ := hP
  have hx := Bd.exec
  have hby := Bd.bytes
  have D := fun {n : Nat} {i} (d : decode method_6_code n = .ok i) => hb hby d
  have hml : c.maxLocals = 6 := hml0
  have hown : s.vm.findClass "com/example/stemshear/stemshear/RuleApplyPinLaw" = some m.cls := findClass_of_methodNamed Bd.named
  have hnm := (name_of_methodNamed Bd.named Bd.method).1
  have X0 : Stand p l e ({ frames := 0, cells := 0, slots := 0, locals := 0 } : Room) s m #[(.ref o0), (.int p1), (.int 1), (.int p3), (.int p4), (.int p5)] below meth c s₁ [] 0 0 := Stand.of_body Bd
  have e0 : s₁.heap = h0 := by rw [← hh, Bd.state]; rfl
  have K0 : ∀ t, Steps p.tables e below (s₁.setTop (mkF m 0 #[vr o0, vi p1, vi 1, vi p3, vi p4, vi p5] [])) t → Steps p.tables e below (s₁.setTop (entryFrame m #[(.ref o0), (.int p1), (.int 1), (.int p3), (.int p4), (.int p5)] 6)) t := fun t k => castTop (ef_42 m o0 p1 (1 : Int32) p3 p4 p5) k
  generalize s₁.setTop (entryFrame m #[(.ref o0), (.int p1), (.int 1), (.int p3), (.int p4), (.int p5)] 6) = B0 at K0 ⊢
  show Own.Fin p e below B0 s (({ frames := 0, cells := 0, slots := 0, locals := 0 } : Room)).cells (({ frames := 0, cells := 0, slots := 0, locals := 0 } : Room)).slots (fun v h L => v = none ∧ Fr n0 L ∧ Keep h0 h [o0] ∧ Own.CA Z h o0 .char (own_pl (own_mk 1 p3 p4 p5) xs j))
  have K1 : Own.To p e below B0 s₁ (mkF m 1 #[vr o0, vi p1, vi 1, vi p3, vi p4, vi p5] [(.int 1)]) := fun t k => K0 t (by
    refine Own.iloadN X0 hx (D d42_0) rfl ?_
    exact k)
  have K2 : Own.To p e below B0 s₁ (mkF m 7 #[vr o0, vi p1, vi 1, vi p3, vi p4, vi p5] [(.int p3), (.int p1), (.ref o0)]) := fun t k => K1 t (by
    refine Own.ifNo X0 hx (D d42_1) ((if0 _ _).trans (tlt (by decide : (0 : Int32) < (1 : Int32))).2.2.2) ?_
    refine Own.aloadN X0 hx (D d42_4) rfl rfl ?_
    refine Own.iloadN X0 hx (D d42_5) rfl ?_
    refine Own.iloadN X0 hx (D d42_6) rfl ?_
    exact k)
  obtain ⟨T3, h3, L3, X3, e3, n3, W3, V3, st3⟩ := Own.stc (Ls := #[vr o0, vi p1, vi 1, vi p3, vi p4, vi p5]) (S := []) (x := p3) (j := p1) X0 hx hZ e0 AX j (own_j0 hp1 (by omega)).1 (own_j0 hp1 (by omega)).2 (by (try simp only [List.length_set]); omega) (D d42_7)
  rw [own_narb hbp3] at V3
  have N3 : Fr n0 L3 := n3 n0 (Fr.nil _) g0
  have m4 : h0.size ≤ h3.size := Nat.le_of_eq W3.size.symm
  have K5 := fun t k => K2 t (st3 t k)
  have K6 : Own.To p e below B0 T3 (mkF m 10 #[vr o0, vi p1, vi 1, vi p3, vi p4, vi p5] [(.int 1), (.int 1)]) := fun t k => K5 t (by
    refine Own.iloadN X3 hx (D d42_8) rfl ?_
    refine Own.iconst X3 hx 1 (D d42_9) rfl ?_
    exact k)
  have K7 : Own.To p e below B0 T3 (mkF m 22 #[vr o0, vi p1, vi 1, vi p3, vi p4, vi p5] [(.int 2), (.int 1)]) := fun t k => K6 t (by
    refine Own.icmpYes X3 hx 20 (D d42_10) (flt (by decide : ¬ ((1 : Int32) < (1 : Int32)))).2.2.2 (by decide) (by decide) ?_
    refine Own.iloadN X3 hx (D d42_20) rfl ?_
    refine Own.iconst X3 hx 2 (D d42_21) rfl ?_
    exact k)
  have K8 : Own.To p e below B0 T3 (mkF m 32 #[vr o0, vi p1, vi 1, vi p3, vi p4, vi p5] []) := fun t k => K7 t (by
    refine Own.icmpYes X3 hx 32 (D d42_22) (flt (by decide : ¬ ((2 : Int32) < (1 : Int32)))).2.2.2 (by decide) (by decide) ?_
    exact k)
  have kp := ((Keep.refl h0 [o0]).wr W3 (Or.inl (List.mem_of_getElem? (i := 0) rfl)))
  exact Own.finV X3 hx (BodyLoose.notSynchronized Bd) Bd.returns (D d42_32) K8 (by decide) (by decide) (by rw [e3]; exact ⟨rfl, N3, kp, V3⟩)

set_option maxRecDepth 65536 in
set_option maxHeartbeats 40000000 in
theorem cPS2 (l : Launch) (Z : State) (a0 : Array Value) (hw : ∀ d ∈ tables_1, d.before a0 Z = true) (o0 : Addr) (p1 : Int32) (p3 : Int32) (p4 : Int32) (p5 : Int32) (n0 : Nat) (j : Nat) (xs : List Int32) (h0 : Heap) (Z0 : n0 ≤ h0.size) (AX : Own.CA Z h0 o0 .char xs) (hxs : xs.length = 12) (hp1 : p1 = Int32.ofNat j) (hj : j ≤ 6) (g0 : n0 ≤ o0) (hbp3 : own_ok p3) (hbp4 : own_ok p4) (hbp5 : own_ok p5) : Own.Con l Z (⟨"com/example/stemshear/stemshear/RuleApplyPinLaw", "putSuffix", "([CIICCC)V"⟩ : MethodName) method_6_code 6 none ({ frames := 0, cells := 0, slots := 0, locals := 0 } : Room) #[(.ref o0), (.int p1), (.int 2), (.int p3), (.int p4), (.int p5)] h0 (fun v h L => v = none ∧ Fr n0 L ∧ Keep h0 h [o0] ∧ Own.CA Z h o0 .char (own_pl (own_mk 2 p3 p4 p5) xs j)) := by
  intro ws
  refine MetFree.of_bodySF (plainFor_of_name pn_7) hisR ?_
  intro p e s m args below meth c s₁ Bd hml0 hP hK
  obtain ⟨rfl, hZ, hh⟩ := hP
  have hx := Bd.exec
  have hby := Bd.bytes
  have D := fun {n : Nat} {i} (d : decode method_6_code n = .ok i) => hb hby d
  have hml : c.maxLocals = 6 := hml0
  have hown : s.vm.findClass "com/example/stemshear/stemshear/RuleApplyPinLaw" = some m.cls := findClass_of_methodNamed Bd.named
  have hnm := (name_of_methodNamed Bd.named Bd.method).1
  have X0 : Stand p l e ({ frames := 0, cells := 0, slots := 0, locals := 0 } : Room) s m #[(.ref o0), (.int p1), (.int 2), (.int p3), (.int p4), (.int p5)] below meth c s₁ [] 0 0 := Stand.of_body Bd
  have e0 : s₁.heap = h0 := by rw [← hh, Bd.state]; rfl
  have K0 : ∀ t, Steps p.tables e below (s₁.setTop (mkF m 0 #[vr o0, vi p1, vi 2, vi p3, vi p4, vi p5] [])) t → Steps p.tables e below (s₁.setTop (entryFrame m #[(.ref o0), (.int p1), (.int 2), (.int p3), (.int p4), (.int p5)] 6)) t := fun t k => castTop (ef_42 m o0 p1 (2 : Int32) p3 p4 p5) k
  generalize s₁.setTop (entryFrame m #[(.ref o0), (.int p1), (.int 2), (.int p3), (.int p4), (.int p5)] 6) = B0 at K0 ⊢
  show Own.Fin p e below B0 s (({ frames := 0, cells := 0, slots := 0, locals := 0 } : Room)).cells (({ frames := 0, cells := 0, slots := 0, locals := 0 } : Room)).slots (fun v h L => v = none ∧ Fr n0 L ∧ Keep h0 h [o0] ∧ Own.CA Z h o0 .char (own_pl (own_mk 2 p3 p4 p5) xs j))
  have K1 : Own.To p e below B0 s₁ (mkF m 1 #[vr o0, vi p1, vi 2, vi p3, vi p4, vi p5] [(.int 2)]) := fun t k => K0 t (by
    refine Own.iloadN X0 hx (D d42_0) rfl ?_
    exact k)
  have K2 : Own.To p e below B0 s₁ (mkF m 7 #[vr o0, vi p1, vi 2, vi p3, vi p4, vi p5] [(.int p3), (.int p1), (.ref o0)]) := fun t k => K1 t (by
    refine Own.ifNo X0 hx (D d42_1) ((if0 _ _).trans (tlt (by decide : (0 : Int32) < (2 : Int32))).2.2.2) ?_
    refine Own.aloadN X0 hx (D d42_4) rfl rfl ?_
    refine Own.iloadN X0 hx (D d42_5) rfl ?_
    refine Own.iloadN X0 hx (D d42_6) rfl ?_
    exact k)
  obtain ⟨T3, h3, L3, X3, e3, n3, W3, V3, st3⟩ := Own.stc (Ls := #[vr o0, vi p1, vi 2, vi p3, vi p4, vi p5]) (S := []) (x := p3) (j := p1) X0 hx hZ e0 AX j (own_j0 hp1 (by omega)).1 (own_j0 hp1 (by omega)).2 (by (try simp only [List.length_set]); omega) (D d42_7)
  rw [own_narb hbp3] at V3
  have N3 : Fr n0 L3 := n3 n0 (Fr.nil _) g0
  have m4 : h0.size ≤ h3.size := Nat.le_of_eq W3.size.symm
  have K5 := fun t k => K2 t (st3 t k)
  have K6 : Own.To p e below B0 T3 (mkF m 10 #[vr o0, vi p1, vi 2, vi p3, vi p4, vi p5] [(.int 1), (.int 2)]) := fun t k => K5 t (by
    refine Own.iloadN X3 hx (D d42_8) rfl ?_
    refine Own.iconst X3 hx 1 (D d42_9) rfl ?_
    exact k)
  have K7 : Own.To p e below B0 T3 (mkF m 19 #[vr o0, vi p1, vi 2, vi p3, vi p4, vi p5] [(.int p4), (.int (p1 + (1 : Int32))), (.ref o0)]) := fun t k => K6 t (by
    refine Own.icmpNo X3 hx (D d42_10) (tlt (by decide : (1 : Int32) < (2 : Int32))).2.2.2 ?_
    refine Own.aloadN X3 hx (D d42_13) rfl rfl ?_
    refine Own.iloadN X3 hx (D d42_14) rfl ?_
    refine Own.iconst X3 hx 1 (D d42_15) rfl ?_
    refine Own.iadd X3 hx (D d42_16) ?_
    refine Own.iload X3 hx (D d42_17) rfl ?_
    exact k)
  obtain ⟨T8, h8, L8, X8, e8, n8, W8, V8, st8⟩ := Own.stc (Ls := #[vr o0, vi p1, vi 2, vi p3, vi p4, vi p5]) (S := []) (x := p4) (j := (p1 + (1 : Int32))) X3 hx hZ e3 V3 (j + 1) (own_jx (d := 1) hp1 (by omega)).1 (own_jx (d := 1) hp1 (by omega)).2 (by (try simp only [List.length_set]); omega) (D d42_19)
  rw [own_narb hbp4] at V8
  have N8 : Fr n0 L8 := n8 n0 N3 g0
  have m9 : h3.size ≤ h8.size := Nat.le_of_eq W8.size.symm
  have K10 := fun t k => K7 t (st8 t k)
  have K11 : Own.To p e below B0 T8 (mkF m 22 #[vr o0, vi p1, vi 2, vi p3, vi p4, vi p5] [(.int 2), (.int 2)]) := fun t k => K10 t (by
    refine Own.iloadN X8 hx (D d42_20) rfl ?_
    refine Own.iconst X8 hx 2 (D d42_21) rfl ?_
    exact k)
  have K12 : Own.To p e below B0 T8 (mkF m 32 #[vr o0, vi p1, vi 2, vi p3, vi p4, vi p5] []) := fun t k => K11 t (by
    refine Own.icmpYes X8 hx 32 (D d42_22) (flt (by decide : ¬ ((2 : Int32) < (2 : Int32)))).2.2.2 (by decide) (by decide) ?_
    exact k)
  have kp := (((Keep.refl h0 [o0]).wr W3 (Or.inl (List.mem_of_getElem? (i := 0) rfl))).wr W8 (Or.inl (List.mem_of_getElem? (i := 0) rfl)))
  exact Own.finV X8 hx (BodyLoose.notSynchronized Bd) Bd.returns (D d42_32) K12 (by decide) (by decide) (by rw [e8]; exact ⟨rfl, N8, kp, V8⟩)

set_option maxRecDepth 65536 in
set_option maxHeartbeats 40000000 in
theorem cPS3 (l : Launch) (Z : State) (a0 : Array Value) (hw : ∀ d ∈ tables_1, d.before a0 Z = true) (o0 : Addr) (p1 : Int32) (p3 : Int32) (p4 : Int32) (p5 : Int32) (n0 : Nat) (j : Nat) (xs : List Int32) (h0 : Heap) (Z0 : n0 ≤ h0.size) (AX : Own.CA Z h0 o0 .char xs) (hxs : xs.length = 12) (hp1 : p1 = Int32.ofNat j) (hj : j ≤ 6) (g0 : n0 ≤ o0) (hbp3 : own_ok p3) (hbp4 : own_ok p4) (hbp5 : own_ok p5) : Own.Con l Z (⟨"com/example/stemshear/stemshear/RuleApplyPinLaw", "putSuffix", "([CIICCC)V"⟩ : MethodName) method_6_code 6 none ({ frames := 0, cells := 0, slots := 0, locals := 0 } : Room) #[(.ref o0), (.int p1), (.int 3), (.int p3), (.int p4), (.int p5)] h0 (fun v h L => v = none ∧ Fr n0 L ∧ Keep h0 h [o0] ∧ Own.CA Z h o0 .char (own_pl (own_mk 3 p3 p4 p5) xs j)) := by
  intro ws
  refine MetFree.of_bodySF (plainFor_of_name pn_7) hisR ?_
  intro p e s m args below meth c s₁ Bd hml0 hP hK
  obtain ⟨rfl, hZ, hh⟩ := hP
  have hx := Bd.exec
  have hby := Bd.bytes
  have D := fun {n : Nat} {i} (d : decode method_6_code n = .ok i) => hb hby d
  have hml : c.maxLocals = 6 := hml0
  have hown : s.vm.findClass "com/example/stemshear/stemshear/RuleApplyPinLaw" = some m.cls := findClass_of_methodNamed Bd.named
  have hnm := (name_of_methodNamed Bd.named Bd.method).1
  have X0 : Stand p l e ({ frames := 0, cells := 0, slots := 0, locals := 0 } : Room) s m #[(.ref o0), (.int p1), (.int 3), (.int p3), (.int p4), (.int p5)] below meth c s₁ [] 0 0 := Stand.of_body Bd
  have e0 : s₁.heap = h0 := by rw [← hh, Bd.state]; rfl
  have K0 : ∀ t, Steps p.tables e below (s₁.setTop (mkF m 0 #[vr o0, vi p1, vi 3, vi p3, vi p4, vi p5] [])) t → Steps p.tables e below (s₁.setTop (entryFrame m #[(.ref o0), (.int p1), (.int 3), (.int p3), (.int p4), (.int p5)] 6)) t := fun t k => castTop (ef_42 m o0 p1 (3 : Int32) p3 p4 p5) k
  generalize s₁.setTop (entryFrame m #[(.ref o0), (.int p1), (.int 3), (.int p3), (.int p4), (.int p5)] 6) = B0 at K0 ⊢
  show Own.Fin p e below B0 s (({ frames := 0, cells := 0, slots := 0, locals := 0 } : Room)).cells (({ frames := 0, cells := 0, slots := 0, locals := 0 } : Room)).slots (fun v h L => v = none ∧ Fr n0 L ∧ Keep h0 h [o0] ∧ Own.CA Z h o0 .char (own_pl (own_mk 3 p3 p4 p5) xs j))
  have K1 : Own.To p e below B0 s₁ (mkF m 1 #[vr o0, vi p1, vi 3, vi p3, vi p4, vi p5] [(.int 3)]) := fun t k => K0 t (by
    refine Own.iloadN X0 hx (D d42_0) rfl ?_
    exact k)
  have K2 : Own.To p e below B0 s₁ (mkF m 7 #[vr o0, vi p1, vi 3, vi p3, vi p4, vi p5] [(.int p3), (.int p1), (.ref o0)]) := fun t k => K1 t (by
    refine Own.ifNo X0 hx (D d42_1) ((if0 _ _).trans (tlt (by decide : (0 : Int32) < (3 : Int32))).2.2.2) ?_
    refine Own.aloadN X0 hx (D d42_4) rfl rfl ?_
    refine Own.iloadN X0 hx (D d42_5) rfl ?_
    refine Own.iloadN X0 hx (D d42_6) rfl ?_
    exact k)
  obtain ⟨T3, h3, L3, X3, e3, n3, W3, V3, st3⟩ := Own.stc (Ls := #[vr o0, vi p1, vi 3, vi p3, vi p4, vi p5]) (S := []) (x := p3) (j := p1) X0 hx hZ e0 AX j (own_j0 hp1 (by omega)).1 (own_j0 hp1 (by omega)).2 (by (try simp only [List.length_set]); omega) (D d42_7)
  rw [own_narb hbp3] at V3
  have N3 : Fr n0 L3 := n3 n0 (Fr.nil _) g0
  have m4 : h0.size ≤ h3.size := Nat.le_of_eq W3.size.symm
  have K5 := fun t k => K2 t (st3 t k)
  have K6 : Own.To p e below B0 T3 (mkF m 10 #[vr o0, vi p1, vi 3, vi p3, vi p4, vi p5] [(.int 1), (.int 3)]) := fun t k => K5 t (by
    refine Own.iloadN X3 hx (D d42_8) rfl ?_
    refine Own.iconst X3 hx 1 (D d42_9) rfl ?_
    exact k)
  have K7 : Own.To p e below B0 T3 (mkF m 19 #[vr o0, vi p1, vi 3, vi p3, vi p4, vi p5] [(.int p4), (.int (p1 + (1 : Int32))), (.ref o0)]) := fun t k => K6 t (by
    refine Own.icmpNo X3 hx (D d42_10) (tlt (by decide : (1 : Int32) < (3 : Int32))).2.2.2 ?_
    refine Own.aloadN X3 hx (D d42_13) rfl rfl ?_
    refine Own.iloadN X3 hx (D d42_14) rfl ?_
    refine Own.iconst X3 hx 1 (D d42_15) rfl ?_
    refine Own.iadd X3 hx (D d42_16) ?_
    refine Own.iload X3 hx (D d42_17) rfl ?_
    exact k)
  obtain ⟨T8, h8, L8, X8, e8, n8, W8, V8, st8⟩ := Own.stc (Ls := #[vr o0, vi p1, vi 3, vi p3, vi p4, vi p5]) (S := []) (x := p4) (j := (p1 + (1 : Int32))) X3 hx hZ e3 V3 (j + 1) (own_jx (d := 1) hp1 (by omega)).1 (own_jx (d := 1) hp1 (by omega)).2 (by (try simp only [List.length_set]); omega) (D d42_19)
  rw [own_narb hbp4] at V8
  have N8 : Fr n0 L8 := n8 n0 N3 g0
  have m9 : h3.size ≤ h8.size := Nat.le_of_eq W8.size.symm
  have K10 := fun t k => K7 t (st8 t k)
  have K11 : Own.To p e below B0 T8 (mkF m 22 #[vr o0, vi p1, vi 3, vi p3, vi p4, vi p5] [(.int 2), (.int 3)]) := fun t k => K10 t (by
    refine Own.iloadN X8 hx (D d42_20) rfl ?_
    refine Own.iconst X8 hx 2 (D d42_21) rfl ?_
    exact k)
  have K12 : Own.To p e below B0 T8 (mkF m 31 #[vr o0, vi p1, vi 3, vi p3, vi p4, vi p5] [(.int p5), (.int (p1 + (2 : Int32))), (.ref o0)]) := fun t k => K11 t (by
    refine Own.icmpNo X8 hx (D d42_22) (tlt (by decide : (2 : Int32) < (3 : Int32))).2.2.2 ?_
    refine Own.aloadN X8 hx (D d42_25) rfl rfl ?_
    refine Own.iloadN X8 hx (D d42_26) rfl ?_
    refine Own.iconst X8 hx 2 (D d42_27) rfl ?_
    refine Own.iadd X8 hx (D d42_28) ?_
    refine Own.iload X8 hx (D d42_29) rfl ?_
    exact k)
  obtain ⟨T13, h13, L13, X13, e13, n13, W13, V13, st13⟩ := Own.stc (Ls := #[vr o0, vi p1, vi 3, vi p3, vi p4, vi p5]) (S := []) (x := p5) (j := (p1 + (2 : Int32))) X8 hx hZ e8 V8 (j + 1 + 1) (own_jx (d := 2) hp1 (by omega)).1 (own_jx (d := 2) hp1 (by omega)).2 (by (try simp only [List.length_set]); omega) (D d42_31)
  rw [own_narb hbp5] at V13
  have N13 : Fr n0 L13 := n13 n0 N8 g0
  have m14 : h8.size ≤ h13.size := Nat.le_of_eq W13.size.symm
  have K15 := fun t k => K12 t (st13 t k)
  have kp := ((((Keep.refl h0 [o0]).wr W3 (Or.inl (List.mem_of_getElem? (i := 0) rfl))).wr W8 (Or.inl (List.mem_of_getElem? (i := 0) rfl))).wr W13 (Or.inl (List.mem_of_getElem? (i := 0) rfl)))
  exact Own.finV X13 hx (BodyLoose.notSynchronized Bd) Bd.returns (D d42_32) K15 (by decide) (by decide) (by rw [e13]; exact ⟨rfl, N13, kp, V13⟩)

theorem cPSg (l : Launch) (Z : State) (a0 : Array Value) (hw : ∀ d ∈ tables_1, d.before a0 Z = true) (o0 : Addr) (p1 p2 p3 p4 p5 : Int32) (n0 j : Nat) (xs : List Int32) (h0 : Heap) (hn : p2 = 0 ∨ p2 = 1 ∨ p2 = 2 ∨ p2 = 3) (Z0 : n0 ≤ h0.size) (AX : Own.CA Z h0 o0 .char xs) (hxs : xs.length = 12) (hp1 : p1 = Int32.ofNat j) (hj : j ≤ 6) (g0 : n0 ≤ o0) (hbp3 : own_ok p3) (hbp4 : own_ok p4) (hbp5 : own_ok p5) :
    Own.Con l Z (⟨"com/example/stemshear/stemshear/RuleApplyPinLaw", "putSuffix", "([CIICCC)V"⟩ : MethodName) method_6_code 6 none ({ frames := 0, cells := 0, slots := 0, locals := 0 } : Room) #[(.ref o0), (.int p1), (.int p2), (.int p3), (.int p4), (.int p5)] h0 (fun v h L => v = none ∧ Fr n0 L ∧ Keep h0 h [o0] ∧ Own.CA Z h o0 .char (own_pl (own_mk p2 p3 p4 p5) xs j)) := by
  rcases hn with rfl | rfl | rfl | rfl
  · exact cPS0 l Z a0 hw o0 p1 p3 p4 p5 n0 j xs h0 Z0 AX hxs hp1 hj g0 hbp3 hbp4 hbp5
  · exact cPS1 l Z a0 hw o0 p1 p3 p4 p5 n0 j xs h0 Z0 AX hxs hp1 hj g0 hbp3 hbp4 hbp5
  · exact cPS2 l Z a0 hw o0 p1 p3 p4 p5 n0 j xs h0 Z0 AX hxs hp1 hj g0 hbp3 hbp4 hbp5
  · exact cPS3 l Z a0 hw o0 p1 p3 p4 p5 n0 j xs h0 Z0 AX hxs hp1 hj g0 hbp3 hbp4 hbp5

theorem d43_0 : decode J43 0 = .ok (.iload_n 2, 1) := by decide +kernel
theorem d43_1 : decode J43 1 = .ok (.iload_n 3, 1) := by decide +kernel
theorem d43_2 : decode J43 2 = .ok (.iadd, 1) := by decide +kernel
theorem d43_3 : decode J43 3 = .ok (.aload_n 0, 1) := by decide +kernel
theorem d43_4 : decode J43 4 = .ok (.getfield 75, 3) := by decide +kernel
theorem d43_7 : decode J43 7 = .ok (.isub, 1) := by decide +kernel
theorem d43_8 : decode J43 8 = .ok (.istore 4, 2) := by decide +kernel
theorem d43_10 : decode J43 10 = .ok (.aload_n 0, 1) := by decide +kernel
theorem d43_11 : decode J43 11 = .ok (.getfield 82, 3) := by decide +kernel
theorem d43_14 : decode J43 14 = .ok (.astore 5, 2) := by decide +kernel
theorem d43_16 : decode J43 16 = .ok (.aload 5, 2) := by decide +kernel
theorem d43_18 : decode J43 18 = .ok (.arraylength, 1) := by decide +kernel
theorem d43_19 : decode J43 19 = .ok (.istore 6, 2) := by decide +kernel
theorem d43_21 : decode J43 21 = .ok (.iconst 0, 1) := by decide +kernel
theorem d43_22 : decode J43 22 = .ok (.istore 7, 2) := by decide +kernel
theorem d43_24 : decode J43 24 = .ok (.iload 7, 2) := by decide +kernel
theorem d43_26 : decode J43 26 = .ok (.iload 6, 2) := by decide +kernel
theorem d43_28 : decode J43 28 = .ok (.if_icmp .ge 25, 3) := by decide +kernel
theorem d43_31 : decode J43 31 = .ok (.aload 5, 2) := by decide +kernel
theorem d43_33 : decode J43 33 = .ok (.iload 7, 2) := by decide +kernel
theorem d43_35 : decode J43 35 = .ok (.caload, 1) := by decide +kernel
theorem d43_36 : decode J43 36 = .ok (.istore 8, 2) := by decide +kernel
theorem d43_38 : decode J43 38 = .ok (.aload_n 1, 1) := by decide +kernel
theorem d43_39 : decode J43 39 = .ok (.iload 4, 2) := by decide +kernel
theorem d43_41 : decode J43 41 = .ok (.iinc 4 1, 3) := by decide +kernel
theorem d43_44 : decode J43 44 = .ok (.iload 8, 2) := by decide +kernel
theorem d43_46 : decode J43 46 = .ok (.castore, 1) := by decide +kernel
theorem d43_47 : decode J43 47 = .ok (.iinc 7 1, 3) := by decide +kernel
theorem d43_50 : decode J43 50 = .ok (.goto (-26), 3) := by decide +kernel
theorem d43_53 : decode J43 53 = .ok (.iload 4, 2) := by decide +kernel
theorem d43_55 : decode J43 55 = .ok (.iload_n 2, 1) := by decide +kernel
theorem d43_56 : decode J43 56 = .ok (.isub, 1) := by decide +kernel
theorem d43_57 : decode J43 57 = .ok (.ireturn, 1) := by decide +kernel
theorem ef_43 (m : MethodId) (o0 : Addr) (o1 : Addr) (p2 : Int32) (p3 : Int32) : entryFrame m #[(.ref o0), (.ref o1), (.int p2), (.int p3)] 9 = mkF m 0 #[.val (.ref o0), .val (.ref o1), .val (.int p2), .val (.int p3), .unset, .unset, .unset, .unset, .unset] [] := by first | (simp [entryFrame, mkF, argsToLocals, Value.category]; done) | rfl
set_option maxRecDepth 65536 in
set_option maxHeartbeats 40000000 in
theorem cAP0 (l : Launch) (Z : State) (a0 : Array Value) (hw : ∀ d ∈ tables_1, d.before a0 Z = true) (o0 : Addr) (o1 : Addr) (p2 : Int32) (p3 : Int32) (n0 : Nat) (b : Addr) (j : Nat) (xs : List Int32) (sl : Int32) (h0 : Heap) (Z0 : n0 ≤ h0.size) (F0 : Fld Z h0 o0 "com/example/stemshear/stemshear/Rule" "suffixLength" "I" (.int sl)) (F1 : Fld Z h0 o0 "com/example/stemshear/stemshear/Rule" "replacementLetters" "[C" (.ref b)) (AB : Own.CA Z h0 b .char ([] : List Int32)) (AX : Own.CA Z h0 o1 .char xs) (hxs : xs.length = 12) (hst : (p2 + p3) - sl = Int32.ofNat j) (hj : j ≤ 6) (hne : b ≠ o1) (g1 : n0 ≤ o1) : Own.Con l Z (⟨"com/example/stemshear/stemshear/Rule", "apply", "([CII)I"⟩ : MethodName) prog_36_method_20_code 9 (some .int) ({ frames := 0, cells := 0, slots := 0, locals := 0 } : Room) #[(.ref o0), (.ref o1), (.int p2), (.int p3)] h0 (fun v h L => v = some (.int (Int32.ofNat j - p2)) ∧ Fr n0 L ∧ Keep h0 h [o1] ∧ Own.CA Z h o1 .char (own_pl ([] : List Int32) xs j)) := by
  intro ws
  refine MetFree.of_bodySF (plainFor_of_name pn_6) hisR ?_
  intro p e s m args below meth c s₁ Bd hml0 hP hK
  obtain ⟨rfl, hZ, hh⟩ := hP
  have hx := Bd.exec
  have hby := Bd.bytes
  have D := fun {n : Nat} {i} (d : decode prog_36_method_20_code n = .ok i) => hb hby d
  have hml : c.maxLocals = 9 := hml0
  have hown : s.vm.findClass "com/example/stemshear/stemshear/Rule" = some m.cls := findClass_of_methodNamed Bd.named
  have hnm := (name_of_methodNamed Bd.named Bd.method).1
  have X0 : Stand p l e ({ frames := 0, cells := 0, slots := 0, locals := 0 } : Room) s m #[(.ref o0), (.ref o1), (.int p2), (.int p3)] below meth c s₁ [] 0 0 := Stand.of_body Bd
  have e0 : s₁.heap = h0 := by rw [← hh, Bd.state]; rfl
  have K0 : ∀ t, Steps p.tables e below (s₁.setTop (mkF m 0 #[vr o0, vr o1, vi p2, vi p3, .unset, .unset, .unset, .unset, .unset] [])) t → Steps p.tables e below (s₁.setTop (entryFrame m #[(.ref o0), (.ref o1), (.int p2), (.int p3)] 9)) t := fun t k => castTop (ef_43 m o0 o1 p2 p3) k
  generalize s₁.setTop (entryFrame m #[(.ref o0), (.ref o1), (.int p2), (.int p3)] 9) = B0 at K0 ⊢
  show Own.Fin p e below B0 s (({ frames := 0, cells := 0, slots := 0, locals := 0 } : Room)).cells (({ frames := 0, cells := 0, slots := 0, locals := 0 } : Room)).slots (fun v h L => v = some (.int (Int32.ofNat j - p2)) ∧ Fr n0 L ∧ Keep h0 h [o1] ∧ Own.CA Z h o1 .char (own_pl ([] : List Int32) xs j))
  have K1 : Own.To p e below B0 s₁ (mkF m 4 #[vr o0, vr o1, vi p2, vi p3, .unset, .unset, .unset, .unset, .unset] [(.ref o0), (.int (p2 + p3))]) := fun t k => K0 t (by
    refine Own.iloadN X0 hx (D d43_0) rfl ?_
    refine Own.iloadN X0 hx (D d43_1) rfl ?_
    refine Own.iadd X0 hx (D d43_2) ?_
    refine Own.aloadN X0 hx (D d43_3) rfl rfl ?_
    exact k)
  obtain ⟨T2, X2, e2, st2⟩ := Own.getF (Ls := #[vr o0, vr o1, vi p2, vi p3, .unset, .unset, .unset, .unset, .unset]) X0 hx hZ e0 hown (host := "") (Or.inl (W_ hw 64 rfl)) Via.refl F0 (S := [(.int (p2 + p3))]) (D d43_4)
  have K3 := fun t k => K1 t (st2 t k)
  have K4 : Own.To p e below B0 T2 (mkF m 10 #[vr o0, vr o1, vi p2, vi p3, vi ((p2 + p3) - sl), .unset, .unset, .unset, .unset] []) := fun t k => K3 t (by
    refine Own.isub X2 hx (D d43_7) ?_
    refine Own.istore X2 hx #[vr o0, vr o1, vi p2, vi p3, vi ((p2 + p3) - sl), .unset, .unset, .unset, .unset] (D d43_8) rfl ?_
    exact k)
  rw [hst] at K4
  have K5 : Own.To p e below B0 T2 (mkF m 11 #[vr o0, vr o1, vi p2, vi p3, vi (Int32.ofNat j), .unset, .unset, .unset, .unset] [(.ref o0)]) := fun t k => K4 t (by
    refine Own.aloadN X2 hx (D d43_10) rfl rfl ?_
    exact k)
  obtain ⟨T6, X6, e6, st6⟩ := Own.getF (Ls := #[vr o0, vr o1, vi p2, vi p3, vi (Int32.ofNat j), .unset, .unset, .unset, .unset]) X2 hx hZ e2 hown (host := "") (Or.inl (W_ hw 83 rfl)) Via.refl F1 (S := []) (D d43_11)
  have K7 := fun t k => K5 t (st6 t k)
  have K8 : Own.To p e below B0 T6 (mkF m 18 #[vr o0, vr o1, vi p2, vi p3, vi (Int32.ofNat j), vr b, .unset, .unset, .unset] [(.ref b)]) := fun t k => K7 t (by
    refine Own.astore X6 hx #[vr o0, vr o1, vi p2, vi p3, vi (Int32.ofNat j), vr b, .unset, .unset, .unset] (D d43_14) rfl rfl ?_
    refine Own.aload X6 hx (D d43_16) rfl rfl ?_
    exact k)
  obtain ⟨cq9, Aq9, lq9⟩ := Own.CA.len AB
  have K10 : Own.To p e below B0 T6 (mkF m 24 #[vr o0, vr o1, vi p2, vi p3, vi (Int32.ofNat j), vr b, vi 0, vi 0, .unset] []) := fun t k => K8 t (by
    refine Own.arraylength X6 hx (0 : Int32) hZ e6 Aq9 lq9 (D d43_18) ?_
    refine Own.istore X6 hx #[vr o0, vr o1, vi p2, vi p3, vi (Int32.ofNat j), vr b, vi 0, .unset, .unset] (D d43_19) rfl ?_
    refine Own.iconst X6 hx 0 (D d43_21) rfl ?_
    refine Own.istore X6 hx #[vr o0, vr o1, vi p2, vi p3, vi (Int32.ofNat j), vr b, vi 0, vi 0, .unset] (D d43_22) rfl ?_
    exact k)
  have K11 : Own.To p e below B0 T6 (mkF m 28 #[vr o0, vr o1, vi p2, vi p3, vi (Int32.ofNat j), vr b, vi 0, vi 0, .unset] [(.int 0), (.int 0)]) := fun t k => K10 t (by
    refine Own.iload X6 hx (D d43_24) rfl ?_
    refine Own.iload X6 hx (D d43_26) rfl ?_
    exact k)
  have K12 : Own.To p e below B0 T6 (mkF m 57 #[vr o0, vr o1, vi p2, vi p3, vi (Int32.ofNat j), vr b, vi 0, vi 0, .unset] [(.int ((Int32.ofNat j) - p2))]) := fun t k => K11 t (by
    refine Own.icmpYes X6 hx 53 (D d43_28) (flt (by decide : ¬ ((0 : Int32) < (0 : Int32)))).2.1 (by decide) (by decide) ?_
    refine Own.iload X6 hx (D d43_53) rfl ?_
    refine Own.iloadN X6 hx (D d43_55) rfl ?_
    refine Own.isub X6 hx (D d43_56) ?_
    exact k)
  have kp := (Keep.refl h0 [o1])
  exact Own.finI X6 hx (BodyLoose.notSynchronized Bd) Bd.returns (D d43_57) K12 (by decide) (by decide) (by rw [e6]; exact ⟨rfl, Fr.nil _, kp, AX⟩)

set_option maxRecDepth 65536 in
set_option maxHeartbeats 40000000 in
theorem cAP1 (l : Launch) (Z : State) (a0 : Array Value) (hw : ∀ d ∈ tables_1, d.before a0 Z = true) (o0 : Addr) (o1 : Addr) (p2 : Int32) (p3 : Int32) (n0 : Nat) (b : Addr) (j : Nat) (xs : List Int32) (sl : Int32) (r0 : Int32) (h0 : Heap) (Z0 : n0 ≤ h0.size) (F0 : Fld Z h0 o0 "com/example/stemshear/stemshear/Rule" "suffixLength" "I" (.int sl)) (F1 : Fld Z h0 o0 "com/example/stemshear/stemshear/Rule" "replacementLetters" "[C" (.ref b)) (AB : Own.CA Z h0 b .char [r0]) (AX : Own.CA Z h0 o1 .char xs) (hxs : xs.length = 12) (hst : (p2 + p3) - sl = Int32.ofNat j) (hj : j ≤ 6) (hne : b ≠ o1) (g1 : n0 ≤ o1) (hr0 : own_let r0) : Own.Con l Z (⟨"com/example/stemshear/stemshear/Rule", "apply", "([CII)I"⟩ : MethodName) prog_36_method_20_code 9 (some .int) ({ frames := 0, cells := 0, slots := 0, locals := 0 } : Room) #[(.ref o0), (.ref o1), (.int p2), (.int p3)] h0 (fun v h L => v = some (.int (Int32.ofNat (j + 1) - p2)) ∧ Fr n0 L ∧ Keep h0 h [o1] ∧ Own.CA Z h o1 .char (own_pl [r0] xs j)) := by
  intro ws
  refine MetFree.of_bodySF (plainFor_of_name pn_6) hisR ?_
  intro p e s m args below meth c s₁ Bd hml0 hP hK
  obtain ⟨rfl, hZ, hh⟩ := hP
  have hx := Bd.exec
  have hby := Bd.bytes
  have D := fun {n : Nat} {i} (d : decode prog_36_method_20_code n = .ok i) => hb hby d
  have hml : c.maxLocals = 9 := hml0
  have hown : s.vm.findClass "com/example/stemshear/stemshear/Rule" = some m.cls := findClass_of_methodNamed Bd.named
  have hnm := (name_of_methodNamed Bd.named Bd.method).1
  have X0 : Stand p l e ({ frames := 0, cells := 0, slots := 0, locals := 0 } : Room) s m #[(.ref o0), (.ref o1), (.int p2), (.int p3)] below meth c s₁ [] 0 0 := Stand.of_body Bd
  have e0 : s₁.heap = h0 := by rw [← hh, Bd.state]; rfl
  have K0 : ∀ t, Steps p.tables e below (s₁.setTop (mkF m 0 #[vr o0, vr o1, vi p2, vi p3, .unset, .unset, .unset, .unset, .unset] [])) t → Steps p.tables e below (s₁.setTop (entryFrame m #[(.ref o0), (.ref o1), (.int p2), (.int p3)] 9)) t := fun t k => castTop (ef_43 m o0 o1 p2 p3) k
  generalize s₁.setTop (entryFrame m #[(.ref o0), (.ref o1), (.int p2), (.int p3)] 9) = B0 at K0 ⊢
  show Own.Fin p e below B0 s (({ frames := 0, cells := 0, slots := 0, locals := 0 } : Room)).cells (({ frames := 0, cells := 0, slots := 0, locals := 0 } : Room)).slots (fun v h L => v = some (.int (Int32.ofNat (j + 1) - p2)) ∧ Fr n0 L ∧ Keep h0 h [o1] ∧ Own.CA Z h o1 .char (own_pl [r0] xs j))
  have K1 : Own.To p e below B0 s₁ (mkF m 4 #[vr o0, vr o1, vi p2, vi p3, .unset, .unset, .unset, .unset, .unset] [(.ref o0), (.int (p2 + p3))]) := fun t k => K0 t (by
    refine Own.iloadN X0 hx (D d43_0) rfl ?_
    refine Own.iloadN X0 hx (D d43_1) rfl ?_
    refine Own.iadd X0 hx (D d43_2) ?_
    refine Own.aloadN X0 hx (D d43_3) rfl rfl ?_
    exact k)
  obtain ⟨T2, X2, e2, st2⟩ := Own.getF (Ls := #[vr o0, vr o1, vi p2, vi p3, .unset, .unset, .unset, .unset, .unset]) X0 hx hZ e0 hown (host := "") (Or.inl (W_ hw 64 rfl)) Via.refl F0 (S := [(.int (p2 + p3))]) (D d43_4)
  have K3 := fun t k => K1 t (st2 t k)
  have K4 : Own.To p e below B0 T2 (mkF m 10 #[vr o0, vr o1, vi p2, vi p3, vi ((p2 + p3) - sl), .unset, .unset, .unset, .unset] []) := fun t k => K3 t (by
    refine Own.isub X2 hx (D d43_7) ?_
    refine Own.istore X2 hx #[vr o0, vr o1, vi p2, vi p3, vi ((p2 + p3) - sl), .unset, .unset, .unset, .unset] (D d43_8) rfl ?_
    exact k)
  rw [hst] at K4
  have K5 : Own.To p e below B0 T2 (mkF m 11 #[vr o0, vr o1, vi p2, vi p3, vi (Int32.ofNat j), .unset, .unset, .unset, .unset] [(.ref o0)]) := fun t k => K4 t (by
    refine Own.aloadN X2 hx (D d43_10) rfl rfl ?_
    exact k)
  obtain ⟨T6, X6, e6, st6⟩ := Own.getF (Ls := #[vr o0, vr o1, vi p2, vi p3, vi (Int32.ofNat j), .unset, .unset, .unset, .unset]) X2 hx hZ e2 hown (host := "") (Or.inl (W_ hw 83 rfl)) Via.refl F1 (S := []) (D d43_11)
  have K7 := fun t k => K5 t (st6 t k)
  have K8 : Own.To p e below B0 T6 (mkF m 18 #[vr o0, vr o1, vi p2, vi p3, vi (Int32.ofNat j), vr b, .unset, .unset, .unset] [(.ref b)]) := fun t k => K7 t (by
    refine Own.astore X6 hx #[vr o0, vr o1, vi p2, vi p3, vi (Int32.ofNat j), vr b, .unset, .unset, .unset] (D d43_14) rfl rfl ?_
    refine Own.aload X6 hx (D d43_16) rfl rfl ?_
    exact k)
  obtain ⟨cq9, Aq9, lq9⟩ := Own.CA.len AB
  have K10 : Own.To p e below B0 T6 (mkF m 24 #[vr o0, vr o1, vi p2, vi p3, vi (Int32.ofNat j), vr b, vi 1, vi 0, .unset] []) := fun t k => K8 t (by
    refine Own.arraylength X6 hx (1 : Int32) hZ e6 Aq9 lq9 (D d43_18) ?_
    refine Own.istore X6 hx #[vr o0, vr o1, vi p2, vi p3, vi (Int32.ofNat j), vr b, vi 1, .unset, .unset] (D d43_19) rfl ?_
    refine Own.iconst X6 hx 0 (D d43_21) rfl ?_
    refine Own.istore X6 hx #[vr o0, vr o1, vi p2, vi p3, vi (Int32.ofNat j), vr b, vi 1, vi 0, .unset] (D d43_22) rfl ?_
    exact k)
  have K11 : Own.To p e below B0 T6 (mkF m 28 #[vr o0, vr o1, vi p2, vi p3, vi (Int32.ofNat j), vr b, vi 1, vi 0, .unset] [(.int 1), (.int 0)]) := fun t k => K10 t (by
    refine Own.iload X6 hx (D d43_24) rfl ?_
    refine Own.iload X6 hx (D d43_26) rfl ?_
    exact k)
  have K12 : Own.To p e below B0 T6 (mkF m 35 #[vr o0, vr o1, vi p2, vi p3, vi (Int32.ofNat j), vr b, vi 1, vi 0, .unset] [(.int 0), (.ref b)]) := fun t k => K11 t (by
    refine Own.icmpNo X6 hx (D d43_28) (tlt (by decide : (0 : Int32) < (1 : Int32))).2.1 ?_
    refine Own.aload X6 hx (D d43_31) rfl rfl ?_
    refine Own.iload X6 hx (D d43_33) rfl ?_
    exact k)
  have K13 : Own.To p e below B0 T6 (mkF m 46 #[vr o0, vr o1, vi p2, vi p3, vi ((Int32.ofNat j) + (1 : Int32)), vr b, vi 1, vi 0, vi r0] [(.int r0), (.int (Int32.ofNat j)), (.ref o1)]) := fun t k => K12 t (by
    refine Own.cal X6 hx hZ e6 AB r0 (by decide) (show (0 : Int32).toNatClampNeg < 1 by decide) rfl (D d43_35) ?_
    refine Own.istore X6 hx #[vr o0, vr o1, vi p2, vi p3, vi (Int32.ofNat j), vr b, vi 1, vi 0, vi r0] (D d43_36) rfl ?_
    refine Own.aloadN X6 hx (D d43_38) rfl rfl ?_
    refine Own.iload X6 hx (D d43_39) rfl ?_
    refine Own.iinc X6 hx ((Int32.ofNat j) + (1 : Int32)) #[vr o0, vr o1, vi p2, vi p3, vi ((Int32.ofNat j) + (1 : Int32)), vr b, vi 1, vi 0, vi r0] (D d43_41) rfl rfl rfl ?_
    refine Own.iload X6 hx (D d43_44) rfl ?_
    exact k)
  obtain ⟨T14, h14, L14, X14, e14, n14, W14, V14, st14⟩ := Own.stc (Ls := #[vr o0, vr o1, vi p2, vi p3, vi ((Int32.ofNat j) + (1 : Int32)), vr b, vi 1, vi 0, vi r0]) (S := []) (x := r0) (j := (Int32.ofNat j)) X6 hx hZ e6 AX j (Own.ofNat_clamp (by omega)) (Int32.ofNat_not_neg (by omega)) (by (try simp only [List.length_set]); omega) (D d43_46)
  rw [own_narb (own_let_ok hr0)] at V14
  have N14 : Fr n0 L14 := n14 n0 (Fr.nil _) g1
  have m15 : h0.size ≤ h14.size := Nat.le_of_eq W14.size.symm
  have K16 := fun t k => K13 t (st14 t k)
  have K17 : Own.To p e below B0 T14 (mkF m 24 #[vr o0, vr o1, vi p2, vi p3, vi ((Int32.ofNat j) + (1 : Int32)), vr b, vi 1, vi 1, vi r0] []) := fun t k => K16 t (by
    refine Own.iinc X14 hx (1 : Int32) #[vr o0, vr o1, vi p2, vi p3, vi ((Int32.ofNat j) + (1 : Int32)), vr b, vi 1, vi 1, vi r0] (D d43_47) rfl rfl rfl ?_
    refine Own.goto X14 hx 24 (D d43_50) (by decide) (by decide) ?_
    exact k)
  rw [own_inc] at K17
  have K18 : Own.To p e below B0 T14 (mkF m 28 #[vr o0, vr o1, vi p2, vi p3, vi (Int32.ofNat (j + 1)), vr b, vi 1, vi 1, vi r0] [(.int 1), (.int 1)]) := fun t k => K17 t (by
    refine Own.iload X14 hx (D d43_24) rfl ?_
    refine Own.iload X14 hx (D d43_26) rfl ?_
    exact k)
  have K19 : Own.To p e below B0 T14 (mkF m 57 #[vr o0, vr o1, vi p2, vi p3, vi (Int32.ofNat (j + 1)), vr b, vi 1, vi 1, vi r0] [(.int ((Int32.ofNat (j + 1)) - p2))]) := fun t k => K18 t (by
    refine Own.icmpYes X14 hx 53 (D d43_28) (flt (by decide : ¬ ((1 : Int32) < (1 : Int32)))).2.1 (by decide) (by decide) ?_
    refine Own.iload X14 hx (D d43_53) rfl ?_
    refine Own.iloadN X14 hx (D d43_55) rfl ?_
    refine Own.isub X14 hx (D d43_56) ?_
    exact k)
  have kp := ((Keep.refl h0 [o1]).wr W14 (Or.inl (List.mem_of_getElem? (i := 0) rfl)))
  exact Own.finI X14 hx (BodyLoose.notSynchronized Bd) Bd.returns (D d43_57) K19 (by decide) (by decide) (by rw [e14]; exact ⟨rfl, N14, kp, V14⟩)

set_option maxRecDepth 65536 in
set_option maxHeartbeats 40000000 in
theorem cAP2 (l : Launch) (Z : State) (a0 : Array Value) (hw : ∀ d ∈ tables_1, d.before a0 Z = true) (o0 : Addr) (o1 : Addr) (p2 : Int32) (p3 : Int32) (n0 : Nat) (b : Addr) (j : Nat) (xs : List Int32) (sl : Int32) (r0 : Int32) (r1 : Int32) (h0 : Heap) (Z0 : n0 ≤ h0.size) (F0 : Fld Z h0 o0 "com/example/stemshear/stemshear/Rule" "suffixLength" "I" (.int sl)) (F1 : Fld Z h0 o0 "com/example/stemshear/stemshear/Rule" "replacementLetters" "[C" (.ref b)) (AB : Own.CA Z h0 b .char [r0, r1]) (AX : Own.CA Z h0 o1 .char xs) (hxs : xs.length = 12) (hst : (p2 + p3) - sl = Int32.ofNat j) (hj : j ≤ 6) (hne : b ≠ o1) (g1 : n0 ≤ o1) (hr0 : own_let r0) (hr1 : own_let r1) : Own.Con l Z (⟨"com/example/stemshear/stemshear/Rule", "apply", "([CII)I"⟩ : MethodName) prog_36_method_20_code 9 (some .int) ({ frames := 0, cells := 0, slots := 0, locals := 0 } : Room) #[(.ref o0), (.ref o1), (.int p2), (.int p3)] h0 (fun v h L => v = some (.int (Int32.ofNat (j + 1 + 1) - p2)) ∧ Fr n0 L ∧ Keep h0 h [o1] ∧ Own.CA Z h o1 .char (own_pl [r0, r1] xs j)) := by
  intro ws
  refine MetFree.of_bodySF (plainFor_of_name pn_6) hisR ?_
  intro p e s m args below meth c s₁ Bd hml0 hP hK
  obtain ⟨rfl, hZ, hh⟩ := hP
  have hx := Bd.exec
  have hby := Bd.bytes
  have D := fun {n : Nat} {i} (d : decode prog_36_method_20_code n = .ok i) => hb hby d
  have hml : c.maxLocals = 9 := hml0
  have hown : s.vm.findClass "com/example/stemshear/stemshear/Rule" = some m.cls := findClass_of_methodNamed Bd.named
  have hnm := (name_of_methodNamed Bd.named Bd.method).1
  have X0 : Stand p l e ({ frames := 0, cells := 0, slots := 0, locals := 0 } : Room) s m #[(.ref o0), (.ref o1), (.int p2), (.int p3)] below meth c s₁ [] 0 0 := Stand.of_body Bd
  have e0 : s₁.heap = h0 := by rw [← hh, Bd.state]; rfl
  have K0 : ∀ t, Steps p.tables e below (s₁.setTop (mkF m 0 #[vr o0, vr o1, vi p2, vi p3, .unset, .unset, .unset, .unset, .unset] [])) t → Steps p.tables e below (s₁.setTop (entryFrame m #[(.ref o0), (.ref o1), (.int p2), (.int p3)] 9)) t := fun t k => castTop (ef_43 m o0 o1 p2 p3) k
  generalize s₁.setTop (entryFrame m #[(.ref o0), (.ref o1), (.int p2), (.int p3)] 9) = B0 at K0 ⊢
  show Own.Fin p e below B0 s (({ frames := 0, cells := 0, slots := 0, locals := 0 } : Room)).cells (({ frames := 0, cells := 0, slots := 0, locals := 0 } : Room)).slots (fun v h L => v = some (.int (Int32.ofNat (j + 1 + 1) - p2)) ∧ Fr n0 L ∧ Keep h0 h [o1] ∧ Own.CA Z h o1 .char (own_pl [r0, r1] xs j))
  have K1 : Own.To p e below B0 s₁ (mkF m 4 #[vr o0, vr o1, vi p2, vi p3, .unset, .unset, .unset, .unset, .unset] [(.ref o0), (.int (p2 + p3))]) := fun t k => K0 t (by
    refine Own.iloadN X0 hx (D d43_0) rfl ?_
    refine Own.iloadN X0 hx (D d43_1) rfl ?_
    refine Own.iadd X0 hx (D d43_2) ?_
    refine Own.aloadN X0 hx (D d43_3) rfl rfl ?_
    exact k)
  obtain ⟨T2, X2, e2, st2⟩ := Own.getF (Ls := #[vr o0, vr o1, vi p2, vi p3, .unset, .unset, .unset, .unset, .unset]) X0 hx hZ e0 hown (host := "") (Or.inl (W_ hw 64 rfl)) Via.refl F0 (S := [(.int (p2 + p3))]) (D d43_4)
  have K3 := fun t k => K1 t (st2 t k)
  have K4 : Own.To p e below B0 T2 (mkF m 10 #[vr o0, vr o1, vi p2, vi p3, vi ((p2 + p3) - sl), .unset, .unset, .unset, .unset] []) := fun t k => K3 t (by
    refine Own.isub X2 hx (D d43_7) ?_
    refine Own.istore X2 hx #[vr o0, vr o1, vi p2, vi p3, vi ((p2 + p3) - sl), .unset, .unset, .unset, .unset] (D d43_8) rfl ?_
    exact k)
  rw [hst] at K4
  have K5 : Own.To p e below B0 T2 (mkF m 11 #[vr o0, vr o1, vi p2, vi p3, vi (Int32.ofNat j), .unset, .unset, .unset, .unset] [(.ref o0)]) := fun t k => K4 t (by
    refine Own.aloadN X2 hx (D d43_10) rfl rfl ?_
    exact k)
  obtain ⟨T6, X6, e6, st6⟩ := Own.getF (Ls := #[vr o0, vr o1, vi p2, vi p3, vi (Int32.ofNat j), .unset, .unset, .unset, .unset]) X2 hx hZ e2 hown (host := "") (Or.inl (W_ hw 83 rfl)) Via.refl F1 (S := []) (D d43_11)
  have K7 := fun t k => K5 t (st6 t k)
  have K8 : Own.To p e below B0 T6 (mkF m 18 #[vr o0, vr o1, vi p2, vi p3, vi (Int32.ofNat j), vr b, .unset, .unset, .unset] [(.ref b)]) := fun t k => K7 t (by
    refine Own.astore X6 hx #[vr o0, vr o1, vi p2, vi p3, vi (Int32.ofNat j), vr b, .unset, .unset, .unset] (D d43_14) rfl rfl ?_
    refine Own.aload X6 hx (D d43_16) rfl rfl ?_
    exact k)
  obtain ⟨cq9, Aq9, lq9⟩ := Own.CA.len AB
  have K10 : Own.To p e below B0 T6 (mkF m 24 #[vr o0, vr o1, vi p2, vi p3, vi (Int32.ofNat j), vr b, vi 2, vi 0, .unset] []) := fun t k => K8 t (by
    refine Own.arraylength X6 hx (2 : Int32) hZ e6 Aq9 lq9 (D d43_18) ?_
    refine Own.istore X6 hx #[vr o0, vr o1, vi p2, vi p3, vi (Int32.ofNat j), vr b, vi 2, .unset, .unset] (D d43_19) rfl ?_
    refine Own.iconst X6 hx 0 (D d43_21) rfl ?_
    refine Own.istore X6 hx #[vr o0, vr o1, vi p2, vi p3, vi (Int32.ofNat j), vr b, vi 2, vi 0, .unset] (D d43_22) rfl ?_
    exact k)
  have K11 : Own.To p e below B0 T6 (mkF m 28 #[vr o0, vr o1, vi p2, vi p3, vi (Int32.ofNat j), vr b, vi 2, vi 0, .unset] [(.int 2), (.int 0)]) := fun t k => K10 t (by
    refine Own.iload X6 hx (D d43_24) rfl ?_
    refine Own.iload X6 hx (D d43_26) rfl ?_
    exact k)
  have K12 : Own.To p e below B0 T6 (mkF m 35 #[vr o0, vr o1, vi p2, vi p3, vi (Int32.ofNat j), vr b, vi 2, vi 0, .unset] [(.int 0), (.ref b)]) := fun t k => K11 t (by
    refine Own.icmpNo X6 hx (D d43_28) (tlt (by decide : (0 : Int32) < (2 : Int32))).2.1 ?_
    refine Own.aload X6 hx (D d43_31) rfl rfl ?_
    refine Own.iload X6 hx (D d43_33) rfl ?_
    exact k)
  have K13 : Own.To p e below B0 T6 (mkF m 46 #[vr o0, vr o1, vi p2, vi p3, vi ((Int32.ofNat j) + (1 : Int32)), vr b, vi 2, vi 0, vi r0] [(.int r0), (.int (Int32.ofNat j)), (.ref o1)]) := fun t k => K12 t (by
    refine Own.cal X6 hx hZ e6 AB r0 (by decide) (show (0 : Int32).toNatClampNeg < 2 by decide) rfl (D d43_35) ?_
    refine Own.istore X6 hx #[vr o0, vr o1, vi p2, vi p3, vi (Int32.ofNat j), vr b, vi 2, vi 0, vi r0] (D d43_36) rfl ?_
    refine Own.aloadN X6 hx (D d43_38) rfl rfl ?_
    refine Own.iload X6 hx (D d43_39) rfl ?_
    refine Own.iinc X6 hx ((Int32.ofNat j) + (1 : Int32)) #[vr o0, vr o1, vi p2, vi p3, vi ((Int32.ofNat j) + (1 : Int32)), vr b, vi 2, vi 0, vi r0] (D d43_41) rfl rfl rfl ?_
    refine Own.iload X6 hx (D d43_44) rfl ?_
    exact k)
  obtain ⟨T14, h14, L14, X14, e14, n14, W14, V14, st14⟩ := Own.stc (Ls := #[vr o0, vr o1, vi p2, vi p3, vi ((Int32.ofNat j) + (1 : Int32)), vr b, vi 2, vi 0, vi r0]) (S := []) (x := r0) (j := (Int32.ofNat j)) X6 hx hZ e6 AX j (Own.ofNat_clamp (by omega)) (Int32.ofNat_not_neg (by omega)) (by (try simp only [List.length_set]); omega) (D d43_46)
  rw [own_narb (own_let_ok hr0)] at V14
  have N14 : Fr n0 L14 := n14 n0 (Fr.nil _) g1
  have m15 : h0.size ≤ h14.size := Nat.le_of_eq W14.size.symm
  have K16 := fun t k => K13 t (st14 t k)
  have K17 : Own.To p e below B0 T14 (mkF m 24 #[vr o0, vr o1, vi p2, vi p3, vi ((Int32.ofNat j) + (1 : Int32)), vr b, vi 2, vi 1, vi r0] []) := fun t k => K16 t (by
    refine Own.iinc X14 hx (1 : Int32) #[vr o0, vr o1, vi p2, vi p3, vi ((Int32.ofNat j) + (1 : Int32)), vr b, vi 2, vi 1, vi r0] (D d43_47) rfl rfl rfl ?_
    refine Own.goto X14 hx 24 (D d43_50) (by decide) (by decide) ?_
    exact k)
  rw [own_inc] at K17
  have K18 : Own.To p e below B0 T14 (mkF m 28 #[vr o0, vr o1, vi p2, vi p3, vi (Int32.ofNat (j + 1)), vr b, vi 2, vi 1, vi r0] [(.int 2), (.int 1)]) := fun t k => K17 t (by
    refine Own.iload X14 hx (D d43_24) rfl ?_
    refine Own.iload X14 hx (D d43_26) rfl ?_
    exact k)
  have K19 : Own.To p e below B0 T14 (mkF m 35 #[vr o0, vr o1, vi p2, vi p3, vi (Int32.ofNat (j + 1)), vr b, vi 2, vi 1, vi r0] [(.int 1), (.ref b)]) := fun t k => K18 t (by
    refine Own.icmpNo X14 hx (D d43_28) (tlt (by decide : (1 : Int32) < (2 : Int32))).2.1 ?_
    refine Own.aload X14 hx (D d43_31) rfl rfl ?_
    refine Own.iload X14 hx (D d43_33) rfl ?_
    exact k)
  have f20 := (AB.other W14 hne)
  have K21 : Own.To p e below B0 T14 (mkF m 46 #[vr o0, vr o1, vi p2, vi p3, vi ((Int32.ofNat (j + 1)) + (1 : Int32)), vr b, vi 2, vi 1, vi r1] [(.int r1), (.int (Int32.ofNat (j + 1))), (.ref o1)]) := fun t k => K19 t (by
    refine Own.cal X14 hx hZ e14 f20 r1 (by decide) (show (1 : Int32).toNatClampNeg < 2 by decide) rfl (D d43_35) ?_
    refine Own.istore X14 hx #[vr o0, vr o1, vi p2, vi p3, vi (Int32.ofNat (j + 1)), vr b, vi 2, vi 1, vi r1] (D d43_36) rfl ?_
    refine Own.aloadN X14 hx (D d43_38) rfl rfl ?_
    refine Own.iload X14 hx (D d43_39) rfl ?_
    refine Own.iinc X14 hx ((Int32.ofNat (j + 1)) + (1 : Int32)) #[vr o0, vr o1, vi p2, vi p3, vi ((Int32.ofNat (j + 1)) + (1 : Int32)), vr b, vi 2, vi 1, vi r1] (D d43_41) rfl rfl rfl ?_
    refine Own.iload X14 hx (D d43_44) rfl ?_
    exact k)
  obtain ⟨T22, h22, L22, X22, e22, n22, W22, V22, st22⟩ := Own.stc (Ls := #[vr o0, vr o1, vi p2, vi p3, vi ((Int32.ofNat (j + 1)) + (1 : Int32)), vr b, vi 2, vi 1, vi r1]) (S := []) (x := r1) (j := (Int32.ofNat (j + 1))) X14 hx hZ e14 V14 (j + 1) (Own.ofNat_clamp (by omega)) (Int32.ofNat_not_neg (by omega)) (by (try simp only [List.length_set]); omega) (D d43_46)
  rw [own_narb (own_let_ok hr1)] at V22
  have N22 : Fr n0 L22 := n22 n0 N14 g1
  have m23 : h14.size ≤ h22.size := Nat.le_of_eq W22.size.symm
  have K24 := fun t k => K21 t (st22 t k)
  have K25 : Own.To p e below B0 T22 (mkF m 24 #[vr o0, vr o1, vi p2, vi p3, vi ((Int32.ofNat (j + 1)) + (1 : Int32)), vr b, vi 2, vi 2, vi r1] []) := fun t k => K24 t (by
    refine Own.iinc X22 hx (2 : Int32) #[vr o0, vr o1, vi p2, vi p3, vi ((Int32.ofNat (j + 1)) + (1 : Int32)), vr b, vi 2, vi 2, vi r1] (D d43_47) rfl rfl rfl ?_
    refine Own.goto X22 hx 24 (D d43_50) (by decide) (by decide) ?_
    exact k)
  rw [own_inc] at K25
  have K26 : Own.To p e below B0 T22 (mkF m 28 #[vr o0, vr o1, vi p2, vi p3, vi (Int32.ofNat (j + 1 + 1)), vr b, vi 2, vi 2, vi r1] [(.int 2), (.int 2)]) := fun t k => K25 t (by
    refine Own.iload X22 hx (D d43_24) rfl ?_
    refine Own.iload X22 hx (D d43_26) rfl ?_
    exact k)
  have K27 : Own.To p e below B0 T22 (mkF m 57 #[vr o0, vr o1, vi p2, vi p3, vi (Int32.ofNat (j + 1 + 1)), vr b, vi 2, vi 2, vi r1] [(.int ((Int32.ofNat (j + 1 + 1)) - p2))]) := fun t k => K26 t (by
    refine Own.icmpYes X22 hx 53 (D d43_28) (flt (by decide : ¬ ((2 : Int32) < (2 : Int32)))).2.1 (by decide) (by decide) ?_
    refine Own.iload X22 hx (D d43_53) rfl ?_
    refine Own.iloadN X22 hx (D d43_55) rfl ?_
    refine Own.isub X22 hx (D d43_56) ?_
    exact k)
  have kp := (((Keep.refl h0 [o1]).wr W14 (Or.inl (List.mem_of_getElem? (i := 0) rfl))).wr W22 (Or.inl (List.mem_of_getElem? (i := 0) rfl)))
  exact Own.finI X22 hx (BodyLoose.notSynchronized Bd) Bd.returns (D d43_57) K27 (by decide) (by decide) (by rw [e22]; exact ⟨rfl, N22, kp, V22⟩)

set_option maxRecDepth 65536 in
set_option maxHeartbeats 40000000 in
theorem cAP3 (l : Launch) (Z : State) (a0 : Array Value) (hw : ∀ d ∈ tables_1, d.before a0 Z = true) (o0 : Addr) (o1 : Addr) (p2 : Int32) (p3 : Int32) (n0 : Nat) (b : Addr) (j : Nat) (xs : List Int32) (sl : Int32) (r0 : Int32) (r1 : Int32) (r2 : Int32) (h0 : Heap) (Z0 : n0 ≤ h0.size) (F0 : Fld Z h0 o0 "com/example/stemshear/stemshear/Rule" "suffixLength" "I" (.int sl)) (F1 : Fld Z h0 o0 "com/example/stemshear/stemshear/Rule" "replacementLetters" "[C" (.ref b)) (AB : Own.CA Z h0 b .char [r0, r1, r2]) (AX : Own.CA Z h0 o1 .char xs) (hxs : xs.length = 12) (hst : (p2 + p3) - sl = Int32.ofNat j) (hj : j ≤ 6) (hne : b ≠ o1) (g1 : n0 ≤ o1) (hr0 : own_let r0) (hr1 : own_let r1) (hr2 : own_let r2) : Own.Con l Z (⟨"com/example/stemshear/stemshear/Rule", "apply", "([CII)I"⟩ : MethodName) prog_36_method_20_code 9 (some .int) ({ frames := 0, cells := 0, slots := 0, locals := 0 } : Room) #[(.ref o0), (.ref o1), (.int p2), (.int p3)] h0 (fun v h L => v = some (.int (Int32.ofNat (j + 1 + 1 + 1) - p2)) ∧ Fr n0 L ∧ Keep h0 h [o1] ∧ Own.CA Z h o1 .char (own_pl [r0, r1, r2] xs j)) := by
  intro ws
  refine MetFree.of_bodySF (plainFor_of_name pn_6) hisR ?_
  intro p e s m args below meth c s₁ Bd hml0 hP hK
  obtain ⟨rfl, hZ, hh⟩ := hP
  have hx := Bd.exec
  have hby := Bd.bytes
  have D := fun {n : Nat} {i} (d : decode prog_36_method_20_code n = .ok i) => hb hby d
  have hml : c.maxLocals = 9 := hml0
  have hown : s.vm.findClass "com/example/stemshear/stemshear/Rule" = some m.cls := findClass_of_methodNamed Bd.named
  have hnm := (name_of_methodNamed Bd.named Bd.method).1
  have X0 : Stand p l e ({ frames := 0, cells := 0, slots := 0, locals := 0 } : Room) s m #[(.ref o0), (.ref o1), (.int p2), (.int p3)] below meth c s₁ [] 0 0 := Stand.of_body Bd
  have e0 : s₁.heap = h0 := by rw [← hh, Bd.state]; rfl
  have K0 : ∀ t, Steps p.tables e below (s₁.setTop (mkF m 0 #[vr o0, vr o1, vi p2, vi p3, .unset, .unset, .unset, .unset, .unset] [])) t → Steps p.tables e below (s₁.setTop (entryFrame m #[(.ref o0), (.ref o1), (.int p2), (.int p3)] 9)) t := fun t k => castTop (ef_43 m o0 o1 p2 p3) k
  generalize s₁.setTop (entryFrame m #[(.ref o0), (.ref o1), (.int p2), (.int p3)] 9) = B0 at K0 ⊢
  show Own.Fin p e below B0 s (({ frames := 0, cells := 0, slots := 0, locals := 0 } : Room)).cells (({ frames := 0, cells := 0, slots := 0, locals := 0 } : Room)).slots (fun v h L => v = some (.int (Int32.ofNat (j + 1 + 1 + 1) - p2)) ∧ Fr n0 L ∧ Keep h0 h [o1] ∧ Own.CA Z h o1 .char (own_pl [r0, r1, r2] xs j))
  have K1 : Own.To p e below B0 s₁ (mkF m 4 #[vr o0, vr o1, vi p2, vi p3, .unset, .unset, .unset, .unset, .unset] [(.ref o0), (.int (p2 + p3))]) := fun t k => K0 t (by
    refine Own.iloadN X0 hx (D d43_0) rfl ?_
    refine Own.iloadN X0 hx (D d43_1) rfl ?_
    refine Own.iadd X0 hx (D d43_2) ?_
    refine Own.aloadN X0 hx (D d43_3) rfl rfl ?_
    exact k)
  obtain ⟨T2, X2, e2, st2⟩ := Own.getF (Ls := #[vr o0, vr o1, vi p2, vi p3, .unset, .unset, .unset, .unset, .unset]) X0 hx hZ e0 hown (host := "") (Or.inl (W_ hw 64 rfl)) Via.refl F0 (S := [(.int (p2 + p3))]) (D d43_4)
  have K3 := fun t k => K1 t (st2 t k)
  have K4 : Own.To p e below B0 T2 (mkF m 10 #[vr o0, vr o1, vi p2, vi p3, vi ((p2 + p3) - sl), .unset, .unset, .unset, .unset] []) := fun t k => K3 t (by
    refine Own.isub X2 hx (D d43_7) ?_
    refine Own.istore X2 hx #[vr o0, vr o1, vi p2, vi p3, vi ((p2 + p3) - sl), .unset, .unset, .unset, .unset] (D d43_8) rfl ?_
    exact k)
  rw [hst] at K4
  have K5 : Own.To p e below B0 T2 (mkF m 11 #[vr o0, vr o1, vi p2, vi p3, vi (Int32.ofNat j), .unset, .unset, .unset, .unset] [(.ref o0)]) := fun t k => K4 t (by
    refine Own.aloadN X2 hx (D d43_10) rfl rfl ?_
    exact k)
  obtain ⟨T6, X6, e6, st6⟩ := Own.getF (Ls := #[vr o0, vr o1, vi p2, vi p3, vi (Int32.ofNat j), .unset, .unset, .unset, .unset]) X2 hx hZ e2 hown (host := "") (Or.inl (W_ hw 83 rfl)) Via.refl F1 (S := []) (D d43_11)
  have K7 := fun t k => K5 t (st6 t k)
  have K8 : Own.To p e below B0 T6 (mkF m 18 #[vr o0, vr o1, vi p2, vi p3, vi (Int32.ofNat j), vr b, .unset, .unset, .unset] [(.ref b)]) := fun t k => K7 t (by
    refine Own.astore X6 hx #[vr o0, vr o1, vi p2, vi p3, vi (Int32.ofNat j), vr b, .unset, .unset, .unset] (D d43_14) rfl rfl ?_
    refine Own.aload X6 hx (D d43_16) rfl rfl ?_
    exact k)
  obtain ⟨cq9, Aq9, lq9⟩ := Own.CA.len AB
  have K10 : Own.To p e below B0 T6 (mkF m 24 #[vr o0, vr o1, vi p2, vi p3, vi (Int32.ofNat j), vr b, vi 3, vi 0, .unset] []) := fun t k => K8 t (by
    refine Own.arraylength X6 hx (3 : Int32) hZ e6 Aq9 lq9 (D d43_18) ?_
    refine Own.istore X6 hx #[vr o0, vr o1, vi p2, vi p3, vi (Int32.ofNat j), vr b, vi 3, .unset, .unset] (D d43_19) rfl ?_
    refine Own.iconst X6 hx 0 (D d43_21) rfl ?_
    refine Own.istore X6 hx #[vr o0, vr o1, vi p2, vi p3, vi (Int32.ofNat j), vr b, vi 3, vi 0, .unset] (D d43_22) rfl ?_
    exact k)
  have K11 : Own.To p e below B0 T6 (mkF m 28 #[vr o0, vr o1, vi p2, vi p3, vi (Int32.ofNat j), vr b, vi 3, vi 0, .unset] [(.int 3), (.int 0)]) := fun t k => K10 t (by
    refine Own.iload X6 hx (D d43_24) rfl ?_
    refine Own.iload X6 hx (D d43_26) rfl ?_
    exact k)
  have K12 : Own.To p e below B0 T6 (mkF m 35 #[vr o0, vr o1, vi p2, vi p3, vi (Int32.ofNat j), vr b, vi 3, vi 0, .unset] [(.int 0), (.ref b)]) := fun t k => K11 t (by
    refine Own.icmpNo X6 hx (D d43_28) (tlt (by decide : (0 : Int32) < (3 : Int32))).2.1 ?_
    refine Own.aload X6 hx (D d43_31) rfl rfl ?_
    refine Own.iload X6 hx (D d43_33) rfl ?_
    exact k)
  have K13 : Own.To p e below B0 T6 (mkF m 46 #[vr o0, vr o1, vi p2, vi p3, vi ((Int32.ofNat j) + (1 : Int32)), vr b, vi 3, vi 0, vi r0] [(.int r0), (.int (Int32.ofNat j)), (.ref o1)]) := fun t k => K12 t (by
    refine Own.cal X6 hx hZ e6 AB r0 (by decide) (show (0 : Int32).toNatClampNeg < 3 by decide) rfl (D d43_35) ?_
    refine Own.istore X6 hx #[vr o0, vr o1, vi p2, vi p3, vi (Int32.ofNat j), vr b, vi 3, vi 0, vi r0] (D d43_36) rfl ?_
    refine Own.aloadN X6 hx (D d43_38) rfl rfl ?_
    refine Own.iload X6 hx (D d43_39) rfl ?_
    refine Own.iinc X6 hx ((Int32.ofNat j) + (1 : Int32)) #[vr o0, vr o1, vi p2, vi p3, vi ((Int32.ofNat j) + (1 : Int32)), vr b, vi 3, vi 0, vi r0] (D d43_41) rfl rfl rfl ?_
    refine Own.iload X6 hx (D d43_44) rfl ?_
    exact k)
  obtain ⟨T14, h14, L14, X14, e14, n14, W14, V14, st14⟩ := Own.stc (Ls := #[vr o0, vr o1, vi p2, vi p3, vi ((Int32.ofNat j) + (1 : Int32)), vr b, vi 3, vi 0, vi r0]) (S := []) (x := r0) (j := (Int32.ofNat j)) X6 hx hZ e6 AX j (Own.ofNat_clamp (by omega)) (Int32.ofNat_not_neg (by omega)) (by (try simp only [List.length_set]); omega) (D d43_46)
  rw [own_narb (own_let_ok hr0)] at V14
  have N14 : Fr n0 L14 := n14 n0 (Fr.nil _) g1
  have m15 : h0.size ≤ h14.size := Nat.le_of_eq W14.size.symm
  have K16 := fun t k => K13 t (st14 t k)
  have K17 : Own.To p e below B0 T14 (mkF m 24 #[vr o0, vr o1, vi p2, vi p3, vi ((Int32.ofNat j) + (1 : Int32)), vr b, vi 3, vi 1, vi r0] []) := fun t k => K16 t (by
    refine Own.iinc X14 hx (1 : Int32) #[vr o0, vr o1, vi p2, vi p3, vi ((Int32.ofNat j) + (1 : Int32)), vr b, vi 3, vi 1, vi r0] (D d43_47) rfl rfl rfl ?_
    refine Own.goto X14 hx 24 (D d43_50) (by decide) (by decide) ?_
    exact k)
  rw [own_inc] at K17
  have K18 : Own.To p e below B0 T14 (mkF m 28 #[vr o0, vr o1, vi p2, vi p3, vi (Int32.ofNat (j + 1)), vr b, vi 3, vi 1, vi r0] [(.int 3), (.int 1)]) := fun t k => K17 t (by
    refine Own.iload X14 hx (D d43_24) rfl ?_
    refine Own.iload X14 hx (D d43_26) rfl ?_
    exact k)
  have K19 : Own.To p e below B0 T14 (mkF m 35 #[vr o0, vr o1, vi p2, vi p3, vi (Int32.ofNat (j + 1)), vr b, vi 3, vi 1, vi r0] [(.int 1), (.ref b)]) := fun t k => K18 t (by
    refine Own.icmpNo X14 hx (D d43_28) (tlt (by decide : (1 : Int32) < (3 : Int32))).2.1 ?_
    refine Own.aload X14 hx (D d43_31) rfl rfl ?_
    refine Own.iload X14 hx (D d43_33) rfl ?_
    exact k)
  have f20 := (AB.other W14 hne)
  have K21 : Own.To p e below B0 T14 (mkF m 46 #[vr o0, vr o1, vi p2, vi p3, vi ((Int32.ofNat (j + 1)) + (1 : Int32)), vr b, vi 3, vi 1, vi r1] [(.int r1), (.int (Int32.ofNat (j + 1))), (.ref o1)]) := fun t k => K19 t (by
    refine Own.cal X14 hx hZ e14 f20 r1 (by decide) (show (1 : Int32).toNatClampNeg < 3 by decide) rfl (D d43_35) ?_
    refine Own.istore X14 hx #[vr o0, vr o1, vi p2, vi p3, vi (Int32.ofNat (j + 1)), vr b, vi 3, vi 1, vi r1] (D d43_36) rfl ?_
    refine Own.aloadN X14 hx (D d43_38) rfl rfl ?_
    refine Own.iload X14 hx (D d43_39) rfl ?_
    refine Own.iinc X14 hx ((Int32.ofNat (j + 1)) + (1 : Int32)) #[vr o0, vr o1, vi p2, vi p3, vi ((Int32.ofNat (j + 1)) + (1 : Int32)), vr b, vi 3, vi 1, vi r1] (D d43_41) rfl rfl rfl ?_
    refine Own.iload X14 hx (D d43_44) rfl ?_
    exact k)
  obtain ⟨T22, h22, L22, X22, e22, n22, W22, V22, st22⟩ := Own.stc (Ls := #[vr o0, vr o1, vi p2, vi p3, vi ((Int32.ofNat (j + 1)) + (1 : Int32)), vr b, vi 3, vi 1, vi r1]) (S := []) (x := r1) (j := (Int32.ofNat (j + 1))) X14 hx hZ e14 V14 (j + 1) (Own.ofNat_clamp (by omega)) (Int32.ofNat_not_neg (by omega)) (by (try simp only [List.length_set]); omega) (D d43_46)
  rw [own_narb (own_let_ok hr1)] at V22
  have N22 : Fr n0 L22 := n22 n0 N14 g1
  have m23 : h14.size ≤ h22.size := Nat.le_of_eq W22.size.symm
  have K24 := fun t k => K21 t (st22 t k)
  have K25 : Own.To p e below B0 T22 (mkF m 24 #[vr o0, vr o1, vi p2, vi p3, vi ((Int32.ofNat (j + 1)) + (1 : Int32)), vr b, vi 3, vi 2, vi r1] []) := fun t k => K24 t (by
    refine Own.iinc X22 hx (2 : Int32) #[vr o0, vr o1, vi p2, vi p3, vi ((Int32.ofNat (j + 1)) + (1 : Int32)), vr b, vi 3, vi 2, vi r1] (D d43_47) rfl rfl rfl ?_
    refine Own.goto X22 hx 24 (D d43_50) (by decide) (by decide) ?_
    exact k)
  rw [own_inc] at K25
  have K26 : Own.To p e below B0 T22 (mkF m 28 #[vr o0, vr o1, vi p2, vi p3, vi (Int32.ofNat (j + 1 + 1)), vr b, vi 3, vi 2, vi r1] [(.int 3), (.int 2)]) := fun t k => K25 t (by
    refine Own.iload X22 hx (D d43_24) rfl ?_
    refine Own.iload X22 hx (D d43_26) rfl ?_
    exact k)
  have K27 : Own.To p e below B0 T22 (mkF m 35 #[vr o0, vr o1, vi p2, vi p3, vi (Int32.ofNat (j + 1 + 1)), vr b, vi 3, vi 2, vi r1] [(.int 2), (.ref b)]) := fun t k => K26 t (by
    refine Own.icmpNo X22 hx (D d43_28) (tlt (by decide : (2 : Int32) < (3 : Int32))).2.1 ?_
    refine Own.aload X22 hx (D d43_31) rfl rfl ?_
    refine Own.iload X22 hx (D d43_33) rfl ?_
    exact k)
  have f28 := (f20.other W22 hne)
  have K29 : Own.To p e below B0 T22 (mkF m 46 #[vr o0, vr o1, vi p2, vi p3, vi ((Int32.ofNat (j + 1 + 1)) + (1 : Int32)), vr b, vi 3, vi 2, vi r2] [(.int r2), (.int (Int32.ofNat (j + 1 + 1))), (.ref o1)]) := fun t k => K27 t (by
    refine Own.cal X22 hx hZ e22 f28 r2 (by decide) (show (2 : Int32).toNatClampNeg < 3 by decide) rfl (D d43_35) ?_
    refine Own.istore X22 hx #[vr o0, vr o1, vi p2, vi p3, vi (Int32.ofNat (j + 1 + 1)), vr b, vi 3, vi 2, vi r2] (D d43_36) rfl ?_
    refine Own.aloadN X22 hx (D d43_38) rfl rfl ?_
    refine Own.iload X22 hx (D d43_39) rfl ?_
    refine Own.iinc X22 hx ((Int32.ofNat (j + 1 + 1)) + (1 : Int32)) #[vr o0, vr o1, vi p2, vi p3, vi ((Int32.ofNat (j + 1 + 1)) + (1 : Int32)), vr b, vi 3, vi 2, vi r2] (D d43_41) rfl rfl rfl ?_
    refine Own.iload X22 hx (D d43_44) rfl ?_
    exact k)
  obtain ⟨T30, h30, L30, X30, e30, n30, W30, V30, st30⟩ := Own.stc (Ls := #[vr o0, vr o1, vi p2, vi p3, vi ((Int32.ofNat (j + 1 + 1)) + (1 : Int32)), vr b, vi 3, vi 2, vi r2]) (S := []) (x := r2) (j := (Int32.ofNat (j + 1 + 1))) X22 hx hZ e22 V22 (j + 1 + 1) (Own.ofNat_clamp (by omega)) (Int32.ofNat_not_neg (by omega)) (by (try simp only [List.length_set]); omega) (D d43_46)
  rw [own_narb (own_let_ok hr2)] at V30
  have N30 : Fr n0 L30 := n30 n0 N22 g1
  have m31 : h22.size ≤ h30.size := Nat.le_of_eq W30.size.symm
  have K32 := fun t k => K29 t (st30 t k)
  have K33 : Own.To p e below B0 T30 (mkF m 24 #[vr o0, vr o1, vi p2, vi p3, vi ((Int32.ofNat (j + 1 + 1)) + (1 : Int32)), vr b, vi 3, vi 3, vi r2] []) := fun t k => K32 t (by
    refine Own.iinc X30 hx (3 : Int32) #[vr o0, vr o1, vi p2, vi p3, vi ((Int32.ofNat (j + 1 + 1)) + (1 : Int32)), vr b, vi 3, vi 3, vi r2] (D d43_47) rfl rfl rfl ?_
    refine Own.goto X30 hx 24 (D d43_50) (by decide) (by decide) ?_
    exact k)
  rw [own_inc] at K33
  have K34 : Own.To p e below B0 T30 (mkF m 28 #[vr o0, vr o1, vi p2, vi p3, vi (Int32.ofNat (j + 1 + 1 + 1)), vr b, vi 3, vi 3, vi r2] [(.int 3), (.int 3)]) := fun t k => K33 t (by
    refine Own.iload X30 hx (D d43_24) rfl ?_
    refine Own.iload X30 hx (D d43_26) rfl ?_
    exact k)
  have K35 : Own.To p e below B0 T30 (mkF m 57 #[vr o0, vr o1, vi p2, vi p3, vi (Int32.ofNat (j + 1 + 1 + 1)), vr b, vi 3, vi 3, vi r2] [(.int ((Int32.ofNat (j + 1 + 1 + 1)) - p2))]) := fun t k => K34 t (by
    refine Own.icmpYes X30 hx 53 (D d43_28) (flt (by decide : ¬ ((3 : Int32) < (3 : Int32)))).2.1 (by decide) (by decide) ?_
    refine Own.iload X30 hx (D d43_53) rfl ?_
    refine Own.iloadN X30 hx (D d43_55) rfl ?_
    refine Own.isub X30 hx (D d43_56) ?_
    exact k)
  have kp := ((((Keep.refl h0 [o1]).wr W14 (Or.inl (List.mem_of_getElem? (i := 0) rfl))).wr W22 (Or.inl (List.mem_of_getElem? (i := 0) rfl))).wr W30 (Or.inl (List.mem_of_getElem? (i := 0) rfl)))
  exact Own.finI X30 hx (BodyLoose.notSynchronized Bd) Bd.returns (D d43_57) K35 (by decide) (by decide) (by rw [e30]; exact ⟨rfl, N30, kp, V30⟩)

theorem cAPg (l : Launch) (Z : State) (a0 : Array Value) (hw : ∀ d ∈ tables_1, d.before a0 Z = true) (o0 o1 : Addr) (p2 p3 : Int32) (n0 : Nat) (b : Addr) (j : Nat) (xs : List Int32) (sl : Int32) (rs : List Int32) (h0 : Heap) (hrs : rs.length ≤ 3) (hl : ∀ c ∈ rs, own_let c) (Z0 : n0 ≤ h0.size) (F0 : Fld Z h0 o0 "com/example/stemshear/stemshear/Rule" "suffixLength" "I" (.int sl)) (F1 : Fld Z h0 o0 "com/example/stemshear/stemshear/Rule" "replacementLetters" "[C" (.ref b)) (AB : Own.CA Z h0 b .char rs) (AX : Own.CA Z h0 o1 .char xs) (hxs : xs.length = 12) (hst : (p2 + p3) - sl = Int32.ofNat j) (hj : j ≤ 6) (hne : b ≠ o1) (g1 : n0 ≤ o1) :
    Own.Con l Z (⟨"com/example/stemshear/stemshear/Rule", "apply", "([CII)I"⟩ : MethodName) prog_36_method_20_code 9 (some .int) ({ frames := 0, cells := 0, slots := 0, locals := 0 } : Room) #[(.ref o0), (.ref o1), (.int p2), (.int p3)] h0 (fun v h L => v = some (.int (Int32.ofNat (j + rs.length) - p2)) ∧ Fr n0 L ∧ Keep h0 h [o1] ∧ Own.CA Z h o1 .char (own_pl rs xs j)) :=
  match rs, hrs, hl, AB with
  | [], _, hl, AB => cAP0 l Z a0 hw o0 o1 p2 p3 n0 b j xs sl  h0 Z0 F0 F1 AB AX hxs hst hj hne g1 
  | [u], _, hl, AB => cAP1 l Z a0 hw o0 o1 p2 p3 n0 b j xs sl u h0 Z0 F0 F1 AB AX hxs hst hj hne g1 (hl u (List.mem_of_getElem? (i := 0) rfl))
  | [u, v], _, hl, AB => cAP2 l Z a0 hw o0 o1 p2 p3 n0 b j xs sl u v h0 Z0 F0 F1 AB AX hxs hst hj hne g1 (hl u (List.mem_of_getElem? (i := 0) rfl)) (hl v (List.mem_of_getElem? (i := 1) rfl))
  | [u, v, w], _, hl, AB => cAP3 l Z a0 hw o0 o1 p2 p3 n0 b j xs sl u v w h0 Z0 F0 F1 AB AX hxs hst hj hne g1 (hl u (List.mem_of_getElem? (i := 0) rfl)) (hl v (List.mem_of_getElem? (i := 1) rfl)) (hl w (List.mem_of_getElem? (i := 2) rfl))
  | _ :: _ :: _ :: _ :: _, h, _, _ => absurd h (by simp only [List.length_cons]; omega)

theorem d44_0 : decode J37 0 = .ok (.aload_n 1, 1) := by decide +kernel
theorem d44_1 : decode J37 1 = .ok (.iload_n 2, 1) := by decide +kernel
theorem d44_2 : decode J37 2 = .ok (.caload, 1) := by decide +kernel
theorem d44_3 : decode J37 3 = .ok (.istore 8, 2) := by decide +kernel
theorem d44_5 : decode J37 5 = .ok (.iload_n 2, 1) := by decide +kernel
theorem d44_6 : decode J37 6 = .ok (.iload_n 3, 1) := by decide +kernel
theorem d44_7 : decode J37 7 = .ok (.isub, 1) := by decide +kernel
theorem d44_8 : decode J37 8 = .ok (.istore 9, 2) := by decide +kernel
theorem d44_10 : decode J37 10 = .ok (.iload 9, 2) := by decide +kernel
theorem d44_12 : decode J37 12 = .ok (.ifCond .lt 35, 3) := by decide +kernel
theorem d44_15 : decode J37 15 = .ok (.iload 9, 2) := by decide +kernel
theorem d44_17 : decode J37 17 = .ok (.iload 4, 2) := by decide +kernel
theorem d44_19 : decode J37 19 = .ok (.if_icmp .ge 28, 3) := by decide +kernel
theorem d44_22 : decode J37 22 = .ok (.iload 9, 2) := by decide +kernel
theorem d44_24 : decode J37 24 = .ok (.ifCond .ne 8, 3) := by decide +kernel
theorem d44_27 : decode J37 27 = .ok (.iload 5, 2) := by decide +kernel
theorem d44_29 : decode J37 29 = .ok (.goto 16, 3) := by decide +kernel
theorem d44_32 : decode J37 32 = .ok (.iload 9, 2) := by decide +kernel
theorem d44_34 : decode J37 34 = .ok (.iconst 1, 1) := by decide +kernel
theorem d44_35 : decode J37 35 = .ok (.if_icmp .ne 8, 3) := by decide +kernel
theorem d44_38 : decode J37 38 = .ok (.iload 6, 2) := by decide +kernel
theorem d44_40 : decode J37 40 = .ok (.goto 5, 3) := by decide +kernel
theorem d44_43 : decode J37 43 = .ok (.iload 7, 2) := by decide +kernel
theorem d44_45 : decode J37 45 = .ok (.istore 8, 2) := by decide +kernel
theorem d44_47 : decode J37 47 = .ok (.aload_n 0, 1) := by decide +kernel
theorem d44_48 : decode J37 48 = .ok (.iload_n 2, 1) := by decide +kernel
theorem d44_49 : decode J37 49 = .ok (.caload, 1) := by decide +kernel
theorem d44_50 : decode J37 50 = .ok (.iload 8, 2) := by decide +kernel
theorem d44_52 : decode J37 52 = .ok (.if_icmp .ne 7, 3) := by decide +kernel
theorem d44_55 : decode J37 55 = .ok (.iconst 1, 1) := by decide +kernel
theorem d44_56 : decode J37 56 = .ok (.goto 4, 3) := by decide +kernel
theorem d44_59 : decode J37 59 = .ok (.iconst 0, 1) := by decide +kernel
theorem d44_60 : decode J37 60 = .ok (.ireturn, 1) := by decide +kernel
theorem ef_44 (m : MethodId) (o0 : Addr) (o1 : Addr) (p2 : Int32) (p3 : Int32) (p4 : Int32) (p5 : Int32) (p6 : Int32) (p7 : Int32) : entryFrame m #[(.ref o0), (.ref o1), (.int p2), (.int p3), (.int p4), (.int p5), (.int p6), (.int p7)] 10 = mkF m 0 #[.val (.ref o0), .val (.ref o1), .val (.int p2), .val (.int p3), .val (.int p4), .val (.int p5), .val (.int p6), .val (.int p7), .unset, .unset] [] := by first | (simp [entryFrame, mkF, argsToLocals, Value.category]; done) | rfl
def F44 (p2 : Int32) (p3 : Int32) (p4 : Int32) (p5 : Int32) (p6 : Int32) (p7 : Int32) (i : Nat) (xs : List Int32) (ys : List Int32) : Int32 := (nar .boolean (if (xs.getD i 0) = (if (p2 - p3) < (0 : Int32) then (ys.getD i 0) else (if (p2 - p3) < p4 then (if (p2 - p3) = (0 : Int32) then p5 else (if (p2 - p3) = (1 : Int32) then p6 else p7)) else (ys.getD i 0))) then (1 : Int32) else (0 : Int32)))
set_option maxRecDepth 65536 in
set_option maxHeartbeats 40000000 in
theorem c44 (l : Launch) (Z : State) (a0 : Array Value) (hw : ∀ d ∈ tables_1, d.before a0 Z = true) (o0 : Addr) (o1 : Addr) (p2 : Int32) (p3 : Int32) (p4 : Int32) (p5 : Int32) (p6 : Int32) (p7 : Int32) (i : Nat) (xs : List Int32) (ys : List Int32) (h0 : Heap) (AX : Own.CA Z h0 o0 .char xs) (AY : Own.CA Z h0 o1 .char ys) (hxs : xs.length = 12) (hys : ys.length = 12) (hi : i < 12) (hp2 : p2 = Int32.ofNat i) : Own.Con l Z (⟨"com/example/stemshear/stemshear/RuleApplyPinLaw", "same", "([C[CIIICCC)Z"⟩ : MethodName) method_7_code 10 (some .boolean) ({ frames := 0, cells := 0, slots := 0, locals := 0 } : Room) #[(.ref o0), (.ref o1), (.int p2), (.int p3), (.int p4), (.int p5), (.int p6), (.int p7)] h0 (Own.Pure (.int (F44 p2 p3 p4 p5 p6 p7 i xs ys)) h0) := by
  intro ws
  refine MetFree.of_bodySF (plainFor_of_name pn_7) hisR ?_
  intro p e s m args below meth c s₁ Bd hml0 hP hK
  obtain ⟨rfl, hZ, hh⟩ := hP
  have hx := Bd.exec
  have hby := Bd.bytes
  have D := fun {n : Nat} {i} (d : decode method_7_code n = .ok i) => hb hby d
  have hml : c.maxLocals = 10 := hml0
  have hown : s.vm.findClass "com/example/stemshear/stemshear/RuleApplyPinLaw" = some m.cls := findClass_of_methodNamed Bd.named
  have hnm := (name_of_methodNamed Bd.named Bd.method).1
  have X0 : Stand p l e ({ frames := 0, cells := 0, slots := 0, locals := 0 } : Room) s m #[(.ref o0), (.ref o1), (.int p2), (.int p3), (.int p4), (.int p5), (.int p6), (.int p7)] below meth c s₁ [] 0 0 := Stand.of_body Bd
  have e0 : s₁.heap = h0 := by rw [← hh, Bd.state]; rfl
  have K0 : ∀ t, Steps p.tables e below (s₁.setTop (mkF m 0 #[vr o0, vr o1, vi p2, vi p3, vi p4, vi p5, vi p6, vi p7, .unset, .unset] [])) t → Steps p.tables e below (s₁.setTop (entryFrame m #[(.ref o0), (.ref o1), (.int p2), (.int p3), (.int p4), (.int p5), (.int p6), (.int p7)] 10)) t := fun t k => castTop (ef_44 m o0 o1 p2 p3 p4 p5 p6 p7) k
  generalize s₁.setTop (entryFrame m #[(.ref o0), (.ref o1), (.int p2), (.int p3), (.int p4), (.int p5), (.int p6), (.int p7)] 10) = B0 at K0 ⊢
  show Own.Fin p e below B0 s (({ frames := 0, cells := 0, slots := 0, locals := 0 } : Room)).cells (({ frames := 0, cells := 0, slots := 0, locals := 0 } : Room)).slots (Own.Pure (.int (F44 p2 p3 p4 p5 p6 p7 i xs ys)) h0)
  have K1 : Own.To p e below B0 s₁ (mkF m 2 #[vr o0, vr o1, vi p2, vi p3, vi p4, vi p5, vi p6, vi p7, .unset, .unset] [(.int p2), (.ref o1)]) := fun t k => K0 t (by
    refine Own.aloadN X0 hx (D d44_0) rfl rfl ?_
    refine Own.iloadN X0 hx (D d44_1) rfl ?_
    exact k)
  have K2 : Own.To p e below B0 s₁ (mkF m 12 #[vr o0, vr o1, vi p2, vi p3, vi p4, vi p5, vi p6, vi p7, vi (ys.getD i 0), vi (p2 - p3)] [(.int (p2 - p3))]) := fun t k => K1 t (by
    refine Own.cal (j := p2) X0 hx hZ e0 AY (ys.getD i 0) (by rw [hp2]; exact Int32.ofNat_not_neg (by omega)) (by rw [hp2, Own.ofNat_clamp (by omega)]; omega) (by rw [hp2, Own.ofNat_clamp (by omega)]) (D d44_2) ?_
    refine Own.istore X0 hx #[vr o0, vr o1, vi p2, vi p3, vi p4, vi p5, vi p6, vi p7, vi (ys.getD i 0), .unset] (D d44_3) rfl ?_
    refine Own.iloadN X0 hx (D d44_5) rfl ?_
    refine Own.iloadN X0 hx (D d44_6) rfl ?_
    refine Own.isub X0 hx (D d44_7) ?_
    refine Own.istore X0 hx #[vr o0, vr o1, vi p2, vi p3, vi p4, vi p5, vi p6, vi p7, vi (ys.getD i 0), vi (p2 - p3)] (D d44_8) rfl ?_
    refine Own.iload X0 hx (D d44_10) rfl ?_
    exact k)
  obtain ⟨x22, hx22⟩ : ∃ z : Int32, z = (if (p2 - p3) < (0 : Int32) then (ys.getD i 0) else (if (p2 - p3) < p4 then (if (p2 - p3) = (0 : Int32) then p5 else (if (p2 - p3) = (1 : Int32) then p6 else p7)) else (ys.getD i 0))) := ⟨_, rfl⟩
  obtain ⟨T23, X23, e23, K23⟩ : ∃ T' : State, Stand p l e ({ frames := 0, cells := 0, slots := 0, locals := 0 } : Room) s m #[(.ref o0), (.ref o1), (.int p2), (.int p3), (.int p4), (.int p5), (.int p6), (.int p7)] below meth c T' [] 0 0 ∧ T'.heap = h0 ∧ Own.To p e below B0 T' (mkF m 47 #[vr o0, vr o1, vi p2, vi p3, vi p4, vi p5, vi p6, vi p7, vi x22, vi (p2 - p3)] []) := by
    by_cases hc3 : (p2 - p3) < (0 : Int32)
    · have K4 : Own.To p e below B0 s₁ (mkF m 47 #[vr o0, vr o1, vi p2, vi p3, vi p4, vi p5, vi p6, vi p7, vi (ys.getD i 0), vi (p2 - p3)] []) := fun t k => K2 t (by
        refine Own.ifYes X0 hx 47 (D d44_12) ((if0 _ _).trans (tlt hc3).1) (by decide) (by decide) ?_
        exact k)
      exact ⟨s₁, X0, e0, fun t k => K4 t (by rw [hx22, if_pos hc3] at k; exact k)⟩
    · have K5 : Own.To p e below B0 s₁ (mkF m 19 #[vr o0, vr o1, vi p2, vi p3, vi p4, vi p5, vi p6, vi p7, vi (ys.getD i 0), vi (p2 - p3)] [(.int p4), (.int (p2 - p3))]) := fun t k => K2 t (by
        refine Own.ifNo X0 hx (D d44_12) ((if0 _ _).trans (flt hc3).1) ?_
        refine Own.iload X0 hx (D d44_15) rfl ?_
        refine Own.iload X0 hx (D d44_17) rfl ?_
        exact k)
      obtain ⟨x20, hx20⟩ : ∃ z : Int32, z = (if (p2 - p3) < p4 then (if (p2 - p3) = (0 : Int32) then p5 else (if (p2 - p3) = (1 : Int32) then p6 else p7)) else (ys.getD i 0)) := ⟨_, rfl⟩
      obtain ⟨T21, X21, e21, K21⟩ : ∃ T' : State, Stand p l e ({ frames := 0, cells := 0, slots := 0, locals := 0 } : Room) s m #[(.ref o0), (.ref o1), (.int p2), (.int p3), (.int p4), (.int p5), (.int p6), (.int p7)] below meth c T' [] 0 0 ∧ T'.heap = h0 ∧ Own.To p e below B0 T' (mkF m 47 #[vr o0, vr o1, vi p2, vi p3, vi p4, vi p5, vi p6, vi p7, vi x20, vi (p2 - p3)] []) := by
        by_cases hc6 : (p2 - p3) < p4
        · have K7 : Own.To p e below B0 s₁ (mkF m 24 #[vr o0, vr o1, vi p2, vi p3, vi p4, vi p5, vi p6, vi p7, vi (ys.getD i 0), vi (p2 - p3)] [(.int (p2 - p3))]) := fun t k => K5 t (by
            refine Own.icmpNo X0 hx (D d44_19) (tlt hc6).2.1 ?_
            refine Own.iload X0 hx (D d44_22) rfl ?_
            exact k)
          obtain ⟨x16, hx16⟩ : ∃ z : Int32, z = (if (p2 - p3) = (0 : Int32) then p5 else (if (p2 - p3) = (1 : Int32) then p6 else p7)) := ⟨_, rfl⟩
          obtain ⟨T17, X17, e17, K17⟩ : ∃ T' : State, Stand p l e ({ frames := 0, cells := 0, slots := 0, locals := 0 } : Room) s m #[(.ref o0), (.ref o1), (.int p2), (.int p3), (.int p4), (.int p5), (.int p6), (.int p7)] below meth c T' [] 0 0 ∧ T'.heap = h0 ∧ Own.To p e below B0 T' (mkF m 45 #[vr o0, vr o1, vi p2, vi p3, vi p4, vi p5, vi p6, vi p7, vi (ys.getD i 0), vi (p2 - p3)] [(.int x16)]) := by
            by_cases hc8 : (p2 - p3) = (0 : Int32)
            · have K9 : Own.To p e below B0 s₁ (mkF m 45 #[vr o0, vr o1, vi p2, vi p3, vi p4, vi p5, vi p6, vi p7, vi (ys.getD i 0), vi (p2 - p3)] [(.int p5)]) := fun t k => K7 t (by
                refine Own.ifNo X0 hx (D d44_24) ((if0 _ _).trans (teq hc8).2) ?_
                refine Own.iload X0 hx (D d44_27) rfl ?_
                refine Own.goto X0 hx 45 (D d44_29) (by decide) (by decide) ?_
                exact k)
              exact ⟨s₁, X0, e0, fun t k => K9 t (by rw [hx16, if_pos hc8] at k; exact k)⟩
            · have K10 : Own.To p e below B0 s₁ (mkF m 35 #[vr o0, vr o1, vi p2, vi p3, vi p4, vi p5, vi p6, vi p7, vi (ys.getD i 0), vi (p2 - p3)] [(.int 1), (.int (p2 - p3))]) := fun t k => K7 t (by
                refine Own.ifYes X0 hx 32 (D d44_24) ((if0 _ _).trans (feq hc8).2) (by decide) (by decide) ?_
                refine Own.iload X0 hx (D d44_32) rfl ?_
                refine Own.iconst X0 hx 1 (D d44_34) rfl ?_
                exact k)
              obtain ⟨x14, hx14⟩ : ∃ z : Int32, z = (if (p2 - p3) = (1 : Int32) then p6 else p7) := ⟨_, rfl⟩
              obtain ⟨T15, X15, e15, K15⟩ : ∃ T' : State, Stand p l e ({ frames := 0, cells := 0, slots := 0, locals := 0 } : Room) s m #[(.ref o0), (.ref o1), (.int p2), (.int p3), (.int p4), (.int p5), (.int p6), (.int p7)] below meth c T' [] 0 0 ∧ T'.heap = h0 ∧ Own.To p e below B0 T' (mkF m 45 #[vr o0, vr o1, vi p2, vi p3, vi p4, vi p5, vi p6, vi p7, vi (ys.getD i 0), vi (p2 - p3)] [(.int x14)]) := by
                by_cases hc11 : (p2 - p3) = (1 : Int32)
                · have K12 : Own.To p e below B0 s₁ (mkF m 45 #[vr o0, vr o1, vi p2, vi p3, vi p4, vi p5, vi p6, vi p7, vi (ys.getD i 0), vi (p2 - p3)] [(.int p6)]) := fun t k => K10 t (by
                    refine Own.icmpNo X0 hx (D d44_35) (teq hc11).2 ?_
                    refine Own.iload X0 hx (D d44_38) rfl ?_
                    refine Own.goto X0 hx 45 (D d44_40) (by decide) (by decide) ?_
                    exact k)
                  exact ⟨s₁, X0, e0, fun t k => K12 t (by rw [hx14, if_pos hc11] at k; exact k)⟩
                · have K13 : Own.To p e below B0 s₁ (mkF m 45 #[vr o0, vr o1, vi p2, vi p3, vi p4, vi p5, vi p6, vi p7, vi (ys.getD i 0), vi (p2 - p3)] [(.int p7)]) := fun t k => K10 t (by
                    refine Own.icmpYes X0 hx 43 (D d44_35) (feq hc11).2 (by decide) (by decide) ?_
                    refine Own.iload X0 hx (D d44_43) rfl ?_
                    exact k)
                  exact ⟨s₁, X0, e0, fun t k => K13 t (by rw [hx14, if_neg hc11] at k; exact k)⟩
              exact ⟨T15, X15, e15, fun t k => K15 t (by subst hx14; rw [hx16, if_neg hc8] at k; exact k)⟩
          have K18 : Own.To p e below B0 T17 (mkF m 47 #[vr o0, vr o1, vi p2, vi p3, vi p4, vi p5, vi p6, vi p7, vi x16, vi (p2 - p3)] []) := fun t k => K17 t (by
            refine Own.istore X17 hx #[vr o0, vr o1, vi p2, vi p3, vi p4, vi p5, vi p6, vi p7, vi x16, vi (p2 - p3)] (D d44_45) rfl ?_
            exact k)
          exact ⟨T17, X17, e17, fun t k => K18 t (by subst hx16; rw [hx20, if_pos hc6] at k; exact k)⟩
        · have K19 : Own.To p e below B0 s₁ (mkF m 47 #[vr o0, vr o1, vi p2, vi p3, vi p4, vi p5, vi p6, vi p7, vi (ys.getD i 0), vi (p2 - p3)] []) := fun t k => K5 t (by
            refine Own.icmpYes X0 hx 47 (D d44_19) (flt hc6).2.1 (by decide) (by decide) ?_
            exact k)
          exact ⟨s₁, X0, e0, fun t k => K19 t (by rw [hx20, if_neg hc6] at k; exact k)⟩
      exact ⟨T21, X21, e21, fun t k => K21 t (by subst hx20; rw [hx22, if_neg hc3] at k; exact k)⟩
  have K24 : Own.To p e below B0 T23 (mkF m 49 #[vr o0, vr o1, vi p2, vi p3, vi p4, vi p5, vi p6, vi p7, vi x22, vi (p2 - p3)] [(.int p2), (.ref o0)]) := fun t k => K23 t (by
    refine Own.aloadN X23 hx (D d44_47) rfl rfl ?_
    refine Own.iloadN X23 hx (D d44_48) rfl ?_
    exact k)
  have K25 : Own.To p e below B0 T23 (mkF m 52 #[vr o0, vr o1, vi p2, vi p3, vi p4, vi p5, vi p6, vi p7, vi x22, vi (p2 - p3)] [(.int x22), (.int (xs.getD i 0))]) := fun t k => K24 t (by
    refine Own.cal (j := p2) X23 hx hZ e23 AX (xs.getD i 0) (by rw [hp2]; exact Int32.ofNat_not_neg (by omega)) (by rw [hp2, Own.ofNat_clamp (by omega)]; omega) (by rw [hp2, Own.ofNat_clamp (by omega)]) (D d44_49) ?_
    refine Own.iload X23 hx (D d44_50) rfl ?_
    exact k)
  obtain ⟨x29, hx29⟩ : ∃ z : Int32, z = (if (xs.getD i 0) = x22 then (1 : Int32) else (0 : Int32)) := ⟨_, rfl⟩
  obtain ⟨T30, X30, e30, K30⟩ : ∃ T' : State, Stand p l e ({ frames := 0, cells := 0, slots := 0, locals := 0 } : Room) s m #[(.ref o0), (.ref o1), (.int p2), (.int p3), (.int p4), (.int p5), (.int p6), (.int p7)] below meth c T' [] 0 0 ∧ T'.heap = h0 ∧ Own.To p e below B0 T' (mkF m 60 #[vr o0, vr o1, vi p2, vi p3, vi p4, vi p5, vi p6, vi p7, vi x22, vi (p2 - p3)] [(.int x29)]) := by
    by_cases hc26 : (xs.getD i 0) = x22
    · have K27 : Own.To p e below B0 T23 (mkF m 60 #[vr o0, vr o1, vi p2, vi p3, vi p4, vi p5, vi p6, vi p7, vi x22, vi (p2 - p3)] [(.int 1)]) := fun t k => K25 t (by
        refine Own.icmpNo X23 hx (D d44_52) (teq hc26).2 ?_
        refine Own.iconst X23 hx 1 (D d44_55) rfl ?_
        refine Own.goto X23 hx 60 (D d44_56) (by decide) (by decide) ?_
        exact k)
      exact ⟨T23, X23, e23, fun t k => K27 t (by rw [hx29, if_pos hc26] at k; exact k)⟩
    · have K28 : Own.To p e below B0 T23 (mkF m 60 #[vr o0, vr o1, vi p2, vi p3, vi p4, vi p5, vi p6, vi p7, vi x22, vi (p2 - p3)] [(.int 0)]) := fun t k => K25 t (by
        refine Own.icmpYes X23 hx 59 (D d44_52) (feq hc26).2 (by decide) (by decide) ?_
        refine Own.iconst X23 hx 0 (D d44_59) rfl ?_
        exact k)
      exact ⟨T23, X23, e23, fun t k => K28 t (by rw [hx29, if_neg hc26] at k; exact k)⟩
  exact Own.finN X30 hx (BodyLoose.notSynchronized Bd) Bd.returns (by simp) (D d44_60) K30 (by decide) (by decide) ⟨by subst hx29 hx22; unfold F44; rfl, rfl, e30⟩

theorem own_l3 (x : Int32) : (x &&& 3) = 0 ∨ (x &&& 3) = 1 ∨ (x &&& 3) = 2 ∨ (x &&& 3) = 3 := by
  have h := own_mask x 2 3 (by decide) (by omega)
  simp only [← Int32.toInt_inj]
  have h0 : (0 : Int32).toInt = 0 := by decide
  have h1 : (1 : Int32).toInt = 1 := by decide
  have h2 : (2 : Int32).toInt = 2 := by decide
  have h3 : (3 : Int32).toInt = 3 := by decide
  rw [h0, h1, h2, h3]; omega
theorem own_mk_n {n a b c : Int32} (hn : n = 0 ∨ n = 1 ∨ n = 2 ∨ n = 3) : Int32.ofNat (own_mk n a b c).length = n := by
  rcases hn with rfl | rfl | rfl | rfl <;> rfl
theorem own_3n {x : Int32} (h : x = 0 ∨ x = 1 ∨ x = 2 ∨ x = 3) : ∃ i : Nat, i ≤ 3 ∧ x = Int32.ofNat i := by
  rcases h with rfl | rfl | rfl | rfl
  · exact ⟨0, by decide, rfl⟩
  · exact ⟨1, by decide, rfl⟩
  · exact ⟨2, by decide, rfl⟩
  · exact ⟨3, by decide, rfl⟩
theorem own_sum6 (x y : Int32) : ∃ j : Nat, j ≤ 6 ∧ (x &&& 3) + (y &&& 3) = Int32.ofNat j := by
  obtain ⟨a, ha, ea⟩ := own_3n (own_l3 x)
  obtain ⟨b, hb, eb⟩ := own_3n (own_l3 y)
  exact ⟨a + b, by omega, by rw [ea, eb, Int32.ofNat_add]⟩
theorem own_stem {a b n : Int32} {j : Nat} (ej : a + b = Int32.ofNat j) : (a + (b + n)) - n = Int32.ofNat j := by
  rw [← ej, ← Int32.add_assoc]; first | exact Int32.add_sub_cancel _ _ | simp
theorem own_ret {a b m c1 c2 c3 : Int32} {j : Nat} (ej : a + b = Int32.ofNat j) (hm : m = 0 ∨ m = 1 ∨ m = 2 ∨ m = 3) : (Int32.ofNat (j + (own_mk m c1 c2 c3).length) - a) = b + m := by
  rw [Int32.ofNat_add, own_mk_n hm, ← ej, Int32.add_assoc, Int32.add_comm a]; first | exact Int32.add_sub_cancel _ _ | simp
theorem own_dif (j d : Nat) : Int32.ofNat (j + d) - Int32.ofNat j = Int32.ofNat d := by
  rw [Int32.ofNat_add, Int32.add_comm]; first | exact Int32.add_sub_cancel _ _ | simp
theorem own_ge3 {d : Nat} (h : d ≤ 11) {m : Int32} (hm : m = 0 ∨ m = 1 ∨ m = 2 ∨ m = 3) (h3 : 3 ≤ d) : ¬ Int32.ofNat d < m := by
  rw [Int32.lt_iff_toInt_lt, Int32.toInt_ofNat_small (by omega)]
  rcases hm with rfl | rfl | rfl | rfl
  · rw [show (0 : Int32).toInt = 0 by decide]; omega
  · rw [show (1 : Int32).toInt = 1 by decide]; omega
  · rw [show (2 : Int32).toInt = 2 by decide]; omega
  · rw [show (3 : Int32).toInt = 3 by decide]; omega
theorem own_pick {m c1 c2 c3 z : Int32} {d : Nat} (hd : d ≤ 11) (hm : m = 0 ∨ m = 1 ∨ m = 2 ∨ m = 3) : (if d < (own_mk m c1 c2 c3).length then (own_mk m c1 c2 c3).getD d 0 else z) = (if Int32.ofNat d < (0 : Int32) then z else (if Int32.ofNat d < m then (if Int32.ofNat d = (0 : Int32) then c1 else (if Int32.ofNat d = (1 : Int32) then c2 else c3)) else z)) := by
  rw [if_neg (Int32.ofNat_not_neg (by omega) : ¬ Int32.ofNat d < 0)]
  by_cases h3 : 3 ≤ d
  · rw [if_neg (own_ge3 hd hm h3), if_neg (fun q => absurd (Nat.lt_of_lt_of_le q (own_mk_len m c1 c2 c3)) (by omega))]
  · have h4 : d = 0 ∨ d = 1 ∨ d = 2 := by omega
    rcases h4 with rfl | rfl | rfl <;> rcases hm with rfl | rfl | rfl | rfl <;> rfl
theorem own_sm {i : Nat} {pi at_ m c1 c2 c3 : Int32} {j : Nat} {xs ys : List Int32} (hi : i < 12) (hpi : pi = Int32.ofNat i) (ej : at_ = Int32.ofNat j) (hj : j ≤ 6) (hy : ys.length = 12) (hm : m = 0 ∨ m = 1 ∨ m = 2 ∨ m = 3) (e : xs = own_pl (own_mk m c1 c2 c3) ys j) : F44 pi at_ m c1 c2 c3 i xs ys = 1 := by
  have hl := own_mk_len m c1 c2 c3
  unfold F44
  rw [if_pos]
  · rfl
  · rw [e, own_pl_get _ _ _ _ (by omega), hpi, ej]
    by_cases h1 : i < j
    · rw [if_neg (by omega), if_pos]
      rw [Int32.lt_iff_toInt_lt, Int32.toInt_sub, Int32.toInt_ofNat_small (by omega), Int32.toInt_ofNat_small (by omega), show (0 : Int32).toInt = 0 by decide, Int.bmod_eq_of_le (by omega) (by omega)]; omega
    · obtain ⟨d, rfl⟩ : ∃ d, i = j + d := ⟨i - j, by omega⟩
      rw [own_dif, ← own_pick (by omega) hm, show j + d - j = d by omega]
      by_cases h2 : d < (own_mk m c1 c2 c3).length
      · rw [if_pos h2, if_pos (by omega)]
      · rw [if_neg h2, if_neg (by omega)]

theorem own_eqi {args : Array Value} {s : State} {a : Term} {n : Int32} {idx : List Nat} (h : (Jvm.Cond.eq a (Jvm.Term.int n)).value args s none s idx = some true) : a.eval args s none idx s = some (.int n) := by
  simp only [Cond.value, Term.int_eval] at h
  cases ha : a.eval args s none idx s with
  | none => simp [ha] at h
  | some x => cases x <;> simp [ha] at h
              rw [h]
theorem own_lenT {args : Array Value} {s : State} {t : Term} {w : Addr} {cl : Cell} {n : Int32} (ht : t.eval args s none [] s = some (.ref w)) (ha : s.arrayAt? w = some cl) (h : (Jvm.Term.length t).eval args s none [] s = some (.int n)) : cl.slots.size < 2 ^ 31 ∧ cl.slots.size.toInt32 = n := by
  simpa [Term.eval, ht, ha] using h
theorem own_lets {c : Int32} (h : own_let c) : ∃ i : Nat, i < 26 ∧ c = Int32.ofNat (97 + i) := by
  obtain ⟨h1, h2⟩ := h
  rw [Int32.lt_iff_toInt_lt, show (97 : Int32).toInt = 97 by decide] at h1
  rw [Int32.lt_iff_toInt_lt, show (122 : Int32).toInt = 122 by decide] at h2
  obtain ⟨k, hk, rfl⟩ := own_nat (x := c) (n := 123) (by omega) (by omega) (by decide)
  rw [Int32.toInt_ofNat_small (by omega)] at h1
  exact ⟨k - 97, by omega, by congr 1; omega⟩
theorem own_26 : ∀ {P : Nat → Prop}, (∀ i ∈ List.range 26, P i) → ∀ i, i < 26 → P i := fun h i hi => h i (List.mem_range.mpr hi)
theorem own_allz {args : Array Value} {s : State} {t : Term} {w : Addr} {cl : Cell} {lo hi v : Int32} (ht : t.eval args s none [] s = some (.ref w)) (htk : ∀ k, t.eval args s none [k] s = some (.ref w)) (ha : s.arrayAt? w = some cl) (hc : s.heap[w]? = some cl)
    (h : (Jvm.Cond.all t (Jvm.Cond.or (Jvm.Cond.lt (Jvm.Term.index 0) (Jvm.Term.int lo)) (Jvm.Cond.or (Jvm.Cond.le (Jvm.Term.int hi) (Jvm.Term.index 0)) (Jvm.Cond.eq (Jvm.Term.elem t (Jvm.Term.index 0)) (Jvm.Term.int v))))).value args s none s [] = some true) (k : Nat) (hk : k < cl.slots.size) (hk2 : k < 2 ^ 31) (h1 : ¬ k.toInt32 < lo) (h2 : ¬ hi ≤ k.toInt32) : cl.slots[k]? = some (.int v) := by
  have q := Cond.all_elim ht ha h k hk
  have ej : (Term.index 0).eval args s none [k] s = some (.int k.toInt32) := Term.index_eval k
  simp only [Cond.value, ej, Term.int_eval] at q
  simp only [h1, h2, decide_false] at q
  have q2 : (Jvm.Cond.eq (Jvm.Term.elem t (Jvm.Term.index 0)) (Jvm.Term.int v)).value args s none s [k] = some true := by
    simp only [Cond.value, Term.int_eval]
    simpa using q
  have ein := (elem_in (own_eqi q2) (htk k) ej hc).2
  rwa [show k.toInt32.toNatClampNeg = k from Own.ofNat_clamp hk2] at ein

theorem pd_34 : parseMethodDescriptor "(II)C" = some ⟨[.int, .int], some .char⟩ := by decide +kernel
theorem pd_35 : parseMethodDescriptor "(ICCC)Ljava/lang/String;" = some ⟨[.int, .char, .char, .char], some (.object "java/lang/String")⟩ := by decide +kernel
theorem pd_36 : parseMethodDescriptor "(Ljava/lang/String;Ljava/lang/String;I)V" = some ⟨[(.object "java/lang/String"), (.object "java/lang/String"), .int], none⟩ := by decide +kernel
theorem pd_37 : parseMethodDescriptor "(JI)[C" = some ⟨[.long, .int], some (.array .char)⟩ := by decide +kernel
theorem pd_38 : parseMethodDescriptor "([CIICCC)V" = some ⟨[(.array .char), .int, .int, .char, .char, .char], none⟩ := by decide +kernel
theorem pd_39 : parseMethodDescriptor "([CII)I" = some ⟨[(.array .char), .int, .int], some .int⟩ := by decide +kernel
theorem pd_40 : parseMethodDescriptor "([C[CIIICCC)Z" = some ⟨[(.array .char), (.array .char), .int, .int, .int, .char, .char, .char], some .boolean⟩ := by decide +kernel
theorem ef_0 (m : MethodId) (p0 : Int32) (p1 : Int32) (p2 : Int32) (q3 : Int64) (p4 : Int32) : entryFrame m #[(.int p0), (.int p1), (.int p2), (.long q3), (.int p4)] maxLocals = mkF m 0 #[.val (.int p0), .val (.int p1), .val (.int p2), .val (.long q3), .second, .val (.int p4), .unset, .unset, .unset, .unset, .unset, .unset, .unset, .unset, .unset, .unset, .unset, .unset, .unset, .unset, .unset, .unset, .unset, .unset, .unset, .unset] [] := by first | (simp [entryFrame, mkF, argsToLocals, Value.category, maxLocals]; done) | rfl
set_option maxRecDepth 65536 in
set_option maxHeartbeats 40000000 in
theorem c0 (l : Launch) (Z : State) (a0 : Array Value) (hw : ∀ d ∈ tables_1, d.before a0 Z = true) (p0 : Int32) (p1 : Int32) (p2 : Int32) (q3 : Int64) (p4 : Int32) (wK : Addr) (G1 : Int32) (h0 : Heap) (SK : Sta Z h0 "com/example/stemshear/stemshear/Condition" "KINDS" "[B" (.ref wK)) (KD : own_KD Z h0 wK) (SC : Sta Z h0 "java/lang/String" "COMPACT_STRINGS" "Z" (.int G1)) (hG1 : ¬ G1 = 0) : Own.ConH l Z own_EL x code maxLocals ret room_1 #[(.int p0), (.int p1), (.int p2), (.long q3), (.int p4)] h0 (Own.Law1 h0) := by
  intro ws
  refine MetFree.of_bodySF (plainFor_of_name pn_7) hisR ?_
  intro p e s m args below meth c s₁ Bd hml0 hP hK
  obtain ⟨rfl, hZ, hh, hH⟩ := hP
  have hx := Bd.exec
  have hby := Bd.bytes
  have D := fun {n : Nat} {i} (d : decode code n = .ok i) => hb hby d
  have hml : c.maxLocals = 26 := hml0
  have hown : s.vm.findClass "com/example/stemshear/stemshear/RuleApplyPinLaw" = some m.cls := findClass_of_methodNamed Bd.named
  have hnm := (name_of_methodNamed Bd.named Bd.method).1
  have X0 : Stand p l e room_1 (s.setVm s.vm) m #[(.int p0), (.int p1), (.int p2), (.long q3), (.int p4)] below meth c s₁ [] 0 0 := Stand.of_body Bd
  have e0 : s₁.heap = h0 := by rw [← hh, Bd.state]; rfl
  have D0 : Own.Wd s Z own_EL "com/example/stemshear/stemshear/RuleApplyPinLaw" m.cls s.vm h0 := by rw [← hh]; exact Own.Wd.start hZ hown (by rw [hh]; exact hH)
  have K0 : ∀ t, Steps p.tables e below (s₁.setTop (mkF m 0 #[vi p0, vi p1, vi p2, vl q3, .second, vi p4, .unset, .unset, .unset, .unset, .unset, .unset, .unset, .unset, .unset, .unset, .unset, .unset, .unset, .unset, .unset, .unset, .unset, .unset, .unset, .unset] [])) t → Steps p.tables e below (s₁.setTop (entryFrame m #[(.int p0), (.int p1), (.int p2), (.long q3), (.int p4)] maxLocals)) t := fun t k => castTop (ef_0 m p0 p1 p2 q3 p4) k
  generalize s₁.setTop (entryFrame m #[(.int p0), (.int p1), (.int p2), (.long q3), (.int p4)] maxLocals) = B0 at K0 ⊢
  show Own.FinH p e below B0 s Z own_EL (room_1).cells (room_1).slots (Own.Law1 h0)
  obtain ⟨n0, hn0⟩ : ∃ z, z = h0.size := ⟨_, rfl⟩
  have Z0 : n0 ≤ h0.size := Nat.le_of_eq hn0
  obtain ⟨x1, hx1⟩ : ∃ z : Int32, z = (p0 &&& (3 : Int32)) := ⟨_, rfl⟩
  obtain ⟨x2, hx2⟩ : ∃ z : Int32, z = (((p0.toUInt32 >>> ((2 : Int32) &&& 31).toUInt32).toInt32) &&& (3 : Int32)) := ⟨_, rfl⟩
  obtain ⟨x3, hx3⟩ : ∃ z : Int32, z = (((p0.toUInt32 >>> ((4 : Int32) &&& 31).toUInt32).toInt32) &&& (3 : Int32)) := ⟨_, rfl⟩
  obtain ⟨x4, hx4⟩ : ∃ z : Int32, z = (((p0.toUInt32 >>> ((6 : Int32) &&& 31).toUInt32).toInt32) &&& (3 : Int32)) := ⟨_, rfl⟩
  obtain ⟨x5, hx5⟩ : ∃ z : Int32, z = (((p0.toUInt32 >>> ((8 : Int32) &&& 31).toUInt32).toInt32) % (25 : Int32)) := ⟨_, rfl⟩
  have K6 : Own.To p e below B0 s₁ (mkF m 38 #[vi p0, vi p1, vi p2, vl q3, .second, vi p4, vi x1, vi x2, vi x3, vi x4, vi x5, .unset, .unset, .unset, .unset, .unset, .unset, .unset, .unset, .unset, .unset, .unset, .unset, .unset, .unset, .unset] [(.int 0), (.int p1)]) := fun t k => K0 t (by
    subst hx5 hx4 hx3 hx2 hx1
    refine Own.iloadN X0 hx (D at_0) rfl ?_
    refine Own.iconst X0 hx 3 (D at_1) rfl ?_
    refine Own.iand X0 hx (D at_2) ?_
    refine Own.istore X0 hx #[vi p0, vi p1, vi p2, vl q3, .second, vi p4, vi (p0 &&& (3 : Int32)), .unset, .unset, .unset, .unset, .unset, .unset, .unset, .unset, .unset, .unset, .unset, .unset, .unset, .unset, .unset, .unset, .unset, .unset, .unset] (D at_3) rfl ?_
    refine Own.iloadN X0 hx (D at_5) rfl ?_
    refine Own.iconst X0 hx 2 (D at_6) rfl ?_
    refine Own.iushr X0 hx (D at_7) ?_
    refine Own.iconst X0 hx 3 (D at_8) rfl ?_
    refine Own.iand X0 hx (D at_9) ?_
    refine Own.istore X0 hx #[vi p0, vi p1, vi p2, vl q3, .second, vi p4, vi (p0 &&& (3 : Int32)), vi (((p0.toUInt32 >>> ((2 : Int32) &&& 31).toUInt32).toInt32) &&& (3 : Int32)), .unset, .unset, .unset, .unset, .unset, .unset, .unset, .unset, .unset, .unset, .unset, .unset, .unset, .unset, .unset, .unset, .unset, .unset] (D at_10) rfl ?_
    refine Own.iloadN X0 hx (D at_12) rfl ?_
    refine Own.iconst X0 hx 4 (D at_13) rfl ?_
    refine Own.iushr X0 hx (D at_14) ?_
    refine Own.iconst X0 hx 3 (D at_15) rfl ?_
    refine Own.iand X0 hx (D at_16) ?_
    refine Own.istore X0 hx #[vi p0, vi p1, vi p2, vl q3, .second, vi p4, vi (p0 &&& (3 : Int32)), vi (((p0.toUInt32 >>> ((2 : Int32) &&& 31).toUInt32).toInt32) &&& (3 : Int32)), vi (((p0.toUInt32 >>> ((4 : Int32) &&& 31).toUInt32).toInt32) &&& (3 : Int32)), .unset, .unset, .unset, .unset, .unset, .unset, .unset, .unset, .unset, .unset, .unset, .unset, .unset, .unset, .unset, .unset, .unset] (D at_17) rfl ?_
    refine Own.iloadN X0 hx (D at_19) rfl ?_
    refine Own.bipush X0 hx 6 (D at_20) rfl ?_
    refine Own.iushr X0 hx (D at_22) ?_
    refine Own.iconst X0 hx 3 (D at_23) rfl ?_
    refine Own.iand X0 hx (D at_24) ?_
    refine Own.istore X0 hx #[vi p0, vi p1, vi p2, vl q3, .second, vi p4, vi (p0 &&& (3 : Int32)), vi (((p0.toUInt32 >>> ((2 : Int32) &&& 31).toUInt32).toInt32) &&& (3 : Int32)), vi (((p0.toUInt32 >>> ((4 : Int32) &&& 31).toUInt32).toInt32) &&& (3 : Int32)), vi (((p0.toUInt32 >>> ((6 : Int32) &&& 31).toUInt32).toInt32) &&& (3 : Int32)), .unset, .unset, .unset, .unset, .unset, .unset, .unset, .unset, .unset, .unset, .unset, .unset, .unset, .unset, .unset, .unset] (D at_25) rfl ?_
    refine Own.iloadN X0 hx (D at_27) rfl ?_
    refine Own.bipush X0 hx 8 (D at_28) rfl ?_
    refine Own.iushr X0 hx (D at_30) ?_
    refine Own.bipush X0 hx 25 (D at_31) rfl ?_
    refine Own.irem X0 hx (D at_33) (by decide) ?_
    refine Own.istore X0 hx #[vi p0, vi p1, vi p2, vl q3, .second, vi p4, vi (p0 &&& (3 : Int32)), vi (((p0.toUInt32 >>> ((2 : Int32) &&& 31).toUInt32).toInt32) &&& (3 : Int32)), vi (((p0.toUInt32 >>> ((4 : Int32) &&& 31).toUInt32).toInt32) &&& (3 : Int32)), vi (((p0.toUInt32 >>> ((6 : Int32) &&& 31).toUInt32).toInt32) &&& (3 : Int32)), vi (((p0.toUInt32 >>> ((8 : Int32) &&& 31).toUInt32).toInt32) % (25 : Int32)), .unset, .unset, .unset, .unset, .unset, .unset, .unset, .unset, .unset, .unset, .unset, .unset, .unset, .unset, .unset] (D at_34) rfl ?_
    refine Own.iloadN X0 hx (D at_36) rfl ?_
    refine Own.iconst X0 hx 0 (D at_37) rfl ?_
    exact k)
  obtain ⟨T7, X7, e7, st7⟩ := Own.callP (Ls := #[vi p0, vi p1, vi p2, vl q3, .second, vi p4, vi x1, vi x2, vi x3, vi x4, vi x5, .unset, .unset, .unset, .unset, .unset, .unset, .unset, .unset, .unset, .unset, .unset, .unset, .unset, .unset, .unset]) X0 hx D0.hZ e0 [(.int p1), (.int 0)] [] (c1 l Z a0 hw p1 (0 : Int32)  h0 ) D0.hown (W_ hw 0 rfl) (W_ hw 1 rfl) (W_ hw 2 rfl) (W_ hw 3 rfl) (by decide) 0 rfl rfl (by decide) (by decide) (by decide) (by decide) (szOf hml rfl) (lenOf pd_34 rfl) rfl (Nat.le_of_eq rfl) (D at_38)
  have K8 := fun t k => K6 t (st7 t k)
  obtain ⟨x9, hx9⟩ : ∃ z : Int32, z = (F1 p1 (0 : Int32)) := ⟨_, rfl⟩
  have K10 : Own.To p e below B0 T7 (mkF m 46 #[vi p0, vi p1, vi p2, vl q3, .second, vi p4, vi x1, vi x2, vi x3, vi x4, vi x5, vi x9, .unset, .unset, .unset, .unset, .unset, .unset, .unset, .unset, .unset, .unset, .unset, .unset, .unset, .unset] [(.int 8), (.int p1)]) := fun t k => K8 t (by
    subst hx9
    refine Own.istore X7 hx #[vi p0, vi p1, vi p2, vl q3, .second, vi p4, vi x1, vi x2, vi x3, vi x4, vi x5, vi (F1 p1 (0 : Int32)), .unset, .unset, .unset, .unset, .unset, .unset, .unset, .unset, .unset, .unset, .unset, .unset, .unset, .unset] (D at_41) rfl ?_
    refine Own.iloadN X7 hx (D at_43) rfl ?_
    refine Own.bipush X7 hx 8 (D at_44) rfl ?_
    exact k)
  obtain ⟨T11, X11, e11, st11⟩ := Own.callP (Ls := #[vi p0, vi p1, vi p2, vl q3, .second, vi p4, vi x1, vi x2, vi x3, vi x4, vi x5, vi x9, .unset, .unset, .unset, .unset, .unset, .unset, .unset, .unset, .unset, .unset, .unset, .unset, .unset, .unset]) X7 hx D0.hZ e7 [(.int p1), (.int 8)] [] (c1 l Z a0 hw p1 (8 : Int32)  h0 ) D0.hown (W_ hw 0 rfl) (W_ hw 1 rfl) (W_ hw 2 rfl) (W_ hw 3 rfl) (by decide) 0 rfl rfl (by decide) (by decide) (by decide) (by decide) (szOf hml rfl) (lenOf pd_34 rfl) rfl (Nat.le_of_eq rfl) (D at_46)
  have K12 := fun t k => K10 t (st11 t k)
  obtain ⟨x13, hx13⟩ : ∃ z : Int32, z = (F1 p1 (8 : Int32)) := ⟨_, rfl⟩
  have K14 : Own.To p e below B0 T11 (mkF m 54 #[vi p0, vi p1, vi p2, vl q3, .second, vi p4, vi x1, vi x2, vi x3, vi x4, vi x5, vi x9, vi x13, .unset, .unset, .unset, .unset, .unset, .unset, .unset, .unset, .unset, .unset, .unset, .unset, .unset] [(.int 16), (.int p1)]) := fun t k => K12 t (by
    subst hx13
    refine Own.istore X11 hx #[vi p0, vi p1, vi p2, vl q3, .second, vi p4, vi x1, vi x2, vi x3, vi x4, vi x5, vi x9, vi (F1 p1 (8 : Int32)), .unset, .unset, .unset, .unset, .unset, .unset, .unset, .unset, .unset, .unset, .unset, .unset, .unset] (D at_49) rfl ?_
    refine Own.iloadN X11 hx (D at_51) rfl ?_
    refine Own.bipush X11 hx 16 (D at_52) rfl ?_
    exact k)
  obtain ⟨T15, X15, e15, st15⟩ := Own.callP (Ls := #[vi p0, vi p1, vi p2, vl q3, .second, vi p4, vi x1, vi x2, vi x3, vi x4, vi x5, vi x9, vi x13, .unset, .unset, .unset, .unset, .unset, .unset, .unset, .unset, .unset, .unset, .unset, .unset, .unset]) X11 hx D0.hZ e11 [(.int p1), (.int 16)] [] (c1 l Z a0 hw p1 (16 : Int32)  h0 ) D0.hown (W_ hw 0 rfl) (W_ hw 1 rfl) (W_ hw 2 rfl) (W_ hw 3 rfl) (by decide) 0 rfl rfl (by decide) (by decide) (by decide) (by decide) (szOf hml rfl) (lenOf pd_34 rfl) rfl (Nat.le_of_eq rfl) (D at_54)
  have K16 := fun t k => K14 t (st15 t k)
  obtain ⟨x17, hx17⟩ : ∃ z : Int32, z = (F1 p1 (16 : Int32)) := ⟨_, rfl⟩
  obtain ⟨x18, hx18⟩ : ∃ z : Int32, z = ((p2 &&& (255 : Int32)).toUInt32.toUInt16.toUInt32.toInt32) := ⟨_, rfl⟩
  obtain ⟨x19, hx19⟩ : ∃ z : Int32, z = ((((p2.toUInt32 >>> ((8 : Int32) &&& 31).toUInt32).toInt32) &&& (255 : Int32)).toUInt32.toUInt16.toUInt32.toInt32) := ⟨_, rfl⟩
  obtain ⟨x20, hx20⟩ : ∃ z : Int32, z = ((((p2.toUInt32 >>> ((16 : Int32) &&& 31).toUInt32).toInt32) &&& (255 : Int32)).toUInt32.toUInt16.toUInt32.toInt32) := ⟨_, rfl⟩
  have ok21 : own_ok x18 := by subst hx20; subst hx19; subst hx18; subst hx17; subst hx13; subst hx9; subst hx5; subst hx4; subst hx3; subst hx2; subst hx1; exact own_okc (own_b8i _)
  have ok22 : own_ok x19 := by subst hx20; subst hx19; subst hx18; subst hx17; subst hx13; subst hx9; subst hx5; subst hx4; subst hx3; subst hx2; subst hx1; exact own_okc (own_b8i _)
  have ok23 : own_ok x20 := by subst hx20; subst hx19; subst hx18; subst hx17; subst hx13; subst hx9; subst hx5; subst hx4; subst hx3; subst hx2; subst hx1; exact own_okc (own_b8i _)
  have K24 : Own.To p e below B0 T15 (mkF m 97 #[vi p0, vi p1, vi p2, vl q3, .second, vi p4, vi x1, vi x2, vi x3, vi x4, vi x5, vi x9, vi x13, vi x17, vi x18, vi x19, vi x20, .unset, .unset, .unset, .unset, .unset, .unset, .unset, .unset, .unset] [(.int x20), (.int x19), (.int x18), (.int x1)]) := fun t k => K16 t (by
    subst hx20 hx19 hx18 hx17
    refine Own.istore X15 hx #[vi p0, vi p1, vi p2, vl q3, .second, vi p4, vi x1, vi x2, vi x3, vi x4, vi x5, vi x9, vi x13, vi (F1 p1 (16 : Int32)), .unset, .unset, .unset, .unset, .unset, .unset, .unset, .unset, .unset, .unset, .unset, .unset] (D at_57) rfl ?_
    refine Own.iloadN X15 hx (D at_59) rfl ?_
    refine Own.sipush X15 hx 255 (D at_60) rfl ?_
    refine Own.iand X15 hx (D at_63) ?_
    refine Own.i2c X15 hx (D at_64) ?_
    refine Own.istore X15 hx #[vi p0, vi p1, vi p2, vl q3, .second, vi p4, vi x1, vi x2, vi x3, vi x4, vi x5, vi x9, vi x13, vi (F1 p1 (16 : Int32)), vi ((p2 &&& (255 : Int32)).toUInt32.toUInt16.toUInt32.toInt32), .unset, .unset, .unset, .unset, .unset, .unset, .unset, .unset, .unset, .unset, .unset] (D at_65) rfl ?_
    refine Own.iloadN X15 hx (D at_67) rfl ?_
    refine Own.bipush X15 hx 8 (D at_68) rfl ?_
    refine Own.iushr X15 hx (D at_70) ?_
    refine Own.sipush X15 hx 255 (D at_71) rfl ?_
    refine Own.iand X15 hx (D at_74) ?_
    refine Own.i2c X15 hx (D at_75) ?_
    refine Own.istore X15 hx #[vi p0, vi p1, vi p2, vl q3, .second, vi p4, vi x1, vi x2, vi x3, vi x4, vi x5, vi x9, vi x13, vi (F1 p1 (16 : Int32)), vi ((p2 &&& (255 : Int32)).toUInt32.toUInt16.toUInt32.toInt32), vi ((((p2.toUInt32 >>> ((8 : Int32) &&& 31).toUInt32).toInt32) &&& (255 : Int32)).toUInt32.toUInt16.toUInt32.toInt32), .unset, .unset, .unset, .unset, .unset, .unset, .unset, .unset, .unset, .unset] (D at_76) rfl ?_
    refine Own.iloadN X15 hx (D at_78) rfl ?_
    refine Own.bipush X15 hx 16 (D at_79) rfl ?_
    refine Own.iushr X15 hx (D at_81) ?_
    refine Own.sipush X15 hx 255 (D at_82) rfl ?_
    refine Own.iand X15 hx (D at_85) ?_
    refine Own.i2c X15 hx (D at_86) ?_
    refine Own.istore X15 hx #[vi p0, vi p1, vi p2, vl q3, .second, vi p4, vi x1, vi x2, vi x3, vi x4, vi x5, vi x9, vi x13, vi (F1 p1 (16 : Int32)), vi ((p2 &&& (255 : Int32)).toUInt32.toUInt16.toUInt32.toInt32), vi ((((p2.toUInt32 >>> ((8 : Int32) &&& 31).toUInt32).toInt32) &&& (255 : Int32)).toUInt32.toUInt16.toUInt32.toInt32), vi ((((p2.toUInt32 >>> ((16 : Int32) &&& 31).toUInt32).toInt32) &&& (255 : Int32)).toUInt32.toUInt16.toUInt32.toInt32), .unset, .unset, .unset, .unset, .unset, .unset, .unset, .unset, .unset] (D at_87) rfl ?_
    refine Own.iload X15 hx (D at_89) rfl ?_
    refine Own.iload X15 hx (D at_91) rfl ?_
    refine Own.iload X15 hx (D at_93) rfl ?_
    refine Own.iload X15 hx (D at_95) rfl ?_
    exact k)
  obtain ⟨vm25, T25, h25, v25, J25, L25, X25, e25, D25, mm25, n25, hQ25, st25⟩ := Own.callHW (Ls := #[vi p0, vi p1, vi p2, vl q3, .second, vi p4, vi x1, vi x2, vi x3, vi x4, vi x5, vi x9, vi x13, vi x17, vi x18, vi x19, vi x20, .unset, .unset, .unset, .unset, .unset, .unset, .unset, .unset, .unset]) X15 hx (own_hEL hw) D0 e15 [(.int x1), (.int x18), (.int x19), (.int x20)] [] (c2 l Z a0 hw x1 x18 x19 x20 n0 G1 h0 (Nat.le_trans Z0 (Nat.le_refl _)) ok21 ok22 ok23 SC hG1) (W_ hw 4 rfl) (W_ hw 5 rfl) (W_ hw 2 rfl) (W_ hw 6 rfl) (by decide) 0 (by decide) (by decide) (by decide) (by decide) (szOf hml rfl) (lenOf pd_35 rfl) rfl (Nat.le_of_eq rfl) (D at_97)
  have X25 : Stand p l e room_1 (s.setVm vm25) m #[(.int p0), (.int p1), (.int p2), (.long q3), (.int p4)] below meth c T25 L25 8 20 := X25
  obtain ⟨bs25, rfl, NN25, K25, t25⟩ := hQ25
  have N25 : Fr n0 L25 := n25 n0 (Fr.nil _) NN25
  have m26 : h0.size ≤ h25.size := K25.1
  have K27 := fun t k => K24 t (st25 t k)
  have f28 := (SC.ext (Own.Ext.keep (Own.Ext.refl _) K25 all0))
  have ok29 : own_let x9 := by subst hx20; subst hx19; subst hx18; subst hx17; subst hx13; subst hx9; subst hx5; subst hx4; subst hx3; subst hx2; subst hx1; exact own_letL _ _
  have ok30 : own_let x13 := by subst hx20; subst hx19; subst hx18; subst hx17; subst hx13; subst hx9; subst hx5; subst hx4; subst hx3; subst hx2; subst hx1; exact own_letL _ _
  have ok31 : own_let x17 := by subst hx20; subst hx19; subst hx18; subst hx17; subst hx13; subst hx9; subst hx5; subst hx4; subst hx3; subst hx2; subst hx1; exact own_letL _ _
  have K32 : Own.To p e below B0 T25 (mkF m 110 #[vi p0, vi p1, vi p2, vl q3, .second, vi p4, vi x1, vi x2, vi x3, vi x4, vi x5, vi x9, vi x13, vi x17, vi x18, vi x19, vi x20, vr bs25, .unset, .unset, .unset, .unset, .unset, .unset, .unset, .unset] [(.int x17), (.int x13), (.int x9), (.int x2)]) := fun t k => K27 t (by
    refine Own.astore X25 hx #[vi p0, vi p1, vi p2, vl q3, .second, vi p4, vi x1, vi x2, vi x3, vi x4, vi x5, vi x9, vi x13, vi x17, vi x18, vi x19, vi x20, vr bs25, .unset, .unset, .unset, .unset, .unset, .unset, .unset, .unset] (D at_100) rfl rfl ?_
    refine Own.iload X25 hx (D at_102) rfl ?_
    refine Own.iload X25 hx (D at_104) rfl ?_
    refine Own.iload X25 hx (D at_106) rfl ?_
    refine Own.iload X25 hx (D at_108) rfl ?_
    exact k)
  obtain ⟨vm33, T33, h33, v33, J33, L33, X33, e33, D33, mm33, n33, hQ33, st33⟩ := Own.callHW (Ls := #[vi p0, vi p1, vi p2, vl q3, .second, vi p4, vi x1, vi x2, vi x3, vi x4, vi x5, vi x9, vi x13, vi x17, vi x18, vi x19, vi x20, vr bs25, .unset, .unset, .unset, .unset, .unset, .unset, .unset, .unset]) X25 hx (own_hEL hw) D25 e25 [(.int x2), (.int x9), (.int x13), (.int x17)] [] (c2 l Z a0 hw x2 x9 x13 x17 n0 G1 h25 (Nat.le_trans Z0 m26) (own_let_ok ok29) (own_let_ok ok30) (own_let_ok ok31) f28 hG1) (W_ hw 4 rfl) (W_ hw 5 rfl) (W_ hw 2 rfl) (W_ hw 6 rfl) (by decide) 0 (by decide) (by decide) (by decide) (by decide) (szOf hml rfl) (lenOf pd_35 rfl) rfl (Nat.le_of_eq rfl) (D at_110)
  have X33 : Stand p l e room_1 (s.setVm vm33) m #[(.int p0), (.int p1), (.int p2), (.long q3), (.int p4)] below meth c T33 L33 16 40 := X33
  obtain ⟨bs33, rfl, NN33, K33, t33⟩ := hQ33
  have N33 : Fr n0 L33 := n33 n0 N25 NN33
  have m34 : h25.size ≤ h33.size := K33.1
  have K35 := fun t k => K32 t (st33 t k)
  have K36 : Own.To p e below B0 T33 (mkF m 115 #[vi p0, vi p1, vi p2, vl q3, .second, vi p4, vi x1, vi x2, vi x3, vi x4, vi x5, vi x9, vi x13, vi x17, vi x18, vi x19, vi x20, vr bs25, vr bs33, .unset, .unset, .unset, .unset, .unset, .unset, .unset] []) := fun t k => K35 t (by
    refine Own.astore X33 hx #[vi p0, vi p1, vi p2, vl q3, .second, vi p4, vi x1, vi x2, vi x3, vi x4, vi x5, vi x9, vi x13, vi x17, vi x18, vi x19, vi x20, vr bs25, vr bs33, .unset, .unset, .unset, .unset, .unset, .unset, .unset] (D at_113) rfl rfl ?_
    exact k)
  obtain ⟨T37, h37, b37, X37, e37, E37, g37, A37, D37, st37⟩ := Own.newO (Ls := #[vi p0, vi p1, vi p2, vl q3, .second, vi p4, vi x1, vi x2, vi x3, vi x4, vi x5, vi x9, vi x13, vi x17, vi x18, vi x19, vi x20, vr bs25, vr bs33, .unset, .unset, .unset, .unset, .unset, .unset, .unset]) (S := []) X33 hx D33.hZ e33 D33.hown (W_ hw 29 rfl) (W_ hw 30 rfl) (W_ hw 31 rfl) (D at_115) (by decide) (by decide)
  have le_b37 : h33.size ≤ b37 := Nat.le_of_eq g37.symm
  have X37 : Stand p l e room_1 (s.setVm vm33) m #[(.int p0), (.int p1), (.int p2), (.long q3), (.int p4)] below meth c T37 L33 17 50 := X37
  have m38 : h33.size ≤ h37.size := E37.1
  have D38 := D33.ext E37
  have F37_suffix : Fld Z h37 b37 "com/example/stemshear/stemshear/Rule" "suffix" "Ljava/lang/String;" .null := D37 (Or.inr (W_ hw 44 rfl)) (ty := (.object "java/lang/String")) (by decide)
  have F37_replacement : Fld Z h37 b37 "com/example/stemshear/stemshear/Rule" "replacement" "Ljava/lang/String;" .null := D37 (Or.inr (W_ hw 46 rfl)) (ty := (.object "java/lang/String")) (by decide)
  have F37_condition : Fld Z h37 b37 "com/example/stemshear/stemshear/Rule" "condition" "I" (.int 0) := D37 (Or.inr (W_ hw 48 rfl)) (ty := .int) (by decide)
  have F37_then : Fld Z h37 b37 "com/example/stemshear/stemshear/Rule" "then" "I" (.int 0) := D37 (Or.inr (W_ hw 50 rfl)) (ty := .int) (by decide)
  have F37_otherwise : Fld Z h37 b37 "com/example/stemshear/stemshear/Rule" "otherwise" "Lcom/example/stemshear/stemshear/Rule;" .null := D37 (Or.inr (W_ hw 52 rfl)) (ty := (.object "com/example/stemshear/stemshear/Rule")) (by decide)
  have F37_suffixLength : Fld Z h37 b37 "com/example/stemshear/stemshear/Rule" "suffixLength" "I" (.int 0) := D37 (Or.inr (W_ hw 65 rfl)) (ty := .int) (by decide)
  have F37_replacementLetters : Fld Z h37 b37 "com/example/stemshear/stemshear/Rule" "replacementLetters" "[C" .null := D37 (Or.inr (W_ hw 84 rfl)) (ty := (.array .char)) (by decide)
  have F37_replacementVowels : Fld Z h37 b37 "com/example/stemshear/stemshear/Rule" "replacementVowels" "J" (.long 0) := D37 (Or.inr (W_ hw 217 rfl)) (ty := .long) (by decide)
  have F37_replacementVowelsAfterConsonant : Fld Z h37 b37 "com/example/stemshear/stemshear/Rule" "replacementVowelsAfterConsonant" "J" (.long 0) := D37 (Or.inr (W_ hw 219 rfl)) (ty := .long) (by decide)
  have F37_written : Fld Z h37 b37 "com/example/stemshear/stemshear/Rule" "written" "Ljava/lang/String;" .null := D37 (Or.inr (W_ hw 222 rfl)) (ty := (.object "java/lang/String")) (by decide)
  have K39 := fun t k => K36 t (st37 t k)
  have f40 := (((SK.ext (Own.Ext.keep (Own.Ext.refl _) K25 all0)).ext (Own.Ext.keep (Own.Ext.refl _) K33 all0)).ext E37)
  have f41 := (((KD.keep K25 nin0).keep K33 nin0).ext E37)
  have f42 := ((f28.ext (Own.Ext.keep (Own.Ext.refl _) K33 all0)).ext E37)
  have f43 := (t25.ext (Own.Ext.trans (Own.Ext.keep (Own.Ext.refl _) K33 all0) E37))
  have f44 := (t33.ext E37)
  have cd45 : ¬ F8 x5 = 0 := by subst hx20; subst hx19; subst hx18; subst hx17; subst hx13; subst hx9; subst hx5; subst hx4; subst hx3; subst hx2; subst hx1; exact own_cond _
  have K46 : Own.To p e below B0 T37 (mkF m 125 #[vi p0, vi p1, vi p2, vl q3, .second, vi p4, vi x1, vi x2, vi x3, vi x4, vi x5, vi x9, vi x13, vi x17, vi x18, vi x19, vi x20, vr bs25, vr bs33, .unset, .unset, .unset, .unset, .unset, .unset, .unset] [(.int x5), (.ref bs33), (.ref bs25), (.ref b37), (.ref b37)]) := fun t k => K39 t (by
    refine Own.dup X37 hx (D at_118) rfl ?_
    refine Own.aload X37 hx (D at_119) rfl rfl ?_
    refine Own.aload X37 hx (D at_121) rfl rfl ?_
    refine Own.iload X37 hx (D at_123) rfl ?_
    exact k)
  obtain ⟨vm47, T47, h47, v47, J47, L47, X47, e47, D47, mm47, n47, hQ47, st47⟩ := Own.callIW (Ls := #[vi p0, vi p1, vi p2, vl q3, .second, vi p4, vi x1, vi x2, vi x3, vi x4, vi x5, vi x9, vi x13, vi x17, vi x18, vi x19, vi x20, vr bs25, vr bs33, .unset, .unset, .unset, .unset, .unset, .unset, .unset]) X37 hx (own_hEL hw) D38 e37 rfl b37 [(.ref bs25), (.ref bs33), (.int x5)] [(.ref b37)] (cR3 l Z a0 hw b37 bs25 bs33 x5 n0 wK (own_mk x1 x18 x19 x20) (own_mk x2 x9 x13 x17) G1 h37 (Nat.le_trans Z0 (Nat.le_trans (Nat.le_trans m26 m34) m38)) A37 (Nat.le_trans Z0 (Nat.le_trans (Nat.le_trans m26 m34) le_b37)) F37_suffix F37_replacement F37_condition F37_then F37_otherwise F37_suffixLength F37_replacementLetters F37_replacementVowels F37_replacementVowelsAfterConsonant F37_written f40 f41 (Nat.ne_of_lt (Nat.lt_of_lt_of_le ((KD.keep K25 nin0).keep K33 nin0).lt le_b37)) (own_Txt.toN (t25.ext (Own.Ext.keep (Own.Ext.refl _) K33 all0)) E37 le_b37) (own_mk_len _ _ _ _) (own_Txt.toN t33 E37 le_b37) (own_mk_len _ _ _ _) (own_mk_let ok29 ok30 ok31) cd45 f42 hG1) (W_ hw 32 rfl) (W_ hw 33 rfl) (W_ hw 31 rfl) (W_ hw 34 rfl) (by decide) 1 (by decide) (by decide) (by decide) (by decide) (szOf hml rfl) (lenOf pd_36 rfl) rfl (Nat.le_of_eq rfl) (D at_125)
  have X47 : Stand p l e room_1 (s.setVm vm47) m #[(.int p0), (.int p1), (.int p2), (.long q3), (.int p4)] below meth c T47 L47 37 250 := X47
  obtain ⟨rfl, NN47, K47, E47, FA47, FB47, FC47, bl47, le47, FD47, V47⟩ := hQ47
  have N47 : Fr n0 L47 := n47 n0 N33 NN47
  have m48 : h37.size ≤ h47.size := K47.1
  have K49 := fun t k => K46 t (st47 t k)
  have K50 : Own.To p e below B0 T47 (mkF m 133 #[vi p0, vi p1, vi p2, vl q3, .second, vi p4, vi x1, vi x2, vi x3, vi x4, vi x5, vi x9, vi x13, vi x17, vi x18, vi x19, vi x20, vr bs25, vr bs33, vr b37, .unset, .unset, .unset, .unset, .unset, .unset] [(.int p4), (.long q3)]) := fun t k => K49 t (by
    refine Own.astore X47 hx #[vi p0, vi p1, vi p2, vl q3, .second, vi p4, vi x1, vi x2, vi x3, vi x4, vi x5, vi x9, vi x13, vi x17, vi x18, vi x19, vi x20, vr bs25, vr bs33, vr b37, .unset, .unset, .unset, .unset, .unset, .unset] (D at_128) rfl rfl ?_
    refine Own.lloadN X47 hx (D at_130) rfl ?_
    refine Own.iload X47 hx (D at_131) rfl ?_
    exact k)
  obtain ⟨T51, h51, v51, J51, L51, X51, e51, n51, hQ51, st51⟩ := Own.callH (Ls := #[vi p0, vi p1, vi p2, vl q3, .second, vi p4, vi x1, vi x2, vi x3, vi x4, vi x5, vi x9, vi x13, vi x17, vi x18, vi x19, vi x20, vr bs25, vr bs33, vr b37, .unset, .unset, .unset, .unset, .unset, .unset]) X47 hx D47.hZ e47 [(.long q3), (.int p4)] [] (cFI l Z a0 hw q3 p4 n0 h47 (Nat.le_trans Z0 (Nat.le_trans (Nat.le_trans (Nat.le_trans m26 m34) m38) m48))) D47.hown (W_ hw 223 rfl) (W_ hw 224 rfl) (W_ hw 2 rfl) (W_ hw 225 rfl) (by decide) 0 (by decide) (by decide) (by decide) (by decide) (szOf hml rfl) (lenOf pd_37 rfl) rfl (Nat.le_of_eq rfl) (D at_133)
  have X51 : Stand p l e room_1 (s.setVm vm47) m #[(.int p0), (.int p1), (.int p2), (.long q3), (.int p4)] below meth c T51 L51 38 262 := X51
  obtain ⟨bf51, rfl, le51, NN51, K51, V51⟩ := hQ51
  have N51 : Fr n0 L51 := n51 n0 N47 NN51
  have m52 : h47.size ≤ h51.size := K51.1
  have D52 := D47.keep K51 sf0
  have K53 := fun t k => K50 t (st51 t k)
  have K54 : Own.To p e below B0 T51 (mkF m 141 #[vi p0, vi p1, vi p2, vl q3, .second, vi p4, vi x1, vi x2, vi x3, vi x4, vi x5, vi x9, vi x13, vi x17, vi x18, vi x19, vi x20, vr bs25, vr bs33, vr b37, vr bf51, .unset, .unset, .unset, .unset, .unset] [(.int p4), (.long q3)]) := fun t k => K53 t (by
    refine Own.astore X51 hx #[vi p0, vi p1, vi p2, vl q3, .second, vi p4, vi x1, vi x2, vi x3, vi x4, vi x5, vi x9, vi x13, vi x17, vi x18, vi x19, vi x20, vr bs25, vr bs33, vr b37, vr bf51, .unset, .unset, .unset, .unset, .unset] (D at_136) rfl rfl ?_
    refine Own.lloadN X51 hx (D at_138) rfl ?_
    refine Own.iload X51 hx (D at_139) rfl ?_
    exact k)
  obtain ⟨T55, h55, v55, J55, L55, X55, e55, n55, hQ55, st55⟩ := Own.callH (Ls := #[vi p0, vi p1, vi p2, vl q3, .second, vi p4, vi x1, vi x2, vi x3, vi x4, vi x5, vi x9, vi x13, vi x17, vi x18, vi x19, vi x20, vr bs25, vr bs33, vr b37, vr bf51, .unset, .unset, .unset, .unset, .unset]) X51 hx D52.hZ e51 [(.long q3), (.int p4)] [] (cFI l Z a0 hw q3 p4 n0 h51 (Nat.le_trans Z0 (Nat.le_trans (Nat.le_trans (Nat.le_trans (Nat.le_trans m26 m34) m38) m48) m52))) D52.hown (W_ hw 223 rfl) (W_ hw 224 rfl) (W_ hw 2 rfl) (W_ hw 225 rfl) (by decide) 0 (by decide) (by decide) (by decide) (by decide) (szOf hml rfl) (lenOf pd_37 rfl) rfl (Nat.le_of_eq rfl) (D at_141)
  have X55 : Stand p l e room_1 (s.setVm vm47) m #[(.int p0), (.int p1), (.int p2), (.long q3), (.int p4)] below meth c T55 L55 39 274 := X55
  obtain ⟨bf55, rfl, le55, NN55, K55, V55⟩ := hQ55
  have N55 : Fr n0 L55 := n55 n0 N51 NN55
  have m56 : h51.size ≤ h55.size := K55.1
  have D56 := D52.keep K55 sf0
  have K57 := fun t k => K54 t (st55 t k)
  obtain ⟨x58, hx58⟩ : ∃ z : Int32, z = (x3 + x4) := ⟨_, rfl⟩
  have K59 : Own.To p e below B0 T55 (mkF m 153 #[vi p0, vi p1, vi p2, vl q3, .second, vi p4, vi x1, vi x2, vi x3, vi x4, vi x5, vi x9, vi x13, vi x17, vi x18, vi x19, vi x20, vr bs25, vr bs33, vr b37, vr bf51, vr bf55, vi x58, .unset, .unset, .unset] []) := fun t k => K57 t (by
    subst hx58
    refine Own.astore X55 hx #[vi p0, vi p1, vi p2, vl q3, .second, vi p4, vi x1, vi x2, vi x3, vi x4, vi x5, vi x9, vi x13, vi x17, vi x18, vi x19, vi x20, vr bs25, vr bs33, vr b37, vr bf51, vr bf55, .unset, .unset, .unset, .unset] (D at_144) rfl rfl ?_
    refine Own.iload X55 hx (D at_146) rfl ?_
    refine Own.iload X55 hx (D at_148) rfl ?_
    refine Own.iadd X55 hx (D at_150) ?_
    refine Own.istore X55 hx #[vi p0, vi p1, vi p2, vl q3, .second, vi p4, vi x1, vi x2, vi x3, vi x4, vi x5, vi x9, vi x13, vi x17, vi x18, vi x19, vi x20, vr bs25, vr bs33, vr b37, vr bf51, vr bf55, vi (x3 + x4), .unset, .unset, .unset] (D at_151) rfl ?_
    exact k)
  obtain ⟨j, hj, ej⟩ : ∃ j : Nat, j ≤ 6 ∧ x58 = Int32.ofNat j := by subst hx58; subst hx20; subst hx19; subst hx18; subst hx17; subst hx13; subst hx9; subst hx5; subst hx4; subst hx3; subst hx2; subst hx1; exact own_sum6 _ _
  have ej2 : x3 + x4 = Int32.ofNat j := by rw [← hx58]; exact ej
  have f60 := (V51.keep K55 nin0)
  have K61 : Own.To p e below B0 T55 (mkF m 165 #[vi p0, vi p1, vi p2, vl q3, .second, vi p4, vi x1, vi x2, vi x3, vi x4, vi x5, vi x9, vi x13, vi x17, vi x18, vi x19, vi x20, vr bs25, vr bs33, vr b37, vr bf51, vr bf55, vi x58, .unset, .unset, .unset] [(.int x20), (.int x19), (.int x18), (.int x1), (.int x58), (.ref bf51)]) := fun t k => K59 t (by
    refine Own.aload X55 hx (D at_153) rfl rfl ?_
    refine Own.iload X55 hx (D at_155) rfl ?_
    refine Own.iload X55 hx (D at_157) rfl ?_
    refine Own.iload X55 hx (D at_159) rfl ?_
    refine Own.iload X55 hx (D at_161) rfl ?_
    refine Own.iload X55 hx (D at_163) rfl ?_
    exact k)
  have q63 : x1 = 0 ∨ x1 = 1 ∨ x1 = 2 ∨ x1 = 3 := by subst hx58; subst hx20; subst hx19; subst hx18; subst hx17; subst hx13; subst hx9; subst hx5; subst hx4; subst hx3; subst hx2; subst hx1; exact own_l3 _
  obtain ⟨T62, h62, v62, J62, L62, X62, e62, n62, hQ62, st62⟩ := Own.callH (Ls := #[vi p0, vi p1, vi p2, vl q3, .second, vi p4, vi x1, vi x2, vi x3, vi x4, vi x5, vi x9, vi x13, vi x17, vi x18, vi x19, vi x20, vr bs25, vr bs33, vr b37, vr bf51, vr bf55, vi x58, .unset, .unset, .unset]) X55 hx D56.hZ e55 [(.ref bf51), (.int x58), (.int x1), (.int x18), (.int x19), (.int x20)] [] (cPSg l Z a0 hw bf51 x58 x1 x18 x19 x20 n0 j (own_fl q3 p4) h55 q63 (Nat.le_trans Z0 (Nat.le_trans (Nat.le_trans (Nat.le_trans (Nat.le_trans (Nat.le_trans m26 m34) m38) m48) m52) m56)) f60 rfl ej hj (Nat.le_trans Z0 (Nat.le_trans (Nat.le_trans (Nat.le_trans (Nat.le_trans m26 m34) m38) m48) le51)) ok21 ok22 ok23) D56.hown (W_ hw 227 rfl) (W_ hw 228 rfl) (W_ hw 2 rfl) (W_ hw 229 rfl) (by decide) 0 (by decide) (by decide) (by decide) (by decide) (szOf hml rfl) (lenOf pd_38 rfl) rfl (Nat.le_of_eq rfl) (D at_165)
  have X62 : Stand p l e room_1 (s.setVm vm47) m #[(.int p0), (.int p1), (.int p2), (.long q3), (.int p4)] below meth c T62 L62 39 274 := X62
  obtain ⟨rfl, NN62, K62, V62⟩ := hQ62
  have N62 : Fr n0 L62 := n62 n0 N55 NN62
  have m64 : h55.size ≤ h62.size := K62.1
  have D64 := D56.keep K62 (sfS (Own.CA.safe D56.hZ.alike f60 (by decide)) sf0)
  obtain ⟨l62, el62⟩ : ∃ z : List Int32, z = own_pl (own_mk x1 x18 x19 x20) (own_fl q3 p4) j := ⟨_, rfl⟩
  rw [← el62] at V62
  have len62 : l62.length = 12 := by rw [el62]; rw [own_pl_len]; exact rfl
  have K65 := fun t k => K61 t (st62 t k)
  have f66 := (V55.keep K62 (ninS (Ne.symm (Nat.ne_of_lt (Nat.lt_of_lt_of_le V51.lt le55))) nin0))
  have K67 : Own.To p e below B0 T62 (mkF m 180 #[vi p0, vi p1, vi p2, vl q3, .second, vi p4, vi x1, vi x2, vi x3, vi x4, vi x5, vi x9, vi x13, vi x17, vi x18, vi x19, vi x20, vr bs25, vr bs33, vr b37, vr bf51, vr bf55, vi x58, .unset, .unset, .unset] [(.int x20), (.int x19), (.int x18), (.int x1), (.int x58), (.ref bf55)]) := fun t k => K65 t (by
    refine Own.aload X62 hx (D at_168) rfl rfl ?_
    refine Own.iload X62 hx (D at_170) rfl ?_
    refine Own.iload X62 hx (D at_172) rfl ?_
    refine Own.iload X62 hx (D at_174) rfl ?_
    refine Own.iload X62 hx (D at_176) rfl ?_
    refine Own.iload X62 hx (D at_178) rfl ?_
    exact k)
  have q69 : x1 = 0 ∨ x1 = 1 ∨ x1 = 2 ∨ x1 = 3 := by subst hx58; subst hx20; subst hx19; subst hx18; subst hx17; subst hx13; subst hx9; subst hx5; subst hx4; subst hx3; subst hx2; subst hx1; exact own_l3 _
  obtain ⟨T68, h68, v68, J68, L68, X68, e68, n68, hQ68, st68⟩ := Own.callH (Ls := #[vi p0, vi p1, vi p2, vl q3, .second, vi p4, vi x1, vi x2, vi x3, vi x4, vi x5, vi x9, vi x13, vi x17, vi x18, vi x19, vi x20, vr bs25, vr bs33, vr b37, vr bf51, vr bf55, vi x58, .unset, .unset, .unset]) X62 hx D64.hZ e62 [(.ref bf55), (.int x58), (.int x1), (.int x18), (.int x19), (.int x20)] [] (cPSg l Z a0 hw bf55 x58 x1 x18 x19 x20 n0 j (own_fl q3 p4) h62 q69 (Nat.le_trans Z0 (Nat.le_trans (Nat.le_trans (Nat.le_trans (Nat.le_trans (Nat.le_trans (Nat.le_trans m26 m34) m38) m48) m52) m56) m64)) f66 rfl ej hj (Nat.le_trans Z0 (Nat.le_trans (Nat.le_trans (Nat.le_trans (Nat.le_trans (Nat.le_trans m26 m34) m38) m48) m52) le55)) ok21 ok22 ok23) D64.hown (W_ hw 227 rfl) (W_ hw 228 rfl) (W_ hw 2 rfl) (W_ hw 229 rfl) (by decide) 0 (by decide) (by decide) (by decide) (by decide) (szOf hml rfl) (lenOf pd_38 rfl) rfl (Nat.le_of_eq rfl) (D at_180)
  have X68 : Stand p l e room_1 (s.setVm vm47) m #[(.int p0), (.int p1), (.int p2), (.long q3), (.int p4)] below meth c T68 L68 39 274 := X68
  obtain ⟨rfl, NN68, K68, V68⟩ := hQ68
  have N68 : Fr n0 L68 := n68 n0 N62 NN68
  have m70 : h62.size ≤ h68.size := K68.1
  have D70 := D64.keep K68 (sfS (Own.CA.safe D64.hZ.alike f66 (by decide)) sf0)
  obtain ⟨l68, el68⟩ : ∃ z : List Int32, z = own_pl (own_mk x1 x18 x19 x20) (own_fl q3 p4) j := ⟨_, rfl⟩
  rw [← el68] at V68
  have len68 : l68.length = 12 := by rw [el68]; rw [own_pl_len]; exact rfl
  have K71 := fun t k => K67 t (st68 t k)
  obtain ⟨x72, hx72⟩ : ∃ z : Int32, z = (x4 + x1) := ⟨_, rfl⟩
  have f73 := (V62.keep K68 (ninS (Nat.ne_of_lt (Nat.lt_of_lt_of_le V51.lt le55)) nin0))
  have f74 := ((((FA47.keep K51 nin0).keep K55 nin0).keep K62 (ninS (Nat.ne_of_lt (Nat.lt_of_lt_of_le E47.lt le51)) nin0)).keep K68 (ninS (Nat.ne_of_lt (Nat.lt_of_lt_of_le (E47.keep K51).lt le55)) nin0))
  have f75 := ((((FD47.keep K51 nin0).keep K55 nin0).keep K62 (ninS (Nat.ne_of_lt (Nat.lt_of_lt_of_le E47.lt le51)) nin0)).keep K68 (ninS (Nat.ne_of_lt (Nat.lt_of_lt_of_le (E47.keep K51).lt le55)) nin0))
  have f76 := ((((V47.keep K51 nin0).keep K55 nin0).keep K62 (ninS (Nat.ne_of_lt (Nat.lt_of_lt_of_le V47.lt le51)) nin0)).keep K68 (ninS (Nat.ne_of_lt (Nat.lt_of_lt_of_le (V47.keep K51 nin0).lt le55)) nin0))
  have hst : (x3 + x72) - (Int32.ofNat (own_mk x1 x18 x19 x20).length) = Int32.ofNat j := by rw [hx72, own_mk_n (by subst hx72; subst hx58; subst hx20; subst hx19; subst hx18; subst hx17; subst hx13; subst hx9; subst hx5; subst hx4; subst hx3; subst hx2; subst hx1; exact own_l3 _)]; exact own_stem ej2
  have K77 : Own.To p e below B0 T68 (mkF m 198 #[vi p0, vi p1, vi p2, vl q3, .second, vi p4, vi x1, vi x2, vi x3, vi x4, vi x5, vi x9, vi x13, vi x17, vi x18, vi x19, vi x20, vr bs25, vr bs33, vr b37, vr bf51, vr bf55, vi x58, vi x72, .unset, .unset] [(.int x72), (.int x3), (.ref bf51), (.ref b37)]) := fun t k => K71 t (by
    subst hx72
    refine Own.iload X68 hx (D at_183) rfl ?_
    refine Own.iload X68 hx (D at_185) rfl ?_
    refine Own.iadd X68 hx (D at_187) ?_
    refine Own.istore X68 hx #[vi p0, vi p1, vi p2, vl q3, .second, vi p4, vi x1, vi x2, vi x3, vi x4, vi x5, vi x9, vi x13, vi x17, vi x18, vi x19, vi x20, vr bs25, vr bs33, vr b37, vr bf51, vr bf55, vi x58, vi (x4 + x1), .unset, .unset] (D at_188) rfl ?_
    refine Own.aload X68 hx (D at_190) rfl rfl ?_
    refine Own.aload X68 hx (D at_192) rfl rfl ?_
    refine Own.iload X68 hx (D at_194) rfl ?_
    refine Own.iload X68 hx (D at_196) rfl ?_
    exact k)
  have f79 := ((((E47.keep K51).keep K55).keep K62).keep K68)
  obtain ⟨T78, h78, v78, J78, L78, X78, e78, n78, hQ78, st78⟩ := Own.callVH (Ls := #[vi p0, vi p1, vi p2, vl q3, .second, vi p4, vi x1, vi x2, vi x3, vi x4, vi x5, vi x9, vi x13, vi x17, vi x18, vi x19, vi x20, vr bs25, vr bs33, vr b37, vr bf51, vr bf55, vi x58, vi x72, .unset, .unset]) X68 hx D70.hZ e68 b37 [(.ref bf51), (.int x3), (.int x72)] [] (cAPg l Z a0 hw b37 bf51 x3 x72 n0 bl47 j l62 (Int32.ofNat (own_mk x1 x18 x19 x20).length) (own_mk x2 x9 x13 x17) h68 (own_mk_len _ _ _ _) (own_mk_let ok29 ok30 ok31) (Nat.le_trans Z0 (Nat.le_trans (Nat.le_trans (Nat.le_trans (Nat.le_trans (Nat.le_trans (Nat.le_trans (Nat.le_trans m26 m34) m38) m48) m52) m56) m64) m70)) f74 f75 f76 f73 len62 hst hj (Nat.ne_of_lt (Nat.lt_of_lt_of_le V47.lt le51)) (Nat.le_trans Z0 (Nat.le_trans (Nat.le_trans (Nat.le_trans (Nat.le_trans m26 m34) m38) m48) le51))) D70.hown f79 (W_ hw 230 rfl) (W_ hw 231 rfl) (W_ hw 233 rfl) rfl (W_ hw 233 rfl) (W_ hw 232 rfl) (W_ hw 31 rfl) (W_ hw 234 rfl) (by decide) 0 (by decide) (by decide) (by decide) (by decide) (szOf hml rfl) (lenOf pd_39 rfl) rfl (Nat.le_of_eq rfl) (D at_198)
  have X78 : Stand p l e room_1 (s.setVm vm47) m #[(.int p0), (.int p1), (.int p2), (.long q3), (.int p4)] below meth c T78 L78 39 274 := X78
  obtain ⟨rfl, NN78, K78, V78⟩ := hQ78
  have N78 : Fr n0 L78 := n78 n0 N68 NN78
  have m80 : h68.size ≤ h78.size := K78.1
  have D80 := D70.keep K78 (sfS (Own.CA.safe D70.hZ.alike f73 (by decide)) sf0)
  obtain ⟨l78, el78⟩ : ∃ z : List Int32, z = own_pl (own_mk x2 x9 x13 x17) l62 j := ⟨_, rfl⟩
  rw [← el78] at V78
  have len78 : l78.length = 12 := by rw [el78]; rw [own_pl_len]; exact len62
  have K81 := fun t k => K77 t (st78 t k)
  obtain ⟨x82, hx82⟩ : ∃ z : Int32, z = (Int32.ofNat (j + (own_mk x2 x9 x13 x17).length) - x3) := ⟨_, rfl⟩
  have K83 : Own.To p e below B0 T78 (mkF m 210 #[vi p0, vi p1, vi p2, vl q3, .second, vi p4, vi x1, vi x2, vi x3, vi x4, vi x5, vi x9, vi x13, vi x17, vi x18, vi x19, vi x20, vr bs25, vr bs33, vr b37, vr bf51, vr bf55, vi x58, vi x72, vi x82, .unset] [(.int (x4 + x2)), (.int x82)]) := fun t k => K81 t (by
    subst hx82
    refine Own.istore X78 hx #[vi p0, vi p1, vi p2, vl q3, .second, vi p4, vi x1, vi x2, vi x3, vi x4, vi x5, vi x9, vi x13, vi x17, vi x18, vi x19, vi x20, vr bs25, vr bs33, vr b37, vr bf51, vr bf55, vi x58, vi x72, vi (Int32.ofNat (j + (own_mk x2 x9 x13 x17).length) - x3), .unset] (D at_201) rfl ?_
    refine Own.iload X78 hx (D at_203) rfl ?_
    refine Own.iload X78 hx (D at_205) rfl ?_
    refine Own.iload X78 hx (D at_207) rfl ?_
    refine Own.iadd X78 hx (D at_209) ?_
    exact k)
  have q84 : x2 = 0 ∨ x2 = 1 ∨ x2 = 2 ∨ x2 = 3 := by subst hx82; subst hx72; subst hx58; subst hx20; subst hx19; subst hx18; subst hx17; subst hx13; subst hx9; subst hx5; subst hx4; subst hx3; subst hx2; subst hx1; exact own_l3 _
  have hm := q84
  have K85 : Own.To p e below B0 T78 (mkF m 222 #[vi p0, vi p1, vi p2, vl q3, .second, vi p4, vi x1, vi x2, vi x3, vi x4, vi x5, vi x9, vi x13, vi x17, vi x18, vi x19, vi x20, vr bs25, vr bs33, vr b37, vr bf51, vr bf55, vi x58, vi x72, vi x82, vi 1] [(.int 1)]) := fun t k => K83 t (by
    refine Own.icmpNo X78 hx (D at_210) (teq (by rw [hx82]; exact own_ret ej2 hm : x82 = (x4 + x2))).2 ?_
    refine Own.iconst X78 hx 1 (D at_213) rfl ?_
    refine Own.goto X78 hx 218 (D at_214) (by decide) (by decide) ?_
    refine Own.istore X78 hx #[vi p0, vi p1, vi p2, vl q3, .second, vi p4, vi x1, vi x2, vi x3, vi x4, vi x5, vi x9, vi x13, vi x17, vi x18, vi x19, vi x20, vr bs25, vr bs33, vr b37, vr bf51, vr bf55, vi x58, vi x72, vi x82, vi 1] (D at_218) rfl ?_
    refine Own.iload X78 hx (D at_220) rfl ?_
    exact k)
  have f86 := (V68.keep K78 (ninS (Ne.symm (Nat.ne_of_lt (Nat.lt_of_lt_of_le V51.lt le55))) nin0))
  have K87 : Own.To p e below B0 T78 (mkF m 240 #[vi p0, vi p1, vi p2, vl q3, .second, vi p4, vi x1, vi x2, vi x3, vi x4, vi x5, vi x9, vi x13, vi x17, vi x18, vi x19, vi x20, vr bs25, vr bs33, vr b37, vr bf51, vr bf55, vi x58, vi x72, vi x82, vi 1] [(.int x17), (.int x13), (.int x9), (.int x2), (.int x58), (.int 0), (.ref bf55), (.ref bf51)]) := fun t k => K85 t (by
    refine Own.ifNo X78 hx (D at_222) ((if0 _ _).trans (feq (by decide : ¬ ((1 : Int32) = (0 : Int32)))).1) ?_
    refine Own.aload X78 hx (D at_225) rfl rfl ?_
    refine Own.aload X78 hx (D at_227) rfl rfl ?_
    refine Own.iconst X78 hx 0 (D at_229) rfl ?_
    refine Own.iload X78 hx (D at_230) rfl ?_
    refine Own.iload X78 hx (D at_232) rfl ?_
    refine Own.iload X78 hx (D at_234) rfl ?_
    refine Own.iload X78 hx (D at_236) rfl ?_
    refine Own.iload X78 hx (D at_238) rfl ?_
    exact k)
  have e20 : l78 = own_pl (own_mk x2 x9 x13 x17) l68 j := by rw [el78, el62, el68]
  obtain ⟨T88, X88, e88, st88⟩ := Own.callP (Ls := #[vi p0, vi p1, vi p2, vl q3, .second, vi p4, vi x1, vi x2, vi x3, vi x4, vi x5, vi x9, vi x13, vi x17, vi x18, vi x19, vi x20, vr bs25, vr bs33, vr b37, vr bf51, vr bf55, vi x58, vi x72, vi x82, vi 1]) X78 hx D80.hZ e78 [(.ref bf51), (.ref bf55), (.int 0), (.int x58), (.int x2), (.int x9), (.int x13), (.int x17)] [] (c44 l Z a0 hw bf51 bf55 (0 : Int32) x58 x2 x9 x13 x17 0 l78 l68 h78 V78 f86 len78 len68 (by decide) rfl) D80.hown (W_ hw 235 rfl) (W_ hw 236 rfl) (W_ hw 2 rfl) (W_ hw 237 rfl) (by decide) 0 rfl rfl (by decide) (by decide) (by decide) (by decide) (szOf hml rfl) (lenOf pd_40 rfl) rfl (Nat.le_of_eq rfl) (D at_240)
  have K89 := fun t k => K87 t (st88 t k)
  rw [own_sm (i := 0) (pi := (0 : Int32)) (by decide) rfl ej hj len68 hm e20] at K89
  have K90 : Own.To p e below B0 T88 (mkF m 255 #[vi p0, vi p1, vi p2, vl q3, .second, vi p4, vi x1, vi x2, vi x3, vi x4, vi x5, vi x9, vi x13, vi x17, vi x18, vi x19, vi x20, vr bs25, vr bs33, vr b37, vr bf51, vr bf55, vi x58, vi x72, vi x82, vi 1] [(.int 1)]) := fun t k => K89 t (by
    refine Own.ifNo X88 hx (D at_243) ((if0 _ _).trans (feq (by decide : ¬ ((1 : Int32) = (0 : Int32)))).1) ?_
    refine Own.iconst X88 hx 1 (D at_246) rfl ?_
    refine Own.goto X88 hx 251 (D at_247) (by decide) (by decide) ?_
    refine Own.istore X88 hx #[vi p0, vi p1, vi p2, vl q3, .second, vi p4, vi x1, vi x2, vi x3, vi x4, vi x5, vi x9, vi x13, vi x17, vi x18, vi x19, vi x20, vr bs25, vr bs33, vr b37, vr bf51, vr bf55, vi x58, vi x72, vi x82, vi 1] (D at_251) rfl ?_
    refine Own.iload X88 hx (D at_253) rfl ?_
    exact k)
  have K91 : Own.To p e below B0 T88 (mkF m 273 #[vi p0, vi p1, vi p2, vl q3, .second, vi p4, vi x1, vi x2, vi x3, vi x4, vi x5, vi x9, vi x13, vi x17, vi x18, vi x19, vi x20, vr bs25, vr bs33, vr b37, vr bf51, vr bf55, vi x58, vi x72, vi x82, vi 1] [(.int x17), (.int x13), (.int x9), (.int x2), (.int x58), (.int 1), (.ref bf55), (.ref bf51)]) := fun t k => K90 t (by
    refine Own.ifNo X88 hx (D at_255) ((if0 _ _).trans (feq (by decide : ¬ ((1 : Int32) = (0 : Int32)))).1) ?_
    refine Own.aload X88 hx (D at_258) rfl rfl ?_
    refine Own.aload X88 hx (D at_260) rfl rfl ?_
    refine Own.iconst X88 hx 1 (D at_262) rfl ?_
    refine Own.iload X88 hx (D at_263) rfl ?_
    refine Own.iload X88 hx (D at_265) rfl ?_
    refine Own.iload X88 hx (D at_267) rfl ?_
    refine Own.iload X88 hx (D at_269) rfl ?_
    refine Own.iload X88 hx (D at_271) rfl ?_
    exact k)
  obtain ⟨T92, X92, e92, st92⟩ := Own.callP (Ls := #[vi p0, vi p1, vi p2, vl q3, .second, vi p4, vi x1, vi x2, vi x3, vi x4, vi x5, vi x9, vi x13, vi x17, vi x18, vi x19, vi x20, vr bs25, vr bs33, vr b37, vr bf51, vr bf55, vi x58, vi x72, vi x82, vi 1]) X88 hx D80.hZ e88 [(.ref bf51), (.ref bf55), (.int 1), (.int x58), (.int x2), (.int x9), (.int x13), (.int x17)] [] (c44 l Z a0 hw bf51 bf55 (1 : Int32) x58 x2 x9 x13 x17 1 l78 l68 h78 V78 f86 len78 len68 (by decide) rfl) D80.hown (W_ hw 235 rfl) (W_ hw 236 rfl) (W_ hw 2 rfl) (W_ hw 237 rfl) (by decide) 0 rfl rfl (by decide) (by decide) (by decide) (by decide) (szOf hml rfl) (lenOf pd_40 rfl) rfl (Nat.le_of_eq rfl) (D at_273)
  have K93 := fun t k => K91 t (st92 t k)
  rw [own_sm (i := 1) (pi := (1 : Int32)) (by decide) rfl ej hj len68 hm e20] at K93
  have K94 : Own.To p e below B0 T92 (mkF m 288 #[vi p0, vi p1, vi p2, vl q3, .second, vi p4, vi x1, vi x2, vi x3, vi x4, vi x5, vi x9, vi x13, vi x17, vi x18, vi x19, vi x20, vr bs25, vr bs33, vr b37, vr bf51, vr bf55, vi x58, vi x72, vi x82, vi 1] [(.int 1)]) := fun t k => K93 t (by
    refine Own.ifNo X92 hx (D at_276) ((if0 _ _).trans (feq (by decide : ¬ ((1 : Int32) = (0 : Int32)))).1) ?_
    refine Own.iconst X92 hx 1 (D at_279) rfl ?_
    refine Own.goto X92 hx 284 (D at_280) (by decide) (by decide) ?_
    refine Own.istore X92 hx #[vi p0, vi p1, vi p2, vl q3, .second, vi p4, vi x1, vi x2, vi x3, vi x4, vi x5, vi x9, vi x13, vi x17, vi x18, vi x19, vi x20, vr bs25, vr bs33, vr b37, vr bf51, vr bf55, vi x58, vi x72, vi x82, vi 1] (D at_284) rfl ?_
    refine Own.iload X92 hx (D at_286) rfl ?_
    exact k)
  have K95 : Own.To p e below B0 T92 (mkF m 306 #[vi p0, vi p1, vi p2, vl q3, .second, vi p4, vi x1, vi x2, vi x3, vi x4, vi x5, vi x9, vi x13, vi x17, vi x18, vi x19, vi x20, vr bs25, vr bs33, vr b37, vr bf51, vr bf55, vi x58, vi x72, vi x82, vi 1] [(.int x17), (.int x13), (.int x9), (.int x2), (.int x58), (.int 2), (.ref bf55), (.ref bf51)]) := fun t k => K94 t (by
    refine Own.ifNo X92 hx (D at_288) ((if0 _ _).trans (feq (by decide : ¬ ((1 : Int32) = (0 : Int32)))).1) ?_
    refine Own.aload X92 hx (D at_291) rfl rfl ?_
    refine Own.aload X92 hx (D at_293) rfl rfl ?_
    refine Own.iconst X92 hx 2 (D at_295) rfl ?_
    refine Own.iload X92 hx (D at_296) rfl ?_
    refine Own.iload X92 hx (D at_298) rfl ?_
    refine Own.iload X92 hx (D at_300) rfl ?_
    refine Own.iload X92 hx (D at_302) rfl ?_
    refine Own.iload X92 hx (D at_304) rfl ?_
    exact k)
  obtain ⟨T96, X96, e96, st96⟩ := Own.callP (Ls := #[vi p0, vi p1, vi p2, vl q3, .second, vi p4, vi x1, vi x2, vi x3, vi x4, vi x5, vi x9, vi x13, vi x17, vi x18, vi x19, vi x20, vr bs25, vr bs33, vr b37, vr bf51, vr bf55, vi x58, vi x72, vi x82, vi 1]) X92 hx D80.hZ e92 [(.ref bf51), (.ref bf55), (.int 2), (.int x58), (.int x2), (.int x9), (.int x13), (.int x17)] [] (c44 l Z a0 hw bf51 bf55 (2 : Int32) x58 x2 x9 x13 x17 2 l78 l68 h78 V78 f86 len78 len68 (by decide) rfl) D80.hown (W_ hw 235 rfl) (W_ hw 236 rfl) (W_ hw 2 rfl) (W_ hw 237 rfl) (by decide) 0 rfl rfl (by decide) (by decide) (by decide) (by decide) (szOf hml rfl) (lenOf pd_40 rfl) rfl (Nat.le_of_eq rfl) (D at_306)
  have K97 := fun t k => K95 t (st96 t k)
  rw [own_sm (i := 2) (pi := (2 : Int32)) (by decide) rfl ej hj len68 hm e20] at K97
  have K98 : Own.To p e below B0 T96 (mkF m 321 #[vi p0, vi p1, vi p2, vl q3, .second, vi p4, vi x1, vi x2, vi x3, vi x4, vi x5, vi x9, vi x13, vi x17, vi x18, vi x19, vi x20, vr bs25, vr bs33, vr b37, vr bf51, vr bf55, vi x58, vi x72, vi x82, vi 1] [(.int 1)]) := fun t k => K97 t (by
    refine Own.ifNo X96 hx (D at_309) ((if0 _ _).trans (feq (by decide : ¬ ((1 : Int32) = (0 : Int32)))).1) ?_
    refine Own.iconst X96 hx 1 (D at_312) rfl ?_
    refine Own.goto X96 hx 317 (D at_313) (by decide) (by decide) ?_
    refine Own.istore X96 hx #[vi p0, vi p1, vi p2, vl q3, .second, vi p4, vi x1, vi x2, vi x3, vi x4, vi x5, vi x9, vi x13, vi x17, vi x18, vi x19, vi x20, vr bs25, vr bs33, vr b37, vr bf51, vr bf55, vi x58, vi x72, vi x82, vi 1] (D at_317) rfl ?_
    refine Own.iload X96 hx (D at_319) rfl ?_
    exact k)
  have K99 : Own.To p e below B0 T96 (mkF m 339 #[vi p0, vi p1, vi p2, vl q3, .second, vi p4, vi x1, vi x2, vi x3, vi x4, vi x5, vi x9, vi x13, vi x17, vi x18, vi x19, vi x20, vr bs25, vr bs33, vr b37, vr bf51, vr bf55, vi x58, vi x72, vi x82, vi 1] [(.int x17), (.int x13), (.int x9), (.int x2), (.int x58), (.int 3), (.ref bf55), (.ref bf51)]) := fun t k => K98 t (by
    refine Own.ifNo X96 hx (D at_321) ((if0 _ _).trans (feq (by decide : ¬ ((1 : Int32) = (0 : Int32)))).1) ?_
    refine Own.aload X96 hx (D at_324) rfl rfl ?_
    refine Own.aload X96 hx (D at_326) rfl rfl ?_
    refine Own.iconst X96 hx 3 (D at_328) rfl ?_
    refine Own.iload X96 hx (D at_329) rfl ?_
    refine Own.iload X96 hx (D at_331) rfl ?_
    refine Own.iload X96 hx (D at_333) rfl ?_
    refine Own.iload X96 hx (D at_335) rfl ?_
    refine Own.iload X96 hx (D at_337) rfl ?_
    exact k)
  obtain ⟨T100, X100, e100, st100⟩ := Own.callP (Ls := #[vi p0, vi p1, vi p2, vl q3, .second, vi p4, vi x1, vi x2, vi x3, vi x4, vi x5, vi x9, vi x13, vi x17, vi x18, vi x19, vi x20, vr bs25, vr bs33, vr b37, vr bf51, vr bf55, vi x58, vi x72, vi x82, vi 1]) X96 hx D80.hZ e96 [(.ref bf51), (.ref bf55), (.int 3), (.int x58), (.int x2), (.int x9), (.int x13), (.int x17)] [] (c44 l Z a0 hw bf51 bf55 (3 : Int32) x58 x2 x9 x13 x17 3 l78 l68 h78 V78 f86 len78 len68 (by decide) rfl) D80.hown (W_ hw 235 rfl) (W_ hw 236 rfl) (W_ hw 2 rfl) (W_ hw 237 rfl) (by decide) 0 rfl rfl (by decide) (by decide) (by decide) (by decide) (szOf hml rfl) (lenOf pd_40 rfl) rfl (Nat.le_of_eq rfl) (D at_339)
  have K101 := fun t k => K99 t (st100 t k)
  rw [own_sm (i := 3) (pi := (3 : Int32)) (by decide) rfl ej hj len68 hm e20] at K101
  have K102 : Own.To p e below B0 T100 (mkF m 354 #[vi p0, vi p1, vi p2, vl q3, .second, vi p4, vi x1, vi x2, vi x3, vi x4, vi x5, vi x9, vi x13, vi x17, vi x18, vi x19, vi x20, vr bs25, vr bs33, vr b37, vr bf51, vr bf55, vi x58, vi x72, vi x82, vi 1] [(.int 1)]) := fun t k => K101 t (by
    refine Own.ifNo X100 hx (D at_342) ((if0 _ _).trans (feq (by decide : ¬ ((1 : Int32) = (0 : Int32)))).1) ?_
    refine Own.iconst X100 hx 1 (D at_345) rfl ?_
    refine Own.goto X100 hx 350 (D at_346) (by decide) (by decide) ?_
    refine Own.istore X100 hx #[vi p0, vi p1, vi p2, vl q3, .second, vi p4, vi x1, vi x2, vi x3, vi x4, vi x5, vi x9, vi x13, vi x17, vi x18, vi x19, vi x20, vr bs25, vr bs33, vr b37, vr bf51, vr bf55, vi x58, vi x72, vi x82, vi 1] (D at_350) rfl ?_
    refine Own.iload X100 hx (D at_352) rfl ?_
    exact k)
  have K103 : Own.To p e below B0 T100 (mkF m 372 #[vi p0, vi p1, vi p2, vl q3, .second, vi p4, vi x1, vi x2, vi x3, vi x4, vi x5, vi x9, vi x13, vi x17, vi x18, vi x19, vi x20, vr bs25, vr bs33, vr b37, vr bf51, vr bf55, vi x58, vi x72, vi x82, vi 1] [(.int x17), (.int x13), (.int x9), (.int x2), (.int x58), (.int 4), (.ref bf55), (.ref bf51)]) := fun t k => K102 t (by
    refine Own.ifNo X100 hx (D at_354) ((if0 _ _).trans (feq (by decide : ¬ ((1 : Int32) = (0 : Int32)))).1) ?_
    refine Own.aload X100 hx (D at_357) rfl rfl ?_
    refine Own.aload X100 hx (D at_359) rfl rfl ?_
    refine Own.iconst X100 hx 4 (D at_361) rfl ?_
    refine Own.iload X100 hx (D at_362) rfl ?_
    refine Own.iload X100 hx (D at_364) rfl ?_
    refine Own.iload X100 hx (D at_366) rfl ?_
    refine Own.iload X100 hx (D at_368) rfl ?_
    refine Own.iload X100 hx (D at_370) rfl ?_
    exact k)
  obtain ⟨T104, X104, e104, st104⟩ := Own.callP (Ls := #[vi p0, vi p1, vi p2, vl q3, .second, vi p4, vi x1, vi x2, vi x3, vi x4, vi x5, vi x9, vi x13, vi x17, vi x18, vi x19, vi x20, vr bs25, vr bs33, vr b37, vr bf51, vr bf55, vi x58, vi x72, vi x82, vi 1]) X100 hx D80.hZ e100 [(.ref bf51), (.ref bf55), (.int 4), (.int x58), (.int x2), (.int x9), (.int x13), (.int x17)] [] (c44 l Z a0 hw bf51 bf55 (4 : Int32) x58 x2 x9 x13 x17 4 l78 l68 h78 V78 f86 len78 len68 (by decide) rfl) D80.hown (W_ hw 235 rfl) (W_ hw 236 rfl) (W_ hw 2 rfl) (W_ hw 237 rfl) (by decide) 0 rfl rfl (by decide) (by decide) (by decide) (by decide) (szOf hml rfl) (lenOf pd_40 rfl) rfl (Nat.le_of_eq rfl) (D at_372)
  have K105 := fun t k => K103 t (st104 t k)
  rw [own_sm (i := 4) (pi := (4 : Int32)) (by decide) rfl ej hj len68 hm e20] at K105
  have K106 : Own.To p e below B0 T104 (mkF m 387 #[vi p0, vi p1, vi p2, vl q3, .second, vi p4, vi x1, vi x2, vi x3, vi x4, vi x5, vi x9, vi x13, vi x17, vi x18, vi x19, vi x20, vr bs25, vr bs33, vr b37, vr bf51, vr bf55, vi x58, vi x72, vi x82, vi 1] [(.int 1)]) := fun t k => K105 t (by
    refine Own.ifNo X104 hx (D at_375) ((if0 _ _).trans (feq (by decide : ¬ ((1 : Int32) = (0 : Int32)))).1) ?_
    refine Own.iconst X104 hx 1 (D at_378) rfl ?_
    refine Own.goto X104 hx 383 (D at_379) (by decide) (by decide) ?_
    refine Own.istore X104 hx #[vi p0, vi p1, vi p2, vl q3, .second, vi p4, vi x1, vi x2, vi x3, vi x4, vi x5, vi x9, vi x13, vi x17, vi x18, vi x19, vi x20, vr bs25, vr bs33, vr b37, vr bf51, vr bf55, vi x58, vi x72, vi x82, vi 1] (D at_383) rfl ?_
    refine Own.iload X104 hx (D at_385) rfl ?_
    exact k)
  have K107 : Own.To p e below B0 T104 (mkF m 405 #[vi p0, vi p1, vi p2, vl q3, .second, vi p4, vi x1, vi x2, vi x3, vi x4, vi x5, vi x9, vi x13, vi x17, vi x18, vi x19, vi x20, vr bs25, vr bs33, vr b37, vr bf51, vr bf55, vi x58, vi x72, vi x82, vi 1] [(.int x17), (.int x13), (.int x9), (.int x2), (.int x58), (.int 5), (.ref bf55), (.ref bf51)]) := fun t k => K106 t (by
    refine Own.ifNo X104 hx (D at_387) ((if0 _ _).trans (feq (by decide : ¬ ((1 : Int32) = (0 : Int32)))).1) ?_
    refine Own.aload X104 hx (D at_390) rfl rfl ?_
    refine Own.aload X104 hx (D at_392) rfl rfl ?_
    refine Own.iconst X104 hx 5 (D at_394) rfl ?_
    refine Own.iload X104 hx (D at_395) rfl ?_
    refine Own.iload X104 hx (D at_397) rfl ?_
    refine Own.iload X104 hx (D at_399) rfl ?_
    refine Own.iload X104 hx (D at_401) rfl ?_
    refine Own.iload X104 hx (D at_403) rfl ?_
    exact k)
  obtain ⟨T108, X108, e108, st108⟩ := Own.callP (Ls := #[vi p0, vi p1, vi p2, vl q3, .second, vi p4, vi x1, vi x2, vi x3, vi x4, vi x5, vi x9, vi x13, vi x17, vi x18, vi x19, vi x20, vr bs25, vr bs33, vr b37, vr bf51, vr bf55, vi x58, vi x72, vi x82, vi 1]) X104 hx D80.hZ e104 [(.ref bf51), (.ref bf55), (.int 5), (.int x58), (.int x2), (.int x9), (.int x13), (.int x17)] [] (c44 l Z a0 hw bf51 bf55 (5 : Int32) x58 x2 x9 x13 x17 5 l78 l68 h78 V78 f86 len78 len68 (by decide) rfl) D80.hown (W_ hw 235 rfl) (W_ hw 236 rfl) (W_ hw 2 rfl) (W_ hw 237 rfl) (by decide) 0 rfl rfl (by decide) (by decide) (by decide) (by decide) (szOf hml rfl) (lenOf pd_40 rfl) rfl (Nat.le_of_eq rfl) (D at_405)
  have K109 := fun t k => K107 t (st108 t k)
  rw [own_sm (i := 5) (pi := (5 : Int32)) (by decide) rfl ej hj len68 hm e20] at K109
  have K110 : Own.To p e below B0 T108 (mkF m 420 #[vi p0, vi p1, vi p2, vl q3, .second, vi p4, vi x1, vi x2, vi x3, vi x4, vi x5, vi x9, vi x13, vi x17, vi x18, vi x19, vi x20, vr bs25, vr bs33, vr b37, vr bf51, vr bf55, vi x58, vi x72, vi x82, vi 1] [(.int 1)]) := fun t k => K109 t (by
    refine Own.ifNo X108 hx (D at_408) ((if0 _ _).trans (feq (by decide : ¬ ((1 : Int32) = (0 : Int32)))).1) ?_
    refine Own.iconst X108 hx 1 (D at_411) rfl ?_
    refine Own.goto X108 hx 416 (D at_412) (by decide) (by decide) ?_
    refine Own.istore X108 hx #[vi p0, vi p1, vi p2, vl q3, .second, vi p4, vi x1, vi x2, vi x3, vi x4, vi x5, vi x9, vi x13, vi x17, vi x18, vi x19, vi x20, vr bs25, vr bs33, vr b37, vr bf51, vr bf55, vi x58, vi x72, vi x82, vi 1] (D at_416) rfl ?_
    refine Own.iload X108 hx (D at_418) rfl ?_
    exact k)
  have K111 : Own.To p e below B0 T108 (mkF m 439 #[vi p0, vi p1, vi p2, vl q3, .second, vi p4, vi x1, vi x2, vi x3, vi x4, vi x5, vi x9, vi x13, vi x17, vi x18, vi x19, vi x20, vr bs25, vr bs33, vr b37, vr bf51, vr bf55, vi x58, vi x72, vi x82, vi 1] [(.int x17), (.int x13), (.int x9), (.int x2), (.int x58), (.int 6), (.ref bf55), (.ref bf51)]) := fun t k => K110 t (by
    refine Own.ifNo X108 hx (D at_420) ((if0 _ _).trans (feq (by decide : ¬ ((1 : Int32) = (0 : Int32)))).1) ?_
    refine Own.aload X108 hx (D at_423) rfl rfl ?_
    refine Own.aload X108 hx (D at_425) rfl rfl ?_
    refine Own.bipush X108 hx 6 (D at_427) rfl ?_
    refine Own.iload X108 hx (D at_429) rfl ?_
    refine Own.iload X108 hx (D at_431) rfl ?_
    refine Own.iload X108 hx (D at_433) rfl ?_
    refine Own.iload X108 hx (D at_435) rfl ?_
    refine Own.iload X108 hx (D at_437) rfl ?_
    exact k)
  obtain ⟨T112, X112, e112, st112⟩ := Own.callP (Ls := #[vi p0, vi p1, vi p2, vl q3, .second, vi p4, vi x1, vi x2, vi x3, vi x4, vi x5, vi x9, vi x13, vi x17, vi x18, vi x19, vi x20, vr bs25, vr bs33, vr b37, vr bf51, vr bf55, vi x58, vi x72, vi x82, vi 1]) X108 hx D80.hZ e108 [(.ref bf51), (.ref bf55), (.int 6), (.int x58), (.int x2), (.int x9), (.int x13), (.int x17)] [] (c44 l Z a0 hw bf51 bf55 (6 : Int32) x58 x2 x9 x13 x17 6 l78 l68 h78 V78 f86 len78 len68 (by decide) rfl) D80.hown (W_ hw 235 rfl) (W_ hw 236 rfl) (W_ hw 2 rfl) (W_ hw 237 rfl) (by decide) 0 rfl rfl (by decide) (by decide) (by decide) (by decide) (szOf hml rfl) (lenOf pd_40 rfl) rfl (Nat.le_of_eq rfl) (D at_439)
  have K113 := fun t k => K111 t (st112 t k)
  rw [own_sm (i := 6) (pi := (6 : Int32)) (by decide) rfl ej hj len68 hm e20] at K113
  have K114 : Own.To p e below B0 T112 (mkF m 454 #[vi p0, vi p1, vi p2, vl q3, .second, vi p4, vi x1, vi x2, vi x3, vi x4, vi x5, vi x9, vi x13, vi x17, vi x18, vi x19, vi x20, vr bs25, vr bs33, vr b37, vr bf51, vr bf55, vi x58, vi x72, vi x82, vi 1] [(.int 1)]) := fun t k => K113 t (by
    refine Own.ifNo X112 hx (D at_442) ((if0 _ _).trans (feq (by decide : ¬ ((1 : Int32) = (0 : Int32)))).1) ?_
    refine Own.iconst X112 hx 1 (D at_445) rfl ?_
    refine Own.goto X112 hx 450 (D at_446) (by decide) (by decide) ?_
    refine Own.istore X112 hx #[vi p0, vi p1, vi p2, vl q3, .second, vi p4, vi x1, vi x2, vi x3, vi x4, vi x5, vi x9, vi x13, vi x17, vi x18, vi x19, vi x20, vr bs25, vr bs33, vr b37, vr bf51, vr bf55, vi x58, vi x72, vi x82, vi 1] (D at_450) rfl ?_
    refine Own.iload X112 hx (D at_452) rfl ?_
    exact k)
  have K115 : Own.To p e below B0 T112 (mkF m 473 #[vi p0, vi p1, vi p2, vl q3, .second, vi p4, vi x1, vi x2, vi x3, vi x4, vi x5, vi x9, vi x13, vi x17, vi x18, vi x19, vi x20, vr bs25, vr bs33, vr b37, vr bf51, vr bf55, vi x58, vi x72, vi x82, vi 1] [(.int x17), (.int x13), (.int x9), (.int x2), (.int x58), (.int 7), (.ref bf55), (.ref bf51)]) := fun t k => K114 t (by
    refine Own.ifNo X112 hx (D at_454) ((if0 _ _).trans (feq (by decide : ¬ ((1 : Int32) = (0 : Int32)))).1) ?_
    refine Own.aload X112 hx (D at_457) rfl rfl ?_
    refine Own.aload X112 hx (D at_459) rfl rfl ?_
    refine Own.bipush X112 hx 7 (D at_461) rfl ?_
    refine Own.iload X112 hx (D at_463) rfl ?_
    refine Own.iload X112 hx (D at_465) rfl ?_
    refine Own.iload X112 hx (D at_467) rfl ?_
    refine Own.iload X112 hx (D at_469) rfl ?_
    refine Own.iload X112 hx (D at_471) rfl ?_
    exact k)
  obtain ⟨T116, X116, e116, st116⟩ := Own.callP (Ls := #[vi p0, vi p1, vi p2, vl q3, .second, vi p4, vi x1, vi x2, vi x3, vi x4, vi x5, vi x9, vi x13, vi x17, vi x18, vi x19, vi x20, vr bs25, vr bs33, vr b37, vr bf51, vr bf55, vi x58, vi x72, vi x82, vi 1]) X112 hx D80.hZ e112 [(.ref bf51), (.ref bf55), (.int 7), (.int x58), (.int x2), (.int x9), (.int x13), (.int x17)] [] (c44 l Z a0 hw bf51 bf55 (7 : Int32) x58 x2 x9 x13 x17 7 l78 l68 h78 V78 f86 len78 len68 (by decide) rfl) D80.hown (W_ hw 235 rfl) (W_ hw 236 rfl) (W_ hw 2 rfl) (W_ hw 237 rfl) (by decide) 0 rfl rfl (by decide) (by decide) (by decide) (by decide) (szOf hml rfl) (lenOf pd_40 rfl) rfl (Nat.le_of_eq rfl) (D at_473)
  have K117 := fun t k => K115 t (st116 t k)
  rw [own_sm (i := 7) (pi := (7 : Int32)) (by decide) rfl ej hj len68 hm e20] at K117
  have K118 : Own.To p e below B0 T116 (mkF m 488 #[vi p0, vi p1, vi p2, vl q3, .second, vi p4, vi x1, vi x2, vi x3, vi x4, vi x5, vi x9, vi x13, vi x17, vi x18, vi x19, vi x20, vr bs25, vr bs33, vr b37, vr bf51, vr bf55, vi x58, vi x72, vi x82, vi 1] [(.int 1)]) := fun t k => K117 t (by
    refine Own.ifNo X116 hx (D at_476) ((if0 _ _).trans (feq (by decide : ¬ ((1 : Int32) = (0 : Int32)))).1) ?_
    refine Own.iconst X116 hx 1 (D at_479) rfl ?_
    refine Own.goto X116 hx 484 (D at_480) (by decide) (by decide) ?_
    refine Own.istore X116 hx #[vi p0, vi p1, vi p2, vl q3, .second, vi p4, vi x1, vi x2, vi x3, vi x4, vi x5, vi x9, vi x13, vi x17, vi x18, vi x19, vi x20, vr bs25, vr bs33, vr b37, vr bf51, vr bf55, vi x58, vi x72, vi x82, vi 1] (D at_484) rfl ?_
    refine Own.iload X116 hx (D at_486) rfl ?_
    exact k)
  have K119 : Own.To p e below B0 T116 (mkF m 507 #[vi p0, vi p1, vi p2, vl q3, .second, vi p4, vi x1, vi x2, vi x3, vi x4, vi x5, vi x9, vi x13, vi x17, vi x18, vi x19, vi x20, vr bs25, vr bs33, vr b37, vr bf51, vr bf55, vi x58, vi x72, vi x82, vi 1] [(.int x17), (.int x13), (.int x9), (.int x2), (.int x58), (.int 8), (.ref bf55), (.ref bf51)]) := fun t k => K118 t (by
    refine Own.ifNo X116 hx (D at_488) ((if0 _ _).trans (feq (by decide : ¬ ((1 : Int32) = (0 : Int32)))).1) ?_
    refine Own.aload X116 hx (D at_491) rfl rfl ?_
    refine Own.aload X116 hx (D at_493) rfl rfl ?_
    refine Own.bipush X116 hx 8 (D at_495) rfl ?_
    refine Own.iload X116 hx (D at_497) rfl ?_
    refine Own.iload X116 hx (D at_499) rfl ?_
    refine Own.iload X116 hx (D at_501) rfl ?_
    refine Own.iload X116 hx (D at_503) rfl ?_
    refine Own.iload X116 hx (D at_505) rfl ?_
    exact k)
  obtain ⟨T120, X120, e120, st120⟩ := Own.callP (Ls := #[vi p0, vi p1, vi p2, vl q3, .second, vi p4, vi x1, vi x2, vi x3, vi x4, vi x5, vi x9, vi x13, vi x17, vi x18, vi x19, vi x20, vr bs25, vr bs33, vr b37, vr bf51, vr bf55, vi x58, vi x72, vi x82, vi 1]) X116 hx D80.hZ e116 [(.ref bf51), (.ref bf55), (.int 8), (.int x58), (.int x2), (.int x9), (.int x13), (.int x17)] [] (c44 l Z a0 hw bf51 bf55 (8 : Int32) x58 x2 x9 x13 x17 8 l78 l68 h78 V78 f86 len78 len68 (by decide) rfl) D80.hown (W_ hw 235 rfl) (W_ hw 236 rfl) (W_ hw 2 rfl) (W_ hw 237 rfl) (by decide) 0 rfl rfl (by decide) (by decide) (by decide) (by decide) (szOf hml rfl) (lenOf pd_40 rfl) rfl (Nat.le_of_eq rfl) (D at_507)
  have K121 := fun t k => K119 t (st120 t k)
  rw [own_sm (i := 8) (pi := (8 : Int32)) (by decide) rfl ej hj len68 hm e20] at K121
  have K122 : Own.To p e below B0 T120 (mkF m 522 #[vi p0, vi p1, vi p2, vl q3, .second, vi p4, vi x1, vi x2, vi x3, vi x4, vi x5, vi x9, vi x13, vi x17, vi x18, vi x19, vi x20, vr bs25, vr bs33, vr b37, vr bf51, vr bf55, vi x58, vi x72, vi x82, vi 1] [(.int 1)]) := fun t k => K121 t (by
    refine Own.ifNo X120 hx (D at_510) ((if0 _ _).trans (feq (by decide : ¬ ((1 : Int32) = (0 : Int32)))).1) ?_
    refine Own.iconst X120 hx 1 (D at_513) rfl ?_
    refine Own.goto X120 hx 518 (D at_514) (by decide) (by decide) ?_
    refine Own.istore X120 hx #[vi p0, vi p1, vi p2, vl q3, .second, vi p4, vi x1, vi x2, vi x3, vi x4, vi x5, vi x9, vi x13, vi x17, vi x18, vi x19, vi x20, vr bs25, vr bs33, vr b37, vr bf51, vr bf55, vi x58, vi x72, vi x82, vi 1] (D at_518) rfl ?_
    refine Own.iload X120 hx (D at_520) rfl ?_
    exact k)
  have K123 : Own.To p e below B0 T120 (mkF m 541 #[vi p0, vi p1, vi p2, vl q3, .second, vi p4, vi x1, vi x2, vi x3, vi x4, vi x5, vi x9, vi x13, vi x17, vi x18, vi x19, vi x20, vr bs25, vr bs33, vr b37, vr bf51, vr bf55, vi x58, vi x72, vi x82, vi 1] [(.int x17), (.int x13), (.int x9), (.int x2), (.int x58), (.int 9), (.ref bf55), (.ref bf51)]) := fun t k => K122 t (by
    refine Own.ifNo X120 hx (D at_522) ((if0 _ _).trans (feq (by decide : ¬ ((1 : Int32) = (0 : Int32)))).1) ?_
    refine Own.aload X120 hx (D at_525) rfl rfl ?_
    refine Own.aload X120 hx (D at_527) rfl rfl ?_
    refine Own.bipush X120 hx 9 (D at_529) rfl ?_
    refine Own.iload X120 hx (D at_531) rfl ?_
    refine Own.iload X120 hx (D at_533) rfl ?_
    refine Own.iload X120 hx (D at_535) rfl ?_
    refine Own.iload X120 hx (D at_537) rfl ?_
    refine Own.iload X120 hx (D at_539) rfl ?_
    exact k)
  obtain ⟨T124, X124, e124, st124⟩ := Own.callP (Ls := #[vi p0, vi p1, vi p2, vl q3, .second, vi p4, vi x1, vi x2, vi x3, vi x4, vi x5, vi x9, vi x13, vi x17, vi x18, vi x19, vi x20, vr bs25, vr bs33, vr b37, vr bf51, vr bf55, vi x58, vi x72, vi x82, vi 1]) X120 hx D80.hZ e120 [(.ref bf51), (.ref bf55), (.int 9), (.int x58), (.int x2), (.int x9), (.int x13), (.int x17)] [] (c44 l Z a0 hw bf51 bf55 (9 : Int32) x58 x2 x9 x13 x17 9 l78 l68 h78 V78 f86 len78 len68 (by decide) rfl) D80.hown (W_ hw 235 rfl) (W_ hw 236 rfl) (W_ hw 2 rfl) (W_ hw 237 rfl) (by decide) 0 rfl rfl (by decide) (by decide) (by decide) (by decide) (szOf hml rfl) (lenOf pd_40 rfl) rfl (Nat.le_of_eq rfl) (D at_541)
  have K125 := fun t k => K123 t (st124 t k)
  rw [own_sm (i := 9) (pi := (9 : Int32)) (by decide) rfl ej hj len68 hm e20] at K125
  have K126 : Own.To p e below B0 T124 (mkF m 556 #[vi p0, vi p1, vi p2, vl q3, .second, vi p4, vi x1, vi x2, vi x3, vi x4, vi x5, vi x9, vi x13, vi x17, vi x18, vi x19, vi x20, vr bs25, vr bs33, vr b37, vr bf51, vr bf55, vi x58, vi x72, vi x82, vi 1] [(.int 1)]) := fun t k => K125 t (by
    refine Own.ifNo X124 hx (D at_544) ((if0 _ _).trans (feq (by decide : ¬ ((1 : Int32) = (0 : Int32)))).1) ?_
    refine Own.iconst X124 hx 1 (D at_547) rfl ?_
    refine Own.goto X124 hx 552 (D at_548) (by decide) (by decide) ?_
    refine Own.istore X124 hx #[vi p0, vi p1, vi p2, vl q3, .second, vi p4, vi x1, vi x2, vi x3, vi x4, vi x5, vi x9, vi x13, vi x17, vi x18, vi x19, vi x20, vr bs25, vr bs33, vr b37, vr bf51, vr bf55, vi x58, vi x72, vi x82, vi 1] (D at_552) rfl ?_
    refine Own.iload X124 hx (D at_554) rfl ?_
    exact k)
  have K127 : Own.To p e below B0 T124 (mkF m 575 #[vi p0, vi p1, vi p2, vl q3, .second, vi p4, vi x1, vi x2, vi x3, vi x4, vi x5, vi x9, vi x13, vi x17, vi x18, vi x19, vi x20, vr bs25, vr bs33, vr b37, vr bf51, vr bf55, vi x58, vi x72, vi x82, vi 1] [(.int x17), (.int x13), (.int x9), (.int x2), (.int x58), (.int 10), (.ref bf55), (.ref bf51)]) := fun t k => K126 t (by
    refine Own.ifNo X124 hx (D at_556) ((if0 _ _).trans (feq (by decide : ¬ ((1 : Int32) = (0 : Int32)))).1) ?_
    refine Own.aload X124 hx (D at_559) rfl rfl ?_
    refine Own.aload X124 hx (D at_561) rfl rfl ?_
    refine Own.bipush X124 hx 10 (D at_563) rfl ?_
    refine Own.iload X124 hx (D at_565) rfl ?_
    refine Own.iload X124 hx (D at_567) rfl ?_
    refine Own.iload X124 hx (D at_569) rfl ?_
    refine Own.iload X124 hx (D at_571) rfl ?_
    refine Own.iload X124 hx (D at_573) rfl ?_
    exact k)
  obtain ⟨T128, X128, e128, st128⟩ := Own.callP (Ls := #[vi p0, vi p1, vi p2, vl q3, .second, vi p4, vi x1, vi x2, vi x3, vi x4, vi x5, vi x9, vi x13, vi x17, vi x18, vi x19, vi x20, vr bs25, vr bs33, vr b37, vr bf51, vr bf55, vi x58, vi x72, vi x82, vi 1]) X124 hx D80.hZ e124 [(.ref bf51), (.ref bf55), (.int 10), (.int x58), (.int x2), (.int x9), (.int x13), (.int x17)] [] (c44 l Z a0 hw bf51 bf55 (10 : Int32) x58 x2 x9 x13 x17 10 l78 l68 h78 V78 f86 len78 len68 (by decide) rfl) D80.hown (W_ hw 235 rfl) (W_ hw 236 rfl) (W_ hw 2 rfl) (W_ hw 237 rfl) (by decide) 0 rfl rfl (by decide) (by decide) (by decide) (by decide) (szOf hml rfl) (lenOf pd_40 rfl) rfl (Nat.le_of_eq rfl) (D at_575)
  have K129 := fun t k => K127 t (st128 t k)
  rw [own_sm (i := 10) (pi := (10 : Int32)) (by decide) rfl ej hj len68 hm e20] at K129
  have K130 : Own.To p e below B0 T128 (mkF m 590 #[vi p0, vi p1, vi p2, vl q3, .second, vi p4, vi x1, vi x2, vi x3, vi x4, vi x5, vi x9, vi x13, vi x17, vi x18, vi x19, vi x20, vr bs25, vr bs33, vr b37, vr bf51, vr bf55, vi x58, vi x72, vi x82, vi 1] [(.int 1)]) := fun t k => K129 t (by
    refine Own.ifNo X128 hx (D at_578) ((if0 _ _).trans (feq (by decide : ¬ ((1 : Int32) = (0 : Int32)))).1) ?_
    refine Own.iconst X128 hx 1 (D at_581) rfl ?_
    refine Own.goto X128 hx 586 (D at_582) (by decide) (by decide) ?_
    refine Own.istore X128 hx #[vi p0, vi p1, vi p2, vl q3, .second, vi p4, vi x1, vi x2, vi x3, vi x4, vi x5, vi x9, vi x13, vi x17, vi x18, vi x19, vi x20, vr bs25, vr bs33, vr b37, vr bf51, vr bf55, vi x58, vi x72, vi x82, vi 1] (D at_586) rfl ?_
    refine Own.iload X128 hx (D at_588) rfl ?_
    exact k)
  have K131 : Own.To p e below B0 T128 (mkF m 609 #[vi p0, vi p1, vi p2, vl q3, .second, vi p4, vi x1, vi x2, vi x3, vi x4, vi x5, vi x9, vi x13, vi x17, vi x18, vi x19, vi x20, vr bs25, vr bs33, vr b37, vr bf51, vr bf55, vi x58, vi x72, vi x82, vi 1] [(.int x17), (.int x13), (.int x9), (.int x2), (.int x58), (.int 11), (.ref bf55), (.ref bf51)]) := fun t k => K130 t (by
    refine Own.ifNo X128 hx (D at_590) ((if0 _ _).trans (feq (by decide : ¬ ((1 : Int32) = (0 : Int32)))).1) ?_
    refine Own.aload X128 hx (D at_593) rfl rfl ?_
    refine Own.aload X128 hx (D at_595) rfl rfl ?_
    refine Own.bipush X128 hx 11 (D at_597) rfl ?_
    refine Own.iload X128 hx (D at_599) rfl ?_
    refine Own.iload X128 hx (D at_601) rfl ?_
    refine Own.iload X128 hx (D at_603) rfl ?_
    refine Own.iload X128 hx (D at_605) rfl ?_
    refine Own.iload X128 hx (D at_607) rfl ?_
    exact k)
  obtain ⟨T132, X132, e132, st132⟩ := Own.callP (Ls := #[vi p0, vi p1, vi p2, vl q3, .second, vi p4, vi x1, vi x2, vi x3, vi x4, vi x5, vi x9, vi x13, vi x17, vi x18, vi x19, vi x20, vr bs25, vr bs33, vr b37, vr bf51, vr bf55, vi x58, vi x72, vi x82, vi 1]) X128 hx D80.hZ e128 [(.ref bf51), (.ref bf55), (.int 11), (.int x58), (.int x2), (.int x9), (.int x13), (.int x17)] [] (c44 l Z a0 hw bf51 bf55 (11 : Int32) x58 x2 x9 x13 x17 11 l78 l68 h78 V78 f86 len78 len68 (by decide) rfl) D80.hown (W_ hw 235 rfl) (W_ hw 236 rfl) (W_ hw 2 rfl) (W_ hw 237 rfl) (by decide) 0 rfl rfl (by decide) (by decide) (by decide) (by decide) (szOf hml rfl) (lenOf pd_40 rfl) rfl (Nat.le_of_eq rfl) (D at_609)
  have K133 := fun t k => K131 t (st132 t k)
  rw [own_sm (i := 11) (pi := (11 : Int32)) (by decide) rfl ej hj len68 hm e20] at K133
  have K134 : Own.To p e below B0 T132 (mkF m 624 #[vi p0, vi p1, vi p2, vl q3, .second, vi p4, vi x1, vi x2, vi x3, vi x4, vi x5, vi x9, vi x13, vi x17, vi x18, vi x19, vi x20, vr bs25, vr bs33, vr b37, vr bf51, vr bf55, vi x58, vi x72, vi x82, vi 1] [(.int 1)]) := fun t k => K133 t (by
    refine Own.ifNo X132 hx (D at_612) ((if0 _ _).trans (feq (by decide : ¬ ((1 : Int32) = (0 : Int32)))).1) ?_
    refine Own.iconst X132 hx 1 (D at_615) rfl ?_
    refine Own.goto X132 hx 620 (D at_616) (by decide) (by decide) ?_
    refine Own.istore X132 hx #[vi p0, vi p1, vi p2, vl q3, .second, vi p4, vi x1, vi x2, vi x3, vi x4, vi x5, vi x9, vi x13, vi x17, vi x18, vi x19, vi x20, vr bs25, vr bs33, vr b37, vr bf51, vr bf55, vi x58, vi x72, vi x82, vi 1] (D at_620) rfl ?_
    refine Own.iload X132 hx (D at_622) rfl ?_
    exact k)
  exact Own.finHN X132 hx (own_hEL hw) e132 D80 (BodyLoose.notSynchronized Bd) Bd.returns (by simp) (D at_624) K134 (by decide) (by decide) ⟨rfl, hn0 ▸ N78⟩

set_option maxRecDepth 65536 in
set_option maxHeartbeats 40000000 in
theorem comes_1 {Post : Tables → Env → Array Value → State → Outcome → State → Prop} (hpost : ∀ tb e args s v u, (limb_1_1.after args s (.returned v) u = true ∧ limb_1_2.after args s (.returned v) u = true ∧ True) → ReturnedEndW s (.returned v) u (Jvm.fieldLocs frame_1_writes args s ++ Jvm.arrayLocs frame_1_arrays args s ++ Jvm.staticLocs frame_1_statics s) 64 2432 → Post tb e args s (.returned v) u) :
    ArmFor flags0 classFile x code maxLocals ret World_1 tables_1 room_1 Calls_1 rest_1 Pre_1 Post := by
  intro l hfl _ _ p e ha hc hk s m args below hf hA hF happ hP
  obtain ⟨hcalls, hrest, hpre⟩ := hP
  obtain ⟨-, -, -, hnamed, -, -, -, hat⟩ := (Spec.applies_iff hf).mp happ
  obtain ⟨hg, hn⟩ := and_e (Cond.before_iff.mp (show (Jvm.Cond.and given_1 narrow_1).before args s = true from hpre))
  obtain ⟨gA0, gB0⟩ := and_e hg
  obtain ⟨gA1, gB1⟩ := and_e gB0
  obtain ⟨gA2, gB2⟩ := and_e gB1
  obtain ⟨gA3, gB3⟩ := and_e gB2
  obtain ⟨gA4, gB4⟩ := and_e gB3
  obtain ⟨w0, w1, w2, w3, w4, rfl⟩ : ∃ w0 w1 w2 w3 w4 : Value, args = #[w0, w1, w2, w3, w4] := by
    have hs : args.size = 5 := by simpa [Cond.value, given_1] using gA0
    obtain ⟨L⟩ := args
    match L, hs with
    | [w0, w1, w2, w3, w4], _ => exact ⟨w0, w1, w2, w3, w4, rfl⟩
  have hw := fun d (hd : d ∈ tables_1) => atoms_spec (ws := Jvm.Cond.code x code maxLocals ret :: tables_1) hat d (List.mem_cons_of_mem _ hd)
  have hfit : Fit s := fun {y c} hc i hi => by
    obtain ⟨ha, rfl⟩ := Array.getElem?_eq_some_iff.mp hc
    have q := List.all_eq_true.mp ((Array.all_eq_true_iff_forall_mem.mp hF) _ (Array.getElem_mem ha)) i (List.mem_range.mpr hi)
    simpa [Array.getElem?_eq_getElem hi] using q
  obtain ⟨hsets, hown0⟩ := atoms_of _ (rest_1_c_eq ▸ (show rest_1_c.before _ s = true from hrest))
  obtain ⟨i0, ei0⟩ := is_v gA1
  obtain rfl : w0 = (.int i0) := Option.some.inj ei0
  obtain ⟨i1, ei1⟩ := is_v gA2
  obtain rfl : w1 = (.int i1) := Option.some.inj ei1
  obtain ⟨i2, ei2⟩ := is_v gA3
  obtain rfl : w2 = (.int i2) := Option.some.inj ei2
  obtain ⟨i3, ei3⟩ := isL_v gA4
  obtain rfl : w3 = (.long i3) := Option.some.inj ei3
  obtain ⟨i4, ei4⟩ := is_v gB4
  obtain rfl : w4 = (.int i4) := Option.some.inj ei4
  obtain ⟨G1, eG1⟩ := is_v (Cond.before_iff.mp (hsets _ (List.mem_of_getElem? (i := 1) rfl)))
  have SC := Sta.start eG1 (Or.inl (hsets _ (List.mem_of_getElem? (i := 0) rfl)))
  have hG1 : ¬ G1 = 0 := gotF (Cond.eq_ints eG1 (Term.int_eval 0)) (not_v (Cond.before_iff.mp (hsets _ (List.mem_of_getElem? (i := 2) rfl))))
  have hN0 := and_e hn
  have hN1 := and_e hN0.2
  have hN2 := and_e hN1.2
  have hN3 := and_e hN2.2
  have hN4 := and_e hN3.2
  have hN5 := and_e hN4.2
  have hN6 := and_e hN5.2
  have hN7 := and_e hN6.2
  have hN8 := and_e hN7.2
  have hN9 := and_e hN8.2
  have hN10 := and_e hN9.2
  have hN11 := and_e hN10.2
  have hN12 := and_e hN11.2
  have hN13 := and_e hN12.2
  have hN14 := and_e hN13.2
  have hN15 := and_e hN14.2
  have hN16 := and_e hN15.2
  have hN17 := and_e hN16.2
  have hN18 := and_e hN17.2
  have hN19 := and_e hN18.2
  have hN20 := and_e hN19.2
  have hN21 := and_e hN20.2
  have hN22 := and_e hN21.2
  obtain ⟨wK, evK⟩ := arr_v hN0.1
  obtain ⟨clK, AK⟩ := Arr.start evK hN0.1
  have hatK : s.arrayAt? wK = some clK := Arr.fin (Vm.Alike.refl _) AK
  have qK := own_lenT evK hatK (own_eqi hN1.1)
  have szK : clK.slots.size = 128 := by
    have q2 := congrArg Int32.toInt qK.2
    rw [show clK.slots.size.toInt32 = Int32.ofNat clK.slots.size from rfl, Int32.toInt_ofNat_small qK.1, show (128 : Int32).toInt = 128 by decide] at q2
    omega
  have SK := Sta.start evK (Or.inr ⟨(W_ hw 41 rfl), (W_ hw 209 rfl)⟩)
  have elK : ∀ i ∈ List.range 26, clK.slots[97 + i]? = some (.int (own_kd (Int32.ofNat (97 + i)))) := by
    intro i hi
    have hi2 := List.mem_range.mp hi
    match i, hi2 with
    | 0, _ => exact (elem_in (own_eqi hN5.1) evK (Term.int_eval 97) AK.1).2
    | 1, _ => exact (elem_in (own_eqi hN6.1) evK (Term.int_eval 98) AK.1).2
    | 2, _ => exact (elem_in (own_eqi hN7.1) evK (Term.int_eval 99) AK.1).2
    | 3, _ => exact (elem_in (own_eqi hN8.1) evK (Term.int_eval 100) AK.1).2
    | 4, _ => exact (elem_in (own_eqi hN9.1) evK (Term.int_eval 101) AK.1).2
    | 5, _ => exact (elem_in (own_eqi hN10.1) evK (Term.int_eval 102) AK.1).2
    | 6, _ => exact (elem_in (own_eqi hN11.1) evK (Term.int_eval 103) AK.1).2
    | 7, _ => exact (elem_in (own_eqi hN12.1) evK (Term.int_eval 104) AK.1).2
    | 8, _ => exact (elem_in (own_eqi hN13.1) evK (Term.int_eval 105) AK.1).2
    | 9, _ => exact own_allz evK (fun _ => evK) hatK AK.1 hN14.1 106 (by rw [szK]; decide) (by decide) (by decide) (by decide)
    | 10, _ => exact own_allz evK (fun _ => evK) hatK AK.1 hN14.1 107 (by rw [szK]; decide) (by decide) (by decide) (by decide)
    | 11, _ => exact own_allz evK (fun _ => evK) hatK AK.1 hN14.1 108 (by rw [szK]; decide) (by decide) (by decide) (by decide)
    | 12, _ => exact own_allz evK (fun _ => evK) hatK AK.1 hN14.1 109 (by rw [szK]; decide) (by decide) (by decide) (by decide)
    | 13, _ => exact own_allz evK (fun _ => evK) hatK AK.1 hN14.1 110 (by rw [szK]; decide) (by decide) (by decide) (by decide)
    | 14, _ => exact (elem_in (own_eqi hN15.1) evK (Term.int_eval 111) AK.1).2
    | 15, _ => exact own_allz evK (fun _ => evK) hatK AK.1 hN16.1 112 (by rw [szK]; decide) (by decide) (by decide) (by decide)
    | 16, _ => exact own_allz evK (fun _ => evK) hatK AK.1 hN16.1 113 (by rw [szK]; decide) (by decide) (by decide) (by decide)
    | 17, _ => exact own_allz evK (fun _ => evK) hatK AK.1 hN16.1 114 (by rw [szK]; decide) (by decide) (by decide) (by decide)
    | 18, _ => exact own_allz evK (fun _ => evK) hatK AK.1 hN16.1 115 (by rw [szK]; decide) (by decide) (by decide) (by decide)
    | 19, _ => exact own_allz evK (fun _ => evK) hatK AK.1 hN16.1 116 (by rw [szK]; decide) (by decide) (by decide) (by decide)
    | 20, _ => exact (elem_in (own_eqi hN17.1) evK (Term.int_eval 117) AK.1).2
    | 21, _ => exact (elem_in (own_eqi hN18.1) evK (Term.int_eval 118) AK.1).2
    | 22, _ => exact (elem_in (own_eqi hN19.1) evK (Term.int_eval 119) AK.1).2
    | 23, _ => exact (elem_in (own_eqi hN20.1) evK (Term.int_eval 120) AK.1).2
    | 24, _ => exact (elem_in (own_eqi hN21.1) evK (Term.int_eval 121) AK.1).2
    | 25, _ => exact (elem_in (own_eqi hN22.1) evK (Term.int_eval 122) AK.1).2
    | n + 26, h => exact absurd h (by omega)
  have KD : own_KD s s.heap wK := ⟨clK, AK, by rw [szK]; rfl, fun c hc => by
    obtain ⟨i, hi, rfl⟩ := own_lets hc
    rw [Own.ofNat_clamp (by omega)]; exact elK i (List.mem_range.mpr hi)⟩
  have hH : CHv s own_EL s.vm s.heap := CHv.start (own_hEL hw) (fun p hp => hcalls.1 p ((by decide : ∀ p ∈ own_EL, p ∈ consts_1) p hp)) (show Jvm.Lit.compactW.before _ s = true from hsets _ (List.mem_of_getElem? (i := 2) rfl)) (W_ hw 22 rfl) (W_ hw 8 rfl)
  obtain ⟨n, o, h1, h2, h3, _, L, rfl, ⟨rfl, N⟩, -, hq⟩ := c0 l s _ hw i0 i1 i2 i3 i4 wK G1 s.heap SK KD SC hG1 tables_1 p e ha hc hk s m _ below hf ((Spec.applies_iff_loose hf).mp happ).1 ⟨rfl, State.Warmed39.refl s, rfl, hH⟩ trivial
  refine ⟨n, _, h1, h2, h3, hpost _ _ _ _ _ _ ⟨Cond.after_iff.mpr rfl, Cond.after_iff.mpr (eq_i res_at (Term.int_eval (1)) rfl), trivial⟩ ⟨hq.1, hq.2.1, hq.2.2.1, (hq.2.2.2.sift fun y hy => Or.inr (N y hy)).mono (by decide) (by decide)⟩⟩
theorem main_1_1 : Claimed_1_1 := comes_1 fun _ _ _ _ _ _ h hF => ⟨h.1, hF⟩
theorem main_1_2 : Claimed_1_2 := comes_1 fun _ _ _ _ _ _ h hF => ⟨h.2.1, hF⟩


end Jvm.Pilot.@@N@@
namespace Jvm.Pilot.@@N@@
open Jvm Jvm.ClassFile Sem Op Lib Jvm.Free Jvm.Stand Jvm.Pilot.@@N@@.Jvm.D
/-! MADE BY PROGRAM (witnessworld.py) out of the Statement's table words and the real class files: 27 classes; the members and pool entries that the words name. The judged class is class 1, her method 1. -/
namespace start1
open Jvm.ClassFile
def u (s : String) : CpInfo := .utf8 (stringToUtf16 s)
/-- a pool by its gaps: so many unusable entries, then the entry; so many at the end -/
def gap : Nat → List CpInfo → List CpInfo
  | 0, r => r
  | n + 1, r => .unusable :: gap n r
def poolList (es : List (Nat × CpInfo)) (last : Nat) : List CpInfo := es.foldr (fun e r => gap e.1 (e.2 :: r)) (gap last [])
def pool (es : List (Nat × CpInfo)) (last : Nat) : Array CpInfo := ⟨poolList es last⟩
def fileOf (pool : Array CpInfo) (this : Nat) (attrs : Array Attribute := #[]) (ms : Array MethodInfo := #[]) (fl : Nat := 33) (sup : Nat := 0) (ifs : Array Nat := #[]) (fds : Array FieldInfo := #[]) : ClassFile where
  minorVersion := 0
  majorVersion := 65
  constantPool := pool
  accessFlags := fl
  thisClass := this
  superClass := sup
  interfaces := ifs
  fields := fds
  methods := ms
  attributes := attrs
def plain (name : String) (sup : Option ClassId) : Class where
  name := name
  kind := .ordinary
  loader := none
  accessFlags := 33
  super := sup
  interfaces := #[]
  cf := none
  fields := #[]
  methods := #[]
  instanceTypes := #[]
  staticTypes := #[]
  resolved := #[]
  callSites := []
  init := .initialized
  statics := none
  mirror := none

def pool0 : Array CpInfo := pool [(5, u "<init>"), (0, u "()V"), (1, .class_ 10), (1, u "java/lang/Object")] 113

def k0c0 : Code := { maxStack := 0, maxLocals := 1, code := object_method_1_code, exceptionTable := #[], attributes := #[] }
def k0m0 : Method := { name := "<init>", desc := "()V", sig := { parameters := [], returnType := none }, accessFlags := 1, code := some k0c0 }
/-- java/lang/Object -/
def k0 : Class := { plain "java/lang/Object" none with
  accessFlags := 33
  interfaces := #[]
  cf := some (fileOf pool0 8 #[] #[{ accessFlags := 1, nameIndex := 5, descriptorIndex := 6, attributes := #[] }] 33 0 #[] #[])
  fields := #[]
  methods := #[k0m0]
  instanceTypes := #[]
  staticTypes := #[]
  resolved := Array.replicate 124 none
  statics := none }

def pool1 : Array CpInfo := pool [(2, .class_ 4), (1, u "java/lang/Object"), (0, u "<init>"), (0, u "()V"), (0, .methodref 8 9), (0, .class_ 10), (0, .nameAndType 11 12), (0, u "com/example/stemshear/stemshear/RuleApplyPinLaw"), (0, u "letter"), (0, u "(II)C"), (0, .methodref 8 14), (0, .nameAndType 15 16), (0, u "str"), (0, u "(ICCC)Ljava/lang/String;"), (0, .class_ 18), (0, u "com/example/stemshear/stemshear/Rule"), (0, .methodref 17 20), (0, .nameAndType 5 21), (0, u "(Ljava/lang/String;Ljava/lang/String;I)V"), (0, .methodref 8 23), (0, .nameAndType 24 25), (0, u "filled"), (0, u "(JI)[C"), (0, .methodref 8 27), (0, .nameAndType 28 29), (0, u "putSuffix"), (0, u "([CIICCC)V"), (0, .methodref 17 31), (0, .nameAndType 32 33), (0, u "apply"), (0, u "([CII)I"), (0, .methodref 8 35), (0, .nameAndType 36 37), (0, u "same"), (0, u "([C[CIIICCC)Z"), (0, .class_ 39), (0, u "java/lang/String"), (0, .methodref 38 41), (0, .nameAndType 5 42), (0, u "([C)V"), (0, .methodref 38 44), (0, .nameAndType 45 46), (0, u "valueOf"), (0, u "(C)Ljava/lang/String;"), (0, .long 255), (3, u "law"), (0, u "(IIIJI)Z")] 5

def k1m0 : Method := { name := "<init>", desc := "()V", sig := { parameters := [], returnType := none }, accessFlags := 1, code := none }
def k1c1 : Code := { maxStack := 8, maxLocals := 26, code := code, exceptionTable := #[], attributes := #[] }
def k1m1 : Method := { name := "law", desc := "(IIIJI)Z", sig := { parameters := [.int, .int, .int, .long, .int], returnType := some .boolean }, accessFlags := 9, code := some k1c1 }
def k1c2 : Code := { maxStack := 3, maxLocals := 2, code := method_3_code, exceptionTable := #[], attributes := #[] }
def k1m2 : Method := { name := "letter", desc := "(II)C", sig := { parameters := [.int, .int], returnType := some .char }, accessFlags := 10, code := some k1c2 }
def k1c3 : Code := { maxStack := 6, maxLocals := 4, code := method_4_code, exceptionTable := #[], attributes := #[] }
def k1m3 : Method := { name := "str", desc := "(ICCC)Ljava/lang/String;", sig := { parameters := [.int, .char, .char, .char], returnType := some (.object "java/lang/String") }, accessFlags := 10, code := some k1c3 }
def k1c4 : Code := { maxStack := 6, maxLocals := 4, code := method_5_code, exceptionTable := #[], attributes := #[] }
def k1m4 : Method := { name := "filled", desc := "(JI)[C", sig := { parameters := [.long, .int], returnType := some (.array .char) }, accessFlags := 10, code := some k1c4 }
def k1c5 : Code := { maxStack := 3, maxLocals := 6, code := method_6_code, exceptionTable := #[], attributes := #[] }
def k1m5 : Method := { name := "putSuffix", desc := "([CIICCC)V", sig := { parameters := [(.array .char), .int, .int, .char, .char, .char], returnType := none }, accessFlags := 10, code := some k1c5 }
def k1c6 : Code := { maxStack := 2, maxLocals := 10, code := method_7_code, exceptionTable := #[], attributes := #[] }
def k1m6 : Method := { name := "same", desc := "([C[CIIICCC)Z", sig := { parameters := [(.array .char), (.array .char), .int, .int, .int, .char, .char, .char], returnType := some .boolean }, accessFlags := 10, code := some k1c6 }
/-- com/example/stemshear/stemshear/RuleApplyPinLaw -/
def k1 : Class := { plain "com/example/stemshear/stemshear/RuleApplyPinLaw" (some 0) with
  accessFlags := 49
  interfaces := #[]
  cf := some (fileOf pool1 8 #[] #[{ accessFlags := 1, nameIndex := 5, descriptorIndex := 6, attributes := #[] }, { accessFlags := 9, nameIndex := 51, descriptorIndex := 52, attributes := #[] }, { accessFlags := 10, nameIndex := 11, descriptorIndex := 12, attributes := #[] }, { accessFlags := 10, nameIndex := 15, descriptorIndex := 16, attributes := #[] }, { accessFlags := 10, nameIndex := 24, descriptorIndex := 25, attributes := #[] }, { accessFlags := 10, nameIndex := 28, descriptorIndex := 29, attributes := #[] }, { accessFlags := 10, nameIndex := 36, descriptorIndex := 37, attributes := #[] }] 49 2 #[] #[])
  fields := #[]
  methods := #[k1m0, k1m1, k1m2, k1m3, k1m4, k1m5, k1m6]
  instanceTypes := #[]
  staticTypes := #[]
  resolved := Array.replicate 58 none
  statics := none }

def pool2 : Array CpInfo := pool [(1, .class_ 2), (0, u "java/io/Serializable"), (0, .class_ 4), (0, u "java/lang/Object")] 2

/-- java/io/Serializable -/
def k2 : Class := { plain "java/io/Serializable" (some 0) with
  accessFlags := 1537
  interfaces := #[]
  cf := some (fileOf pool2 1 #[] #[] 1537 3 #[] #[])
  fields := #[]
  methods := #[]
  instanceTypes := #[]
  staticTypes := #[]
  resolved := Array.replicate 7 none
  statics := none }

def pool3 : Array CpInfo := pool [(1, .class_ 2), (0, u "java/lang/Comparable"), (0, .class_ 4), (0, u "java/lang/Object")] 7

/-- java/lang/Comparable -/
def k3 : Class := { plain "java/lang/Comparable" (some 0) with
  accessFlags := 1537
  interfaces := #[]
  cf := some (fileOf pool3 1 #[] #[] 1537 3 #[] #[])
  fields := #[]
  methods := #[]
  instanceTypes := #[]
  staticTypes := #[]
  resolved := Array.replicate 12 none
  statics := none }

def pool4 : Array CpInfo := pool [(2, .class_ 4), (1, u "java/lang/CharSequence"), (42, .class_ 48), (0, u "java/lang/CharSequence$1CodePointIterator"), (10, .class_ 60), (0, u "java/lang/CharSequence$1CharIterator"), (5, .class_ 67), (0, u "java/lang/Object")] 63

/-- java/lang/CharSequence -/
def k4 : Class := { plain "java/lang/CharSequence" (some 0) with
  accessFlags := 1537
  interfaces := #[]
  cf := some (fileOf pool4 2 #[.nestMembers #[47, 59]] #[] 1537 66 #[] #[])
  fields := #[]
  methods := #[]
  instanceTypes := #[]
  staticTypes := #[]
  resolved := Array.replicate 131 none
  statics := none }

def pool5 : Array CpInfo := pool [(1, .class_ 2), (0, u "java/lang/constant/Constable"), (0, .class_ 4), (0, u "java/lang/Object")] 6

/-- java/lang/constant/Constable -/
def k5 : Class := { plain "java/lang/constant/Constable" (some 0) with
  accessFlags := 1537
  interfaces := #[]
  cf := some (fileOf pool5 1 #[] #[] 1537 3 #[] #[])
  fields := #[]
  methods := #[]
  instanceTypes := #[]
  staticTypes := #[]
  resolved := Array.replicate 11 none
  statics := none }

def pool6 : Array CpInfo := pool [(1, .class_ 2), (0, u "java/lang/constant/ConstantDesc"), (0, .class_ 4), (0, u "java/lang/Object")] 32

/-- java/lang/constant/ConstantDesc -/
def k6 : Class := { plain "java/lang/constant/ConstantDesc" (some 0) with
  accessFlags := 1537
  interfaces := #[]
  cf := some (fileOf pool6 1 #[] #[] 1537 3 #[] #[])
  fields := #[]
  methods := #[]
  instanceTypes := #[]
  staticTypes := #[]
  resolved := Array.replicate 37 none
  statics := none }

def pool7 : Array CpInfo := pool [(1, .methodref 2 3), (0, .class_ 4), (0, .nameAndType 5 6), (0, u "java/lang/Object"), (0, u "<init>"), (0, u "()V"), (0, .string 8), (0, u ""), (0, .fieldref 10 11), (0, .class_ 12), (0, .nameAndType 13 14), (0, u "java/lang/String"), (0, u "value"), (0, u "[B"), (0, .fieldref 10 16), (0, .nameAndType 17 18), (0, u "coder"), (0, u "B"), (2, u "hash"), (0, u "I"), (2, u "hashIsZero"), (0, u "Z"), (0, .methodref 10 28), (0, .nameAndType 5 29), (0, u "([CIILjava/lang/Void;)V"), (8, .fieldref 10 39), (0, .nameAndType 40 26), (0, u "COMPACT_STRINGS"), (1, .class_ 44), (1, u "java/lang/StringUTF16"), (0, u "compress"), (1, .methodref 42 48), (0, .nameAndType 49 50), (0, u "coderFromArrayLen"), (0, u "([BI)B"), (2, u "toBytes"), (0, .methodref 55 56), (0, .class_ 57), (0, .nameAndType 58 59), (0, u "java/util/Arrays"), (0, u "copyOfRange"), (0, u "([BII)[B"), (47, .class_ 109), (1, u "java/lang/StringLatin1"), (32, u "()Z"), (34, .methodref 42 178), (0, .nameAndType 45 179), (0, u "([CII)[B"), (13, .class_ 195), (1, u "java/lang/System"), (13, .methodref 10 210), (0, .nameAndType 5 211), (0, u "([BB)V"), (0, .methodref 193 213), (0, .nameAndType 214 215), (0, u "arraycopy"), (0, u "(Ljava/lang/Object;ILjava/lang/Object;II)V"), (83, .methodref 107 300), (0, .nameAndType 301 302), (0, u "toChars"), (0, u "([B)[C"), (31, u "()I"), (0, .methodref 10 336), (0, .nameAndType 17 337), (0, u "()B"), (2, u "()[B"), (28, u "(C)Z"), (119, .methodref 10 490), (0, .nameAndType 5 491), (0, u "(Ljava/lang/AbstractStringBuilder;Ljava/lang/Void;)V"), (0, .methodref 10 493), (0, .nameAndType 494 142), (0, u "isLatin1"), (11, .nameAndType 507 334), (0, u "length"), (24, u "getBytes"), (16, .methodref 550 506), (0, .class_ 551), (0, u "java/lang/AbstractStringBuilder"), (0, .methodref 550 553), (0, .nameAndType 554 340), (0, u "getValue"), (20, .class_ 576), (0, u "java/lang/CharSequence"), (22, u "CASE_INSENSITIVE_ORDER"), (0, u "Ljava/util/Comparator;"), (181, u "valueOf"), (0, u "(C)Ljava/lang/String;"), (37, u "([BIB)V"), (133, u "toCharArray"), (0, u "()[C"), (53, u "([C)V"), (4, .methodref 107 1016), (0, .nameAndType 1017 369), (0, u "canEncode"), (0, .methodref 107 1019), (0, .nameAndType 53 1020), (0, u "(C)[B"), (26, .methodref 550 493), (53, u "serialPersistentFields"), (0, u "[Ljava/io/ObjectStreamField;"), (0, .class_ 1104), (0, u "java/lang/String$CaseInsensitiveComparator"), (1, .class_ 1107), (0, u "java/io/Serializable"), (0, .class_ 1109), (0, u "java/lang/Comparable"), (0, .class_ 1111), (0, u "java/lang/constant/Constable"), (0, .class_ 1113), (0, u "java/lang/constant/ConstantDesc"), (2, u "serialVersionUID"), (0, u "J"), (3, u "REPL"), (0, u "C"), (2, u "LATIN1"), (1, u "UTF16"), (105, u "(Ljava/lang/StringBuilder;)V")] 217

def k7m0 : Method := { name := "<init>", desc := "()V", sig := { parameters := [], returnType := none }, accessFlags := 1, code := none }
def k7c1 : Code := { maxStack := 5, maxLocals := 2, code := jdk_42_method_3_code, exceptionTable := #[], attributes := #[] }
def k7m1 : Method := { name := "<init>", desc := "([C)V", sig := { parameters := [(.array .char)], returnType := none }, accessFlags := 1, code := some k7c1 }
def k7c2 : Code := { maxStack := 3, maxLocals := 2, code := jdk_42_method_53_code, exceptionTable := #[], attributes := #[] }
def k7m2 : Method := { name := "<init>", desc := "(Ljava/lang/StringBuilder;)V", sig := { parameters := [(.object "java/lang/StringBuilder")], returnType := none }, accessFlags := 1, code := some k7c2 }
def k7c3 : Code := { maxStack := 2, maxLocals := 1, code := jdk_42_method_54_code, exceptionTable := #[], attributes := #[] }
def k7m3 : Method := { name := "length", desc := "()I", sig := { parameters := [], returnType := some .int }, accessFlags := 1, code := some k7c3 }
def k7c4 : Code := { maxStack := 1, maxLocals := 1, code := jdk_42_method_129_code, exceptionTable := #[], attributes := #[] }
def k7m4 : Method := { name := "toCharArray", desc := "()[C", sig := { parameters := [], returnType := some (.array .char) }, accessFlags := 1, code := some k7c4 }
def k7c5 : Code := { maxStack := 4, maxLocals := 1, code := jdk_42_method_139_code, exceptionTable := #[], attributes := #[] }
def k7m5 : Method := { name := "valueOf", desc := "(C)Ljava/lang/String;", sig := { parameters := [.char], returnType := some (.object "java/lang/String") }, accessFlags := 9, code := some k7c5 }
def k7c6 : Code := { maxStack := 5, maxLocals := 4, code := jdk_42_method_147_code, exceptionTable := #[], attributes := #[] }
def k7m6 : Method := { name := "getBytes", desc := "([BIB)V", sig := { parameters := [(.array .byte), .int, .byte], returnType := none }, accessFlags := 0, code := some k7c6 }
def k7c7 : Code := { maxStack := 4, maxLocals := 6, code := jdk_42_method_149_code, exceptionTable := #[], attributes := #[] }
def k7m7 : Method := { name := "<init>", desc := "([CIILjava/lang/Void;)V", sig := { parameters := [(.array .char), .int, .int, (.object "java/lang/Void")], returnType := none }, accessFlags := 2, code := some k7c7 }
def k7c8 : Code := { maxStack := 5, maxLocals := 5, code := jdk_42_method_150_code, exceptionTable := #[], attributes := #[] }
def k7m8 : Method := { name := "<init>", desc := "(Ljava/lang/AbstractStringBuilder;Ljava/lang/Void;)V", sig := { parameters := [(.object "java/lang/AbstractStringBuilder"), (.object "java/lang/Void")], returnType := none }, accessFlags := 0, code := some k7c8 }
def k7c9 : Code := { maxStack := 2, maxLocals := 3, code := jdk_42_method_151_code, exceptionTable := #[], attributes := #[] }
def k7m9 : Method := { name := "<init>", desc := "([BB)V", sig := { parameters := [(.array .byte), .byte], returnType := none }, accessFlags := 0, code := some k7c9 }
def k7c10 : Code := { maxStack := 1, maxLocals := 1, code := jdk_42_method_152_code, exceptionTable := #[], attributes := #[] }
def k7m10 : Method := { name := "coder", desc := "()B", sig := { parameters := [], returnType := some .byte }, accessFlags := 0, code := some k7c10 }
def k7c11 : Code := { maxStack := 1, maxLocals := 1, code := jdk_42_method_154_code, exceptionTable := #[], attributes := #[] }
def k7m11 : Method := { name := "isLatin1", desc := "()Z", sig := { parameters := [], returnType := some .boolean }, accessFlags := 0, code := some k7c11 }
/-- java/lang/String -/
def k7 : Class := { plain "java/lang/String" (some 0) with
  accessFlags := 49
  interfaces := #[2, 3, 4, 5, 6]
  cf := some (fileOf pool7 10 #[.nestMembers #[1103]] #[{ accessFlags := 1, nameIndex := 5, descriptorIndex := 6, attributes := #[] }, { accessFlags := 1, nameIndex := 5, descriptorIndex := 1010, attributes := #[] }, { accessFlags := 1, nameIndex := 5, descriptorIndex := 1233, attributes := #[] }, { accessFlags := 1, nameIndex := 507, descriptorIndex := 334, attributes := #[] }, { accessFlags := 1, nameIndex := 955, descriptorIndex := 956, attributes := #[] }, { accessFlags := 9, nameIndex := 782, descriptorIndex := 783, attributes := #[] }, { accessFlags := 0, nameIndex := 532, descriptorIndex := 821, attributes := #[] }, { accessFlags := 2, nameIndex := 5, descriptorIndex := 29, attributes := #[] }, { accessFlags := 0, nameIndex := 5, descriptorIndex := 491, attributes := #[] }, { accessFlags := 0, nameIndex := 5, descriptorIndex := 211, attributes := #[] }, { accessFlags := 0, nameIndex := 17, descriptorIndex := 337, attributes := #[] }, { accessFlags := 0, nameIndex := 494, descriptorIndex := 142, attributes := #[] }] 49 2 #[1106, 1108, 575, 1110, 1112] #[{ accessFlags := 18, nameIndex := 13, descriptorIndex := 14, attributes := #[] }, { accessFlags := 18, nameIndex := 17, descriptorIndex := 18, attributes := #[] }, { accessFlags := 2, nameIndex := 21, descriptorIndex := 22, attributes := #[] }, { accessFlags := 2, nameIndex := 25, descriptorIndex := 26, attributes := #[] }, { accessFlags := 26, nameIndex := 1116, descriptorIndex := 1117, attributes := #[] }, { accessFlags := 24, nameIndex := 40, descriptorIndex := 26, attributes := #[] }, { accessFlags := 26, nameIndex := 1101, descriptorIndex := 1102, attributes := #[] }, { accessFlags := 26, nameIndex := 1121, descriptorIndex := 1122, attributes := #[] }, { accessFlags := 25, nameIndex := 599, descriptorIndex := 600, attributes := #[] }, { accessFlags := 24, nameIndex := 1125, descriptorIndex := 18, attributes := #[] }, { accessFlags := 24, nameIndex := 1127, descriptorIndex := 18, attributes := #[] }])
  fields := #[{ name := "value", type := (.array .byte), accessFlags := 18, slot := 0, constantValue := 0 }, { name := "coder", type := .byte, accessFlags := 18, slot := 1, constantValue := 0 }, { name := "hash", type := .int, accessFlags := 2, slot := 2, constantValue := 0 }, { name := "hashIsZero", type := .boolean, accessFlags := 2, slot := 3, constantValue := 0 }, { name := "serialVersionUID", type := .long, accessFlags := 26, slot := 0, constantValue := 0 }, { name := "COMPACT_STRINGS", type := .boolean, accessFlags := 24, slot := 1, constantValue := 0 }, { name := "serialPersistentFields", type := (.array (.object "java/io/ObjectStreamField")), accessFlags := 26, slot := 2, constantValue := 0 }, { name := "REPL", type := .char, accessFlags := 26, slot := 3, constantValue := 0 }, { name := "CASE_INSENSITIVE_ORDER", type := (.object "java/util/Comparator"), accessFlags := 25, slot := 4, constantValue := 0 }, { name := "LATIN1", type := .byte, accessFlags := 24, slot := 5, constantValue := 0 }, { name := "UTF16", type := .byte, accessFlags := 24, slot := 6, constantValue := 0 }]
  methods := #[k7m0, k7m1, k7m2, k7m3, k7m4, k7m5, k7m6, k7m7, k7m8, k7m9, k7m10, k7m11]
  instanceTypes := #[(.array .byte), .byte, .int, .boolean]
  staticTypes := #[.long, .boolean, (.array (.object "java/io/ObjectStreamField")), .char, (.object "java/util/Comparator"), .byte, .byte]
  resolved := Array.replicate 1451 none
  statics := some 0 }

def pool8 : Array CpInfo := pool [(1, .class_ 2), (0, u "com/example/stemshear/stemshear/Rule"), (0, .methodref 1 4), (0, .nameAndType 5 6), (0, u "<init>"), (0, u "(Ljava/lang/String;Ljava/lang/String;IILcom/example/stemshear/stemshear/Rule;)V"), (0, .fieldref 1 8), (0, .nameAndType 9 10), (0, u "suffix"), (0, u "Ljava/lang/String;"), (1, .class_ 14), (1, u "java/lang/String"), (2, .fieldref 1 18), (0, .nameAndType 19 20), (0, u "condition"), (0, u "I"), (4, .class_ 26), (0, u "java/lang/Object"), (7, .methodref 25 35), (0, .nameAndType 5 36), (0, u "()V"), (0, .methodref 38 39), (0, .class_ 40), (0, .nameAndType 41 42), (0, u "com/example/stemshear/stemshear/Condition"), (0, u "isCondition"), (0, u "(I)Z"), (0, .class_ 44), (0, u "java/lang/StringBuilder"), (0, .methodref 43 35), (2, .methodref 43 49), (0, .nameAndType 50 51), (0, u "append"), (0, u "(Ljava/lang/String;)Ljava/lang/StringBuilder;"), (3, .methodref 43 56), (0, .nameAndType 57 58), (0, u "toString"), (0, u "()Ljava/lang/String;"), (2, .fieldref 1 62), (0, .nameAndType 63 10), (0, u "replacement"), (0, .fieldref 1 65), (0, .nameAndType 66 20), (0, u "then"), (0, .fieldref 1 68), (0, .nameAndType 69 70), (0, u "otherwise"), (0, u "Lcom/example/stemshear/stemshear/Rule;"), (0, .methodref 12 72), (0, .nameAndType 73 74), (0, u "length"), (0, u "()I"), (0, .fieldref 1 76), (0, .nameAndType 77 20), (0, u "suffixLength"), (0, .methodref 12 79), (0, .nameAndType 80 81), (0, u "toCharArray"), (0, u "()[C"), (0, .fieldref 1 83), (0, .nameAndType 84 85), (0, u "replacementLetters"), (0, u "[C"), (0, .methodref 1 87), (0, .nameAndType 88 89), (0, u "vowelsFollowing"), (0, u "(CLjava/lang/String;)J"), (0, .fieldref 1 91), (0, .nameAndType 92 93), (0, u "replacementVowels"), (0, u "J"), (0, .fieldref 1 95), (0, .nameAndType 96 93), (0, u "replacementVowelsAfterConsonant"), (0, .string 98), (0, u ">"), (0, .fieldref 1 100), (0, .nameAndType 101 10), (0, u "written"), (5, .methodref 43 108), (0, .nameAndType 50 109), (0, u "(C)Ljava/lang/StringBuilder;"), (0, .methodref 38 111), (0, .nameAndType 112 113), (0, u "vowels"), (0, u "([CIIIZ)J"), (52, u "LATER_STEPS"), (2, u "OPENS_NEXT_STEP"), (1, u "ENDS_STEMMING"), (1, u "(Ljava/lang/String;Ljava/lang/String;I)V"), (16, u "apply"), (0, u "([CII)I")] 4

def k8c0 : Code := { maxStack := 6, maxLocals := 4, code := prog_36_method_1_code, exceptionTable := #[], attributes := #[] }
def k8m0 : Method := { name := "<init>", desc := "(Ljava/lang/String;Ljava/lang/String;I)V", sig := { parameters := [(.object "java/lang/String"), (.object "java/lang/String"), .int], returnType := none }, accessFlags := 0, code := some k8c0 }
def k8c1 : Code := { maxStack := 4, maxLocals := 6, code := prog_36_method_4_code, exceptionTable := #[], attributes := #[] }
def k8m1 : Method := { name := "<init>", desc := "(Ljava/lang/String;Ljava/lang/String;IILcom/example/stemshear/stemshear/Rule;)V", sig := { parameters := [(.object "java/lang/String"), (.object "java/lang/String"), .int, .int, (.object "com/example/stemshear/stemshear/Rule")], returnType := none }, accessFlags := 2, code := some k8c1 }
def k8c2 : Code := { maxStack := 5, maxLocals := 5, code := prog_36_method_5_code, exceptionTable := #[], attributes := #[] }
def k8m2 : Method := { name := "vowelsFollowing", desc := "(CLjava/lang/String;)J", sig := { parameters := [.char, (.object "java/lang/String")], returnType := some .long }, accessFlags := 10, code := some k8c2 }
def k8c3 : Code := { maxStack := 3, maxLocals := 9, code := prog_36_method_20_code, exceptionTable := #[], attributes := #[] }
def k8m3 : Method := { name := "apply", desc := "([CII)I", sig := { parameters := [(.array .char), .int, .int], returnType := some .int }, accessFlags := 0, code := some k8c3 }
/-- com/example/stemshear/stemshear/Rule -/
def k8 : Class := { plain "com/example/stemshear/stemshear/Rule" (some 0) with
  accessFlags := 48
  interfaces := #[]
  cf := some (fileOf pool8 1 #[] #[{ accessFlags := 0, nameIndex := 5, descriptorIndex := 173, attributes := #[] }, { accessFlags := 2, nameIndex := 5, descriptorIndex := 6, attributes := #[] }, { accessFlags := 10, nameIndex := 88, descriptorIndex := 89, attributes := #[] }, { accessFlags := 0, nameIndex := 190, descriptorIndex := 191, attributes := #[] }] 48 25 #[] #[{ accessFlags := 24, nameIndex := 166, descriptorIndex := 20, attributes := #[] }, { accessFlags := 24, nameIndex := 169, descriptorIndex := 20, attributes := #[] }, { accessFlags := 24, nameIndex := 171, descriptorIndex := 20, attributes := #[] }, { accessFlags := 18, nameIndex := 9, descriptorIndex := 10, attributes := #[] }, { accessFlags := 18, nameIndex := 63, descriptorIndex := 10, attributes := #[] }, { accessFlags := 18, nameIndex := 19, descriptorIndex := 20, attributes := #[] }, { accessFlags := 18, nameIndex := 66, descriptorIndex := 20, attributes := #[] }, { accessFlags := 18, nameIndex := 69, descriptorIndex := 70, attributes := #[] }, { accessFlags := 18, nameIndex := 77, descriptorIndex := 20, attributes := #[] }, { accessFlags := 18, nameIndex := 84, descriptorIndex := 85, attributes := #[] }, { accessFlags := 18, nameIndex := 92, descriptorIndex := 93, attributes := #[] }, { accessFlags := 18, nameIndex := 96, descriptorIndex := 93, attributes := #[] }, { accessFlags := 18, nameIndex := 101, descriptorIndex := 10, attributes := #[] }])
  fields := #[{ name := "LATER_STEPS", type := .int, accessFlags := 24, slot := 0, constantValue := 0 }, { name := "OPENS_NEXT_STEP", type := .int, accessFlags := 24, slot := 1, constantValue := 0 }, { name := "ENDS_STEMMING", type := .int, accessFlags := 24, slot := 2, constantValue := 0 }, { name := "suffix", type := (.object "java/lang/String"), accessFlags := 18, slot := 0, constantValue := 0 }, { name := "replacement", type := (.object "java/lang/String"), accessFlags := 18, slot := 1, constantValue := 0 }, { name := "condition", type := .int, accessFlags := 18, slot := 2, constantValue := 0 }, { name := "then", type := .int, accessFlags := 18, slot := 3, constantValue := 0 }, { name := "otherwise", type := (.object "com/example/stemshear/stemshear/Rule"), accessFlags := 18, slot := 4, constantValue := 0 }, { name := "suffixLength", type := .int, accessFlags := 18, slot := 5, constantValue := 0 }, { name := "replacementLetters", type := (.array .char), accessFlags := 18, slot := 6, constantValue := 0 }, { name := "replacementVowels", type := .long, accessFlags := 18, slot := 7, constantValue := 0 }, { name := "replacementVowelsAfterConsonant", type := .long, accessFlags := 18, slot := 8, constantValue := 0 }, { name := "written", type := (.object "java/lang/String"), accessFlags := 18, slot := 9, constantValue := 0 }]
  methods := #[k8m0, k8m1, k8m2, k8m3]
  instanceTypes := #[(.object "java/lang/String"), (.object "java/lang/String"), .int, .int, (.object "com/example/stemshear/stemshear/Rule"), .int, (.array .char), .long, .long, (.object "java/lang/String")]
  staticTypes := #[.int, .int, .int]
  resolved := Array.replicate 196 none
  statics := none }

def pool9 : Array CpInfo := pool [(3, .class_ 4), (0, u "com/example/stemshear/stemshear/Condition"), (1, .class_ 8), (1, u "java/lang/Object"), (0, u "<init>"), (0, u "()V"), (32, u "(C)I"), (10, .fieldref 3 55), (0, .nameAndType 56 57), (0, u "KINDS"), (0, u "[B"), (0, .methodref 59 60), (0, .class_ 61), (0, .nameAndType 62 63), (0, u "java/lang/Math"), (0, u "min"), (0, u "(II)I"), (3, u "LAST_LETTERS"), (0, u "[I"), (12, .long 18446744073709551615), (20, u "LETTERS_BEFORE"), (5, u "A_E_OR_O"), (0, u "I"), (9, u "vowels"), (0, u "([CIIIZ)J"), (9, .methodref 3 131), (0, .nameAndType 132 43), (0, u "kind"), (0, .methodref 3 134), (0, .nameAndType 135 136), (0, u "notInWords"), (0, u "(Z)I"), (7, .long 18446744073709551614), (24, u "NONE"), (2, u "MEASURE_ABOVE_0"), (1, u "CONTAINS_VOWEL"), (1, u "MEASURE_1_AND_CVC"), (1, u "MEASURE_ABOVE_1"), (1, u "MEASURE_ABOVE_1_AND_S_OR_T"), (1, u "MEASURE_ABOVE_1_OR_1_AND_NOT_CVC"), (1, u "MEASURE_ABOVE_1_AND_DOUBLE_L"), (1, u "DOUBLE_Y_CONSONANT_LAST"), (1, u "ENDS_OTHER_THAN_A_OR_E"), (1, u "ENDS_OTHER_THAN_A_E_I_OR_O"), (1, u "ENDS_OTHER_THAN_S_OR_U"), (1, u "WHOLE_WORD"), (1, u "TWO_LETTERS_OR_MORE"), (1, u "VOWEL_BEFORE_LAST"), (1, u "CONSONANT_LAST_NOT_FIRST"), (1, u "IN_R1"), (1, u "IN_R2"), (1, u "IN_R1_AFTER_L"), (1, u "IN_R1_AFTER_LI_ENDING"), (1, u "IN_R2_AFTER_S_OR_T"), (1, u "IN_R2_AFTER_L"), (1, u "SHORT_WORD"), (1, u "IN_R2_OR_IN_R1_NOT_AFTER_SHORT_SYLLABLE"), (1, u "NOT_A_E_OR_O_ALONE"), (1, u "LOOKBACK"), (0, u "HELD"), (1, u "MOST_MEASURE"), (0, u "KEPT"), (0, u "LONGEST_STAND_IN"), (0, u "TAIL"), (1, u "NO_OPENING"), (0, u "OPENING_MEASURE"), (0, u "OPENING_VOWEL_LAST"), (0, u "OPENING_LETTERS"), (0, u "VOWEL"), (0, u "Y"), (0, u "NOT_A_TO_Z"), (0, u "APOSTROPHE"), (0, u "EMPTY_STEM"), (0, u "LAST_CONDITION"), (0, u "REGION_CONDITIONS"), (0, u "REGION_BITS"), (0, u "REGION"), (1, u "NO_REGION"), (7, u "isCondition"), (0, u "(I)Z")] 14

def k9m0 : Method := { name := "<init>", desc := "()V", sig := { parameters := [], returnType := none }, accessFlags := 2, code := none }
def k9c1 : Code := { maxStack := 4, maxLocals := 1, code := prog_10_method_7_code, exceptionTable := #[], attributes := #[] }
def k9m1 : Method := { name := "kind", desc := "(C)I", sig := { parameters := [.char], returnType := some .int }, accessFlags := 10, code := some k9c1 }
def k9c2 : Code := { maxStack := 2, maxLocals := 1, code := prog_10_method_8_code, exceptionTable := #[], attributes := #[] }
def k9m2 : Method := { name := "isCondition", desc := "(I)Z", sig := { parameters := [.int], returnType := some .boolean }, accessFlags := 8, code := some k9c2 }
def k9c3 : Code := { maxStack := 8, maxLocals := 14, code := prog_10_method_23_code, exceptionTable := #[], attributes := #[] }
def k9m3 : Method := { name := "vowels", desc := "([CIIIZ)J", sig := { parameters := [(.array .char), .int, .int, .int, .boolean], returnType := some .long }, accessFlags := 8, code := some k9c3 }
def k9c4 : Code := { maxStack := 1, maxLocals := 1, code := prog_10_method_25_code, exceptionTable := #[], attributes := #[] }
def k9m4 : Method := { name := "notInWords", desc := "(Z)I", sig := { parameters := [.boolean], returnType := some .int }, accessFlags := 10, code := some k9c4 }
/-- com/example/stemshear/stemshear/Condition -/
def k9 : Class := { plain "com/example/stemshear/stemshear/Condition" (some 0) with
  accessFlags := 48
  interfaces := #[]
  cf := some (fileOf pool9 3 #[] #[{ accessFlags := 2, nameIndex := 9, descriptorIndex := 10, attributes := #[] }, { accessFlags := 10, nameIndex := 132, descriptorIndex := 43, attributes := #[] }, { accessFlags := 8, nameIndex := 250, descriptorIndex := 251, attributes := #[] }, { accessFlags := 8, nameIndex := 119, descriptorIndex := 120, attributes := #[] }, { accessFlags := 10, nameIndex := 135, descriptorIndex := 136, attributes := #[] }] 48 6 #[] #[{ accessFlags := 24, nameIndex := 169, descriptorIndex := 109, attributes := #[] }, { accessFlags := 24, nameIndex := 172, descriptorIndex := 109, attributes := #[] }, { accessFlags := 24, nameIndex := 174, descriptorIndex := 109, attributes := #[] }, { accessFlags := 24, nameIndex := 176, descriptorIndex := 109, attributes := #[] }, { accessFlags := 24, nameIndex := 178, descriptorIndex := 109, attributes := #[] }, { accessFlags := 24, nameIndex := 180, descriptorIndex := 109, attributes := #[] }, { accessFlags := 24, nameIndex := 182, descriptorIndex := 109, attributes := #[] }, { accessFlags := 24, nameIndex := 184, descriptorIndex := 109, attributes := #[] }, { accessFlags := 24, nameIndex := 186, descriptorIndex := 109, attributes := #[] }, { accessFlags := 24, nameIndex := 188, descriptorIndex := 109, attributes := #[] }, { accessFlags := 24, nameIndex := 190, descriptorIndex := 109, attributes := #[] }, { accessFlags := 24, nameIndex := 192, descriptorIndex := 109, attributes := #[] }, { accessFlags := 24, nameIndex := 194, descriptorIndex := 109, attributes := #[] }, { accessFlags := 24, nameIndex := 196, descriptorIndex := 109, attributes := #[] }, { accessFlags := 24, nameIndex := 198, descriptorIndex := 109, attributes := #[] }, { accessFlags := 24, nameIndex := 200, descriptorIndex := 109, attributes := #[] }, { accessFlags := 24, nameIndex := 202, descriptorIndex := 109, attributes := #[] }, { accessFlags := 24, nameIndex := 204, descriptorIndex := 109, attributes := #[] }, { accessFlags := 24, nameIndex := 206, descriptorIndex := 109, attributes := #[] }, { accessFlags := 24, nameIndex := 208, descriptorIndex := 109, attributes := #[] }, { accessFlags := 24, nameIndex := 210, descriptorIndex := 109, attributes := #[] }, { accessFlags := 24, nameIndex := 212, descriptorIndex := 109, attributes := #[] }, { accessFlags := 24, nameIndex := 214, descriptorIndex := 109, attributes := #[] }, { accessFlags := 24, nameIndex := 216, descriptorIndex := 109, attributes := #[] }, { accessFlags := 24, nameIndex := 218, descriptorIndex := 109, attributes := #[] }, { accessFlags := 24, nameIndex := 220, descriptorIndex := 109, attributes := #[] }, { accessFlags := 24, nameIndex := 221, descriptorIndex := 109, attributes := #[] }, { accessFlags := 24, nameIndex := 223, descriptorIndex := 109, attributes := #[] }, { accessFlags := 24, nameIndex := 224, descriptorIndex := 109, attributes := #[] }, { accessFlags := 24, nameIndex := 225, descriptorIndex := 109, attributes := #[] }, { accessFlags := 24, nameIndex := 226, descriptorIndex := 109, attributes := #[] }, { accessFlags := 24, nameIndex := 228, descriptorIndex := 109, attributes := #[] }, { accessFlags := 26, nameIndex := 229, descriptorIndex := 109, attributes := #[] }, { accessFlags := 26, nameIndex := 230, descriptorIndex := 109, attributes := #[] }, { accessFlags := 26, nameIndex := 231, descriptorIndex := 109, attributes := #[] }, { accessFlags := 26, nameIndex := 232, descriptorIndex := 109, attributes := #[] }, { accessFlags := 26, nameIndex := 233, descriptorIndex := 109, attributes := #[] }, { accessFlags := 26, nameIndex := 234, descriptorIndex := 109, attributes := #[] }, { accessFlags := 26, nameIndex := 235, descriptorIndex := 109, attributes := #[] }, { accessFlags := 26, nameIndex := 56, descriptorIndex := 57, attributes := #[] }, { accessFlags := 26, nameIndex := 236, descriptorIndex := 109, attributes := #[] }, { accessFlags := 26, nameIndex := 237, descriptorIndex := 109, attributes := #[] }, { accessFlags := 26, nameIndex := 67, descriptorIndex := 68, attributes := #[] }, { accessFlags := 26, nameIndex := 238, descriptorIndex := 109, attributes := #[] }, { accessFlags := 26, nameIndex := 102, descriptorIndex := 68, attributes := #[] }, { accessFlags := 26, nameIndex := 108, descriptorIndex := 109, attributes := #[] }, { accessFlags := 26, nameIndex := 239, descriptorIndex := 109, attributes := #[] }, { accessFlags := 26, nameIndex := 240, descriptorIndex := 109, attributes := #[] }, { accessFlags := 26, nameIndex := 242, descriptorIndex := 109, attributes := #[] }])
  fields := #[{ name := "NONE", type := .int, accessFlags := 24, slot := 0, constantValue := 0 }, { name := "MEASURE_ABOVE_0", type := .int, accessFlags := 24, slot := 1, constantValue := 0 }, { name := "CONTAINS_VOWEL", type := .int, accessFlags := 24, slot := 2, constantValue := 0 }, { name := "MEASURE_1_AND_CVC", type := .int, accessFlags := 24, slot := 3, constantValue := 0 }, { name := "MEASURE_ABOVE_1", type := .int, accessFlags := 24, slot := 4, constantValue := 0 }, { name := "MEASURE_ABOVE_1_AND_S_OR_T", type := .int, accessFlags := 24, slot := 5, constantValue := 0 }, { name := "MEASURE_ABOVE_1_OR_1_AND_NOT_CVC", type := .int, accessFlags := 24, slot := 6, constantValue := 0 }, { name := "MEASURE_ABOVE_1_AND_DOUBLE_L", type := .int, accessFlags := 24, slot := 7, constantValue := 0 }, { name := "DOUBLE_Y_CONSONANT_LAST", type := .int, accessFlags := 24, slot := 8, constantValue := 0 }, { name := "ENDS_OTHER_THAN_A_OR_E", type := .int, accessFlags := 24, slot := 9, constantValue := 0 }, { name := "ENDS_OTHER_THAN_A_E_I_OR_O", type := .int, accessFlags := 24, slot := 10, constantValue := 0 }, { name := "ENDS_OTHER_THAN_S_OR_U", type := .int, accessFlags := 24, slot := 11, constantValue := 0 }, { name := "WHOLE_WORD", type := .int, accessFlags := 24, slot := 12, constantValue := 0 }, { name := "TWO_LETTERS_OR_MORE", type := .int, accessFlags := 24, slot := 13, constantValue := 0 }, { name := "VOWEL_BEFORE_LAST", type := .int, accessFlags := 24, slot := 14, constantValue := 0 }, { name := "CONSONANT_LAST_NOT_FIRST", type := .int, accessFlags := 24, slot := 15, constantValue := 0 }, { name := "IN_R1", type := .int, accessFlags := 24, slot := 16, constantValue := 0 }, { name := "IN_R2", type := .int, accessFlags := 24, slot := 17, constantValue := 0 }, { name := "IN_R1_AFTER_L", type := .int, accessFlags := 24, slot := 18, constantValue := 0 }, { name := "IN_R1_AFTER_LI_ENDING", type := .int, accessFlags := 24, slot := 19, constantValue := 0 }, { name := "IN_R2_AFTER_S_OR_T", type := .int, accessFlags := 24, slot := 20, constantValue := 0 }, { name := "IN_R2_AFTER_L", type := .int, accessFlags := 24, slot := 21, constantValue := 0 }, { name := "SHORT_WORD", type := .int, accessFlags := 24, slot := 22, constantValue := 0 }, { name := "IN_R2_OR_IN_R1_NOT_AFTER_SHORT_SYLLABLE", type := .int, accessFlags := 24, slot := 23, constantValue := 0 }, { name := "NOT_A_E_OR_O_ALONE", type := .int, accessFlags := 24, slot := 24, constantValue := 0 }, { name := "LOOKBACK", type := .int, accessFlags := 24, slot := 25, constantValue := 0 }, { name := "HELD", type := .int, accessFlags := 24, slot := 26, constantValue := 0 }, { name := "MOST_MEASURE", type := .int, accessFlags := 24, slot := 27, constantValue := 0 }, { name := "KEPT", type := .int, accessFlags := 24, slot := 28, constantValue := 0 }, { name := "LONGEST_STAND_IN", type := .int, accessFlags := 24, slot := 29, constantValue := 0 }, { name := "TAIL", type := .int, accessFlags := 24, slot := 30, constantValue := 0 }, { name := "NO_OPENING", type := .int, accessFlags := 24, slot := 31, constantValue := 0 }, { name := "OPENING_MEASURE", type := .int, accessFlags := 26, slot := 32, constantValue := 0 }, { name := "OPENING_VOWEL_LAST", type := .int, accessFlags := 26, slot := 33, constantValue := 0 }, { name := "OPENING_LETTERS", type := .int, accessFlags := 26, slot := 34, constantValue := 0 }, { name := "VOWEL", type := .int, accessFlags := 26, slot := 35, constantValue := 0 }, { name := "Y", type := .int, accessFlags := 26, slot := 36, constantValue := 0 }, { name := "NOT_A_TO_Z", type := .int, accessFlags := 26, slot := 37, constantValue := 0 }, { name := "APOSTROPHE", type := .int, accessFlags := 26, slot := 38, constantValue := 0 }, { name := "KINDS", type := (.array .byte), accessFlags := 26, slot := 39, constantValue := 0 }, { name := "EMPTY_STEM", type := .int, accessFlags := 26, slot := 40, constantValue := 0 }, { name := "LAST_CONDITION", type := .int, accessFlags := 26, slot := 41, constantValue := 0 }, { name := "LAST_LETTERS", type := (.array .int), accessFlags := 26, slot := 42, constantValue := 0 }, { name := "REGION_CONDITIONS", type := .int, accessFlags := 26, slot := 43, constantValue := 0 }, { name := "LETTERS_BEFORE", type := (.array .int), accessFlags := 26, slot := 44, constantValue := 0 }, { name := "A_E_OR_O", type := .int, accessFlags := 26, slot := 45, constantValue := 0 }, { name := "REGION_BITS", type := .int, accessFlags := 26, slot := 46, constantValue := 0 }, { name := "REGION", type := .int, accessFlags := 26, slot := 47, constantValue := 0 }, { name := "NO_REGION", type := .int, accessFlags := 26, slot := 48, constantValue := 0 }]
  methods := #[k9m0, k9m1, k9m2, k9m3, k9m4]
  instanceTypes := #[]
  staticTypes := #[.int, .int, .int, .int, .int, .int, .int, .int, .int, .int, .int, .int, .int, .int, .int, .int, .int, .int, .int, .int, .int, .int, .int, .int, .int, .int, .int, .int, .int, .int, .int, .int, .int, .int, .int, .int, .int, .int, .int, (.array .byte), .int, .int, (.array .int), .int, (.array .int), .int, .int, .int, .int]
  resolved := Array.replicate 266 none
  statics := some 1 }

def pool10 : Array CpInfo := pool [(4, .class_ 6), (1, u "java/lang/Object"), (0, u "<init>"), (0, u "()V"), (4, .methodref 14 15), (0, .class_ 16), (0, .nameAndType 17 18), (0, u "java/lang/StringLatin1"), (0, u "inflate"), (0, u "([BI[CII)V"), (71, u "canEncode"), (14, u "(C)Z"), (15, u "$assertionsDisabled"), (0, u "Z"), (69, u "toChars"), (28, .class_ 223), (1, u "java/lang/StringLatin1$LinesSpliterator"), (44, u "([B)[C"), (111, u "toBytes"), (1, u "(C)[B"), (7, .class_ 391), (0, u "java/lang/StringLatin1$CharsSpliterator")] 3

def k10m0 : Method := { name := "<init>", desc := "()V", sig := { parameters := [], returnType := none }, accessFlags := 0, code := none }
def k10c1 : Code := { maxStack := 2, maxLocals := 1, code := jdk_43_method_3_code, exceptionTable := #[], attributes := #[] }
def k10m1 : Method := { name := "canEncode", desc := "(C)Z", sig := { parameters := [.char], returnType := some .boolean }, accessFlags := 9, code := some k10c1 }
def k10c2 : Code := { maxStack := 5, maxLocals := 2, code := jdk_43_method_9_code, exceptionTable := #[], attributes := #[] }
def k10m2 : Method := { name := "toChars", desc := "([B)[C", sig := { parameters := [(.array .byte)], returnType := some (.array .char) }, accessFlags := 9, code := some k10c2 }
def k10c3 : Code := { maxStack := 4, maxLocals := 1, code := jdk_43_method_46_code, exceptionTable := #[], attributes := #[] }
def k10m3 : Method := { name := "toBytes", desc := "(C)[B", sig := { parameters := [.char], returnType := some (.array .byte) }, accessFlags := 9, code := some k10c3 }
def k10c4 : Code := { maxStack := 4, maxLocals := 6, code := jdk_43_method_49_code, exceptionTable := #[], attributes := #[] }
def k10m4 : Method := { name := "inflate", desc := "([BI[CII)V", sig := { parameters := [(.array .byte), .int, (.array .char), .int, .int], returnType := none }, accessFlags := 9, code := some k10c4 }
/-- java/lang/StringLatin1 -/
def k10 : Class := { plain "java/lang/StringLatin1" (some 0) with
  accessFlags := 48
  interfaces := #[]
  cf := some (fileOf pool10 14 #[.nestMembers #[390, 221]] #[{ accessFlags := 0, nameIndex := 7, descriptorIndex := 8, attributes := #[] }, { accessFlags := 9, nameIndex := 90, descriptorIndex := 105, attributes := #[] }, { accessFlags := 9, nameIndex := 192, descriptorIndex := 268, attributes := #[] }, { accessFlags := 9, nameIndex := 380, descriptorIndex := 382, attributes := #[] }, { accessFlags := 9, nameIndex := 17, descriptorIndex := 18, attributes := #[] }] 48 4 #[] #[{ accessFlags := 4120, nameIndex := 121, descriptorIndex := 122, attributes := #[] }])
  fields := #[{ name := "$assertionsDisabled", type := .boolean, accessFlags := 4120, slot := 0, constantValue := 0 }]
  methods := #[k10m0, k10m1, k10m2, k10m3, k10m4]
  instanceTypes := #[]
  staticTypes := #[.boolean]
  resolved := Array.replicate 395 none
  statics := none }

def pool11 : Array CpInfo := pool [(1, .class_ 2), (0, u "java/lang/Appendable"), (0, .class_ 4), (0, u "java/lang/Object")] 9

/-- java/lang/Appendable -/
def k11 : Class := { plain "java/lang/Appendable" (some 0) with
  accessFlags := 1537
  interfaces := #[]
  cf := some (fileOf pool11 1 #[] #[] 1537 3 #[] #[])
  fields := #[]
  methods := #[]
  instanceTypes := #[]
  staticTypes := #[]
  resolved := Array.replicate 14 none
  statics := none }

def pool12 : Array CpInfo := pool [(1, .class_ 2), (0, u "java/lang/String"), (0, .methodref 4 5), (0, .class_ 6), (0, .nameAndType 7 8), (0, u "java/lang/Object"), (0, u "<init>"), (0, u "()V"), (1, .class_ 12), (1, u "java/lang/AbstractStringBuilder"), (0, u "EMPTYVALUE"), (0, u "[B"), (0, .fieldref 10 16), (0, .nameAndType 17 14), (0, u "value"), (0, .fieldref 1 19), (0, .nameAndType 20 21), (0, u "COMPACT_STRINGS"), (0, u "Z"), (0, .fieldref 10 23), (0, .nameAndType 24 25), (0, u "coder"), (0, u "B"), (6, .methodref 1 33), (0, .nameAndType 34 35), (0, u "length"), (0, u "()I"), (4, .methodref 1 41), (0, .nameAndType 24 42), (0, u "()B"), (2, u "append"), (0, u "(Ljava/lang/String;)Ljava/lang/AbstractStringBuilder;"), (1, .class_ 49), (0, u "java/lang/CharSequence"), (19, u "(Ljava/lang/String;)V"), (5, u "maybeLatin1"), (3, .fieldref 10 80), (0, .nameAndType 81 82), (0, u "count"), (0, u "I"), (0, .methodref 10 84), (0, .nameAndType 85 86), (0, u "isLatin1"), (0, u "()Z"), (1, .class_ 90), (1, u "java/lang/StringLatin1"), (9, .methodref 10 101), (0, .nameAndType 102 103), (0, u "ensureCapacityInternal"), (0, u "(I)V"), (87, .methodref 88 192), (0, .nameAndType 193 194), (0, u "canEncode"), (0, u "(C)Z"), (13, .methodref 10 209), (0, .nameAndType 210 211), (0, u "putStringAt"), (0, u "(ILjava/lang/String;)V"), (5, u "inflateIfNeededFor"), (2, .nameAndType 221 222), (0, u "getBytes"), (0, u "([BIB)V"), (69, u "(C)Ljava/lang/AbstractStringBuilder;"), (104, .methodref 10 398), (0, .nameAndType 217 69), (0, .methodref 1 220), (3, u "()[B"), (40, .class_ 445), (0, u "java/lang/Appendable"), (106, u "getValue")] 56

def k12m0 : Method := { name := "<init>", desc := "()V", sig := { parameters := [], returnType := none }, accessFlags := 0, code := none }
def k12c1 : Code := { maxStack := 2, maxLocals := 2, code := jdk_68_method_2_code, exceptionTable := #[], attributes := #[] }
def k12m1 : Method := { name := "<init>", desc := "(I)V", sig := { parameters := [.int], returnType := none }, accessFlags := 0, code := some k12c1 }
def k12c2 : Code := { maxStack := 1, maxLocals := 1, code := jdk_68_method_6_code, exceptionTable := #[], attributes := #[] }
def k12m2 : Method := { name := "length", desc := "()I", sig := { parameters := [], returnType := some .int }, accessFlags := 1, code := some k12c2 }
def k12c3 : Code := { maxStack := 4, maxLocals := 3, code := jdk_68_method_9_code, exceptionTable := #[], attributes := #[] }
def k12m3 : Method := { name := "ensureCapacityInternal", desc := "(I)V", sig := { parameters := [.int], returnType := none }, accessFlags := 2, code := some k12c3 }
def k12c4 : Code := { maxStack := 3, maxLocals := 3, code := jdk_68_method_22_code, exceptionTable := #[], attributes := #[] }
def k12m4 : Method := { name := "append", desc := "(Ljava/lang/String;)Ljava/lang/AbstractStringBuilder;", sig := { parameters := [(.object "java/lang/String")], returnType := some (.object "java/lang/AbstractStringBuilder") }, accessFlags := 1, code := some k12c4 }
def k12c5 : Code := { maxStack := 5, maxLocals := 2, code := jdk_68_method_31_code, exceptionTable := #[], attributes := #[] }
def k12m5 : Method := { name := "append", desc := "(C)Ljava/lang/AbstractStringBuilder;", sig := { parameters := [.char], returnType := some (.object "java/lang/AbstractStringBuilder") }, accessFlags := 1, code := some k12c5 }
def k12c6 : Code := { maxStack := 1, maxLocals := 1, code := jdk_68_method_64_code, exceptionTable := #[], attributes := #[] }
def k12m6 : Method := { name := "getValue", desc := "()[B", sig := { parameters := [], returnType := some (.array .byte) }, accessFlags := 16, code := some k12c6 }
def k12c7 : Code := { maxStack := 1, maxLocals := 1, code := jdk_68_method_68_code, exceptionTable := #[], attributes := #[] }
def k12m7 : Method := { name := "isLatin1", desc := "()Z", sig := { parameters := [], returnType := some .boolean }, accessFlags := 16, code := some k12c7 }
def k12c8 : Code := { maxStack := 2, maxLocals := 2, code := jdk_68_method_71_code, exceptionTable := #[], attributes := #[] }
def k12m8 : Method := { name := "inflateIfNeededFor", desc := "(Ljava/lang/String;)V", sig := { parameters := [(.object "java/lang/String")], returnType := none }, accessFlags := 2, code := some k12c8 }
def k12c9 : Code := { maxStack := 4, maxLocals := 3, code := jdk_68_method_73_code, exceptionTable := #[], attributes := #[] }
def k12m9 : Method := { name := "putStringAt", desc := "(ILjava/lang/String;)V", sig := { parameters := [.int, (.object "java/lang/String")], returnType := none }, accessFlags := 2, code := some k12c9 }
/-- java/lang/AbstractStringBuilder -/
def k12 : Class := { plain "java/lang/AbstractStringBuilder" (some 0) with
  accessFlags := 1056
  interfaces := #[11, 4]
  cf := some (fileOf pool12 10 #[] #[{ accessFlags := 0, nameIndex := 7, descriptorIndex := 8, attributes := #[] }, { accessFlags := 0, nameIndex := 7, descriptorIndex := 103, attributes := #[] }, { accessFlags := 1, nameIndex := 34, descriptorIndex := 35, attributes := #[] }, { accessFlags := 2, nameIndex := 102, descriptorIndex := 103, attributes := #[] }, { accessFlags := 1, nameIndex := 45, descriptorIndex := 46, attributes := #[] }, { accessFlags := 1, nameIndex := 45, descriptorIndex := 292, attributes := #[] }, { accessFlags := 16, nameIndex := 552, descriptorIndex := 403, attributes := #[] }, { accessFlags := 16, nameIndex := 85, descriptorIndex := 86, attributes := #[] }, { accessFlags := 2, nameIndex := 217, descriptorIndex := 69, attributes := #[] }, { accessFlags := 2, nameIndex := 210, descriptorIndex := 211, attributes := #[] }] 1056 4 #[444, 48] #[{ accessFlags := 0, nameIndex := 17, descriptorIndex := 14, attributes := #[] }, { accessFlags := 0, nameIndex := 24, descriptorIndex := 25, attributes := #[] }, { accessFlags := 0, nameIndex := 75, descriptorIndex := 21, attributes := #[] }, { accessFlags := 0, nameIndex := 81, descriptorIndex := 82, attributes := #[] }, { accessFlags := 26, nameIndex := 13, descriptorIndex := 14, attributes := #[] }])
  fields := #[{ name := "value", type := (.array .byte), accessFlags := 0, slot := 0, constantValue := 0 }, { name := "coder", type := .byte, accessFlags := 0, slot := 1, constantValue := 0 }, { name := "maybeLatin1", type := .boolean, accessFlags := 0, slot := 2, constantValue := 0 }, { name := "count", type := .int, accessFlags := 0, slot := 3, constantValue := 0 }, { name := "EMPTYVALUE", type := (.array .byte), accessFlags := 26, slot := 0, constantValue := 0 }]
  methods := #[k12m0, k12m1, k12m2, k12m3, k12m4, k12m5, k12m6, k12m7, k12m8, k12m9]
  instanceTypes := #[(.array .byte), .byte, .boolean, .int]
  staticTypes := #[(.array .byte)]
  resolved := Array.replicate 609 none
  statics := none }

def pool13 : Array CpInfo := pool [(1, .methodref 2 3), (0, .class_ 4), (0, .nameAndType 5 6), (0, u "java/lang/AbstractStringBuilder"), (0, u "<init>"), (0, u "(I)V"), (11, .class_ 20), (1, u "java/lang/String"), (3, .class_ 26), (1, u "java/lang/StringBuilder"), (0, u "append"), (0, u "(Ljava/lang/String;)Ljava/lang/StringBuilder;"), (0, .methodref 2 30), (0, .nameAndType 27 31), (0, u "(Ljava/lang/String;)Ljava/lang/AbstractStringBuilder;"), (18, .methodref 2 51), (0, .nameAndType 27 52), (0, u "(C)Ljava/lang/AbstractStringBuilder;"), (84, .methodref 18 138), (0, .nameAndType 5 139), (0, u "(Ljava/lang/StringBuilder;)V"), (5, u "()V"), (10, u "()I"), (129, u "(C)Ljava/lang/StringBuilder;"), (56, .methodref 2 344), (0, .nameAndType 345 156), (0, u "length"), (3, .class_ 350), (0, u "java/lang/Appendable"), (0, .class_ 352), (0, u "java/io/Serializable"), (0, .class_ 354), (0, u "java/lang/Comparable"), (0, .class_ 356), (0, u "java/lang/CharSequence"), (0, u "serialVersionUID"), (0, u "J"), (40, u "toString"), (0, u "()Ljava/lang/String;")] 21

def k13c0 : Code := { maxStack := 2, maxLocals := 1, code := jdk_67_method_1_code, exceptionTable := #[], attributes := #[] }
def k13m0 : Method := { name := "<init>", desc := "()V", sig := { parameters := [], returnType := none }, accessFlags := 1, code := some k13c0 }
def k13c1 : Code := { maxStack := 2, maxLocals := 2, code := jdk_67_method_7_code, exceptionTable := #[], attributes := #[] }
def k13m1 : Method := { name := "append", desc := "(Ljava/lang/String;)Ljava/lang/StringBuilder;", sig := { parameters := [(.object "java/lang/String")], returnType := some (.object "java/lang/StringBuilder") }, accessFlags := 1, code := some k13c1 }
def k13c2 : Code := { maxStack := 2, maxLocals := 2, code := jdk_67_method_14_code, exceptionTable := #[], attributes := #[] }
def k13m2 : Method := { name := "append", desc := "(C)Ljava/lang/StringBuilder;", sig := { parameters := [.char], returnType := some (.object "java/lang/StringBuilder") }, accessFlags := 1, code := some k13c2 }
def k13c3 : Code := { maxStack := 3, maxLocals := 1, code := jdk_67_method_42_code, exceptionTable := #[], attributes := #[] }
def k13m3 : Method := { name := "toString", desc := "()Ljava/lang/String;", sig := { parameters := [], returnType := some (.object "java/lang/String") }, accessFlags := 1, code := some k13c3 }
def k13c4 : Code := { maxStack := 1, maxLocals := 1, code := jdk_67_method_93_code, exceptionTable := #[], attributes := #[] }
def k13m4 : Method := { name := "length", desc := "()I", sig := { parameters := [], returnType := some .int }, accessFlags := 4161, code := some k13c4 }
/-- java/lang/StringBuilder -/
def k13 : Class := { plain "java/lang/StringBuilder" (some 12) with
  accessFlags := 49
  interfaces := #[11, 2, 3, 4]
  cf := some (fileOf pool13 24 #[] #[{ accessFlags := 1, nameIndex := 5, descriptorIndex := 145, attributes := #[] }, { accessFlags := 1, nameIndex := 27, descriptorIndex := 28, attributes := #[] }, { accessFlags := 1, nameIndex := 27, descriptorIndex := 286, attributes := #[] }, { accessFlags := 1, nameIndex := 399, descriptorIndex := 400, attributes := #[] }, { accessFlags := 4161, nameIndex := 345, descriptorIndex := 156, attributes := #[] }] 49 2 #[349, 351, 353, 355] #[{ accessFlags := 24, nameIndex := 357, descriptorIndex := 358, attributes := #[] }])
  fields := #[{ name := "serialVersionUID", type := .long, accessFlags := 24, slot := 0, constantValue := 0 }]
  methods := #[k13m0, k13m1, k13m2, k13m3, k13m4]
  instanceTypes := #[(.array .byte), .byte, .boolean, .int]
  staticTypes := #[.long]
  resolved := Array.replicate 422 none
  statics := none }

def pool14 : Array CpInfo := pool [(2, .class_ 4), (1, u "java/lang/Object"), (0, u "<init>"), (0, u "()V"), (1, .class_ 10), (1, u "java/lang/System"), (0, u "allowSecurityManager"), (0, u "I"), (16, u "cons"), (0, u "Ljava/io/Console;"), (77, .class_ 110), (1, u "java/lang/System$CallersHolder"), (43, u "initialErrStream"), (0, u "Ljava/io/PrintStream;"), (19, u "security"), (0, u "Ljava/lang/SecurityManager;"), (31, .class_ 209), (0, u "java/lang/System$1"), (7, u "props"), (0, u "Ljava/util/Properties;"), (2, u "lineSeparator"), (0, u "Ljava/lang/String;"), (96, .class_ 321), (1, u "java/lang/System$LoggerFinder"), (5, .class_ 328), (0, u "java/lang/System$Logger"), (67, u "err"), (2, u "out"), (91, u "notSupportedJnuEncoding"), (15, u "in"), (17, u "initialIn"), (0, u "Ljava/io/InputStream;"), (35, u "bootLayer"), (0, u "Ljava/lang/ModuleLayer;"), (99, .class_ 664), (0, u "java/lang/System$2"), (9, u "NEVER"), (2, u "MAYBE"), (49, u "arraycopy"), (0, u "(Ljava/lang/Object;ILjava/lang/Object;II)V"), (72, .class_ 802), (0, u "java/lang/System$Logger$Level")] 31

def k14m0 : Method := { name := "<init>", desc := "()V", sig := { parameters := [], returnType := none }, accessFlags := 2, code := none }
def k14m1 : Method := { name := "arraycopy", desc := "(Ljava/lang/Object;ILjava/lang/Object;II)V", sig := { parameters := [(.object "java/lang/Object"), .int, (.object "java/lang/Object"), .int, .int], returnType := none }, accessFlags := 265, code := none }
/-- java/lang/System -/
def k14 : Class := { plain "java/lang/System" (some 0) with
  accessFlags := 49
  interfaces := #[]
  cf := some (fileOf pool14 8 #[.nestMembers #[319, 327, 801, 108, 663, 208]] #[{ accessFlags := 2, nameIndex := 5, descriptorIndex := 6, attributes := #[] }, { accessFlags := 265, nameIndex := 727, descriptorIndex := 728, attributes := #[] }] 49 2 #[] #[{ accessFlags := 25, nameIndex := 507, descriptorIndex := 526, attributes := #[] }, { accessFlags := 25, nameIndex := 399, descriptorIndex := 155, attributes := #[] }, { accessFlags := 25, nameIndex := 396, descriptorIndex := 155, attributes := #[] }, { accessFlags := 10, nameIndex := 525, descriptorIndex := 526, attributes := #[] }, { accessFlags := 26, nameIndex := 674, descriptorIndex := 12, attributes := #[] }, { accessFlags := 26, nameIndex := 677, descriptorIndex := 12, attributes := #[] }, { accessFlags := 10, nameIndex := 11, descriptorIndex := 12, attributes := #[] }, { accessFlags := 74, nameIndex := 175, descriptorIndex := 176, attributes := #[] }, { accessFlags := 10, nameIndex := 491, descriptorIndex := 222, attributes := #[] }, { accessFlags := 74, nameIndex := 29, descriptorIndex := 30, attributes := #[] }, { accessFlags := 74, nameIndex := 154, descriptorIndex := 155, attributes := #[] }, { accessFlags := 10, nameIndex := 217, descriptorIndex := 218, attributes := #[] }, { accessFlags := 10, nameIndex := 221, descriptorIndex := 222, attributes := #[] }, { accessFlags := 8, nameIndex := 562, descriptorIndex := 563, attributes := #[] }])
  fields := #[{ name := "in", type := (.object "java/io/InputStream"), accessFlags := 25, slot := 0, constantValue := 0 }, { name := "out", type := (.object "java/io/PrintStream"), accessFlags := 25, slot := 1, constantValue := 0 }, { name := "err", type := (.object "java/io/PrintStream"), accessFlags := 25, slot := 2, constantValue := 0 }, { name := "initialIn", type := (.object "java/io/InputStream"), accessFlags := 10, slot := 3, constantValue := 0 }, { name := "NEVER", type := .int, accessFlags := 26, slot := 4, constantValue := 0 }, { name := "MAYBE", type := .int, accessFlags := 26, slot := 5, constantValue := 0 }, { name := "allowSecurityManager", type := .int, accessFlags := 10, slot := 6, constantValue := 0 }, { name := "security", type := (.object "java/lang/SecurityManager"), accessFlags := 74, slot := 7, constantValue := 0 }, { name := "notSupportedJnuEncoding", type := (.object "java/lang/String"), accessFlags := 10, slot := 8, constantValue := 0 }, { name := "cons", type := (.object "java/io/Console"), accessFlags := 74, slot := 9, constantValue := 0 }, { name := "initialErrStream", type := (.object "java/io/PrintStream"), accessFlags := 74, slot := 10, constantValue := 0 }, { name := "props", type := (.object "java/util/Properties"), accessFlags := 10, slot := 11, constantValue := 0 }, { name := "lineSeparator", type := (.object "java/lang/String"), accessFlags := 10, slot := 12, constantValue := 0 }, { name := "bootLayer", type := (.object "java/lang/ModuleLayer"), accessFlags := 8, slot := 13, constantValue := 0 }]
  methods := #[k14m0, k14m1]
  instanceTypes := #[]
  staticTypes := #[(.object "java/io/InputStream"), (.object "java/io/PrintStream"), (.object "java/io/PrintStream"), (.object "java/io/InputStream"), .int, .int, .int, (.object "java/lang/SecurityManager"), (.object "java/lang/String"), (.object "java/io/Console"), (.object "java/io/PrintStream"), (.object "java/util/Properties"), (.object "java/lang/String"), (.object "java/lang/ModuleLayer")]
  resolved := Array.replicate 834 none
  statics := none }

def pool15 : Array CpInfo := pool [(2, .class_ 4), (1, u "java/lang/Object"), (0, u "<init>"), (0, u "()V"), (7, .class_ 16), (1, u "java/util/Arrays"), (57, .class_ 76), (1, u "java/util/Arrays$NaturalOrder"), (36, .class_ 115), (1, u "java/util/Arrays$LegacyMergeSort"), (1, u "Z"), (21, u "copyOfRange"), (10, .methodref 151 152), (0, .class_ 153), (0, .nameAndType 154 155), (0, u "java/lang/System"), (0, u "arraycopy"), (0, u "(Ljava/lang/Object;ILjava/lang/Object;II)V"), (148, .methodref 305 306), (0, .class_ 307), (0, .nameAndType 308 309), (0, u "java/lang/Math"), (0, u "min"), (0, u "(II)I"), (29, .methodref 14 340), (0, .nameAndType 341 342), (0, u "copyOfRangeByte"), (0, u "([BII)[B"), (0, .methodref 14 344), (0, .nameAndType 345 346), (0, u "checkLength"), (0, u "(II)V"), (28, .class_ 376), (0, u "java/util/Arrays$ArrayList"), (68, u "$assertionsDisabled"), (269, u "MIN_ARRAY_SORT_GRAN"), (0, u "I"), (2, u "INSERTIONSORT_THRESHOLD"), (255, .class_ 976), (0, u "java/util/Arrays$ArrayItr")] 52

def k15m0 : Method := { name := "<init>", desc := "()V", sig := { parameters := [], returnType := none }, accessFlags := 2, code := none }
def k15c1 : Code := { maxStack := 4, maxLocals := 2, code := jdk_65_method_131_code, exceptionTable := #[], attributes := #[] }
def k15m1 : Method := { name := "checkLength", desc := "(II)V", sig := { parameters := [.int, .int], returnType := none }, accessFlags := 10, code := some k15c1 }
def k15c2 : Code := { maxStack := 3, maxLocals := 3, code := jdk_65_method_132_code, exceptionTable := #[], attributes := #[] }
def k15m2 : Method := { name := "copyOfRange", desc := "([BII)[B", sig := { parameters := [(.array .byte), .int, .int], returnType := some (.array .byte) }, accessFlags := 9, code := some k15c2 }
def k15c3 : Code := { maxStack := 6, maxLocals := 5, code := jdk_65_method_133_code, exceptionTable := #[], attributes := #[] }
def k15m3 : Method := { name := "copyOfRangeByte", desc := "([BII)[B", sig := { parameters := [(.array .byte), .int, .int], returnType := some (.array .byte) }, accessFlags := 10, code := some k15c3 }
/-- java/util/Arrays -/
def k15 : Class := { plain "java/util/Arrays" (some 0) with
  accessFlags := 49
  interfaces := #[]
  cf := some (fileOf pool15 14 #[.nestMembers #[975, 375, 113, 74]] #[{ accessFlags := 2, nameIndex := 5, descriptorIndex := 6, attributes := #[] }, { accessFlags := 10, nameIndex := 345, descriptorIndex := 346, attributes := #[] }, { accessFlags := 9, nameIndex := 139, descriptorIndex := 342, attributes := #[] }, { accessFlags := 10, nameIndex := 341, descriptorIndex := 342, attributes := #[] }] 49 2 #[] #[{ accessFlags := 26, nameIndex := 715, descriptorIndex := 716, attributes := #[] }, { accessFlags := 26, nameIndex := 719, descriptorIndex := 716, attributes := #[] }, { accessFlags := 4120, nameIndex := 445, descriptorIndex := 117, attributes := #[] }])
  fields := #[{ name := "MIN_ARRAY_SORT_GRAN", type := .int, accessFlags := 26, slot := 0, constantValue := 0 }, { name := "INSERTIONSORT_THRESHOLD", type := .int, accessFlags := 26, slot := 1, constantValue := 0 }, { name := "$assertionsDisabled", type := .boolean, accessFlags := 4120, slot := 2, constantValue := 0 }]
  methods := #[k15m0, k15m1, k15m2, k15m3]
  instanceTypes := #[]
  staticTypes := #[.int, .int, .boolean]
  resolved := Array.replicate 1029 none
  statics := none }

def pool16 : Array CpInfo := pool [(1, .class_ 2), (0, u "java/lang/Math"), (1, .class_ 6), (1, u "java/lang/Object"), (0, u "<init>"), (0, u "()V"), (89, .class_ 100), (1, u "java/lang/Math$RandomNumberGeneratorHolder"), (71, u "negativeZeroFloatBits"), (0, u "J"), (2, u "negativeZeroDoubleBits"), (24, u "min"), (43, u "$assertionsDisabled"), (0, u "Z"), (88, u "(II)I"), (2, u "twoToTheDoubleScaleDown"), (0, u "D"), (4, u "twoToTheDoubleScaleUp"), (9, u "E"), (3, u "PI"), (2, u "TAU"), (2, u "DEGREES_TO_RADIANS"), (0, u "RADIANS_TO_DEGREES")] 94

def k16m0 : Method := { name := "<init>", desc := "()V", sig := { parameters := [], returnType := none }, accessFlags := 2, code := none }
def k16c1 : Code := { maxStack := 2, maxLocals := 2, code := jdk_29_method_69_code, exceptionTable := #[], attributes := #[] }
def k16m1 : Method := { name := "min", desc := "(II)I", sig := { parameters := [.int, .int], returnType := some .int }, accessFlags := 9, code := some k16c1 }
/-- java/lang/Math -/
def k16 : Class := { plain "java/lang/Math" (some 0) with
  accessFlags := 49
  interfaces := #[]
  cf := some (fileOf pool16 1 #[.nestMembers #[98]] #[{ accessFlags := 2, nameIndex := 7, descriptorIndex := 8, attributes := #[] }, { accessFlags := 9, nameIndex := 201, descriptorIndex := 335, attributes := #[] }] 49 4 #[] #[{ accessFlags := 25, nameIndex := 354, descriptorIndex := 339, attributes := #[] }, { accessFlags := 25, nameIndex := 358, descriptorIndex := 339, attributes := #[] }, { accessFlags := 25, nameIndex := 361, descriptorIndex := 339, attributes := #[] }, { accessFlags := 26, nameIndex := 364, descriptorIndex := 339, attributes := #[] }, { accessFlags := 26, nameIndex := 365, descriptorIndex := 339, attributes := #[] }, { accessFlags := 26, nameIndex := 172, descriptorIndex := 173, attributes := #[] }, { accessFlags := 26, nameIndex := 176, descriptorIndex := 173, attributes := #[] }, { accessFlags := 8, nameIndex := 344, descriptorIndex := 339, attributes := #[] }, { accessFlags := 8, nameIndex := 338, descriptorIndex := 339, attributes := #[] }, { accessFlags := 4120, nameIndex := 245, descriptorIndex := 246, attributes := #[] }])
  fields := #[{ name := "E", type := .double, accessFlags := 25, slot := 0, constantValue := 0 }, { name := "PI", type := .double, accessFlags := 25, slot := 1, constantValue := 0 }, { name := "TAU", type := .double, accessFlags := 25, slot := 2, constantValue := 0 }, { name := "DEGREES_TO_RADIANS", type := .double, accessFlags := 26, slot := 3, constantValue := 0 }, { name := "RADIANS_TO_DEGREES", type := .double, accessFlags := 26, slot := 4, constantValue := 0 }, { name := "negativeZeroFloatBits", type := .long, accessFlags := 26, slot := 5, constantValue := 0 }, { name := "negativeZeroDoubleBits", type := .long, accessFlags := 26, slot := 6, constantValue := 0 }, { name := "twoToTheDoubleScaleUp", type := .double, accessFlags := 8, slot := 7, constantValue := 0 }, { name := "twoToTheDoubleScaleDown", type := .double, accessFlags := 8, slot := 8, constantValue := 0 }, { name := "$assertionsDisabled", type := .boolean, accessFlags := 4120, slot := 9, constantValue := 0 }]
  methods := #[k16m0, k16m1]
  instanceTypes := #[]
  staticTypes := #[.double, .double, .double, .double, .double, .long, .long, .double, .double, .boolean]
  resolved := Array.replicate 460 none
  statics := none }

def pool17 : Array CpInfo := pool [(6, .class_ 8), (1, u "java/lang/Object"), (0, u "<init>"), (0, u "()V"), (1, .class_ 14), (1, u "java/lang/StringUTF16"), (31, u "$assertionsDisabled"), (0, u "Z"), (13, u "HI_BYTE_SHIFT"), (0, u "I"), (2, u "LO_BYTE_SHIFT"), (49, .methodref 12 116), (0, .nameAndType 117 118), (0, u "compress"), (0, u "([CI[BII)I"), (3, u "([CII)[B"), (138, u "coderFromArrayLen"), (0, u "([BI)B"), (106, .class_ 371), (1, u "java/lang/StringUTF16$LinesSpliterator"), (58, u "MAX_LENGTH"), (196, .class_ 628), (0, u "java/lang/StringUTF16$CodePointsSpliterator"), (0, .class_ 630), (0, u "java/lang/StringUTF16$CharsSpliterator")] 4

def k17m0 : Method := { name := "<init>", desc := "()V", sig := { parameters := [], returnType := none }, accessFlags := 0, code := none }
def k17c1 : Code := { maxStack := 2, maxLocals := 2, code := jdk_52_method_15_code, exceptionTable := #[], attributes := #[] }
def k17m1 : Method := { name := "coderFromArrayLen", desc := "([BI)B", sig := { parameters := [(.array .byte), .int], returnType := some .byte }, accessFlags := 8, code := some k17c1 }
def k17c2 : Code := { maxStack := 5, maxLocals := 6, code := jdk_52_method_16_code, exceptionTable := #[], attributes := #[] }
def k17m2 : Method := { name := "compress", desc := "([CII)[B", sig := { parameters := [(.array .char), .int, .int], returnType := some (.array .byte) }, accessFlags := 9, code := some k17c2 }
def k17c3 : Code := { maxStack := 3, maxLocals := 7, code := jdk_52_method_21_code, exceptionTable := #[], attributes := #[] }
def k17m3 : Method := { name := "compress", desc := "([CI[BII)I", sig := { parameters := [(.array .char), .int, (.array .byte), .int, .int], returnType := some .int }, accessFlags := 9, code := some k17c3 }
/-- java/lang/StringUTF16 -/
def k17 : Class := { plain "java/lang/StringUTF16" (some 0) with
  accessFlags := 48
  interfaces := #[]
  cf := some (fileOf pool17 12 #[.nestMembers #[627, 629, 369]] #[{ accessFlags := 0, nameIndex := 9, descriptorIndex := 10, attributes := #[] }, { accessFlags := 8, nameIndex := 261, descriptorIndex := 262, attributes := #[] }, { accessFlags := 9, nameIndex := 117, descriptorIndex := 122, attributes := #[] }, { accessFlags := 9, nameIndex := 117, descriptorIndex := 118, attributes := #[] }] 48 6 #[] #[{ accessFlags := 26, nameIndex := 61, descriptorIndex := 62, attributes := #[] }, { accessFlags := 26, nameIndex := 65, descriptorIndex := 62, attributes := #[] }, { accessFlags := 24, nameIndex := 430, descriptorIndex := 62, attributes := #[] }, { accessFlags := 4120, nameIndex := 46, descriptorIndex := 47, attributes := #[] }])
  fields := #[{ name := "HI_BYTE_SHIFT", type := .int, accessFlags := 26, slot := 0, constantValue := 0 }, { name := "LO_BYTE_SHIFT", type := .int, accessFlags := 26, slot := 1, constantValue := 0 }, { name := "MAX_LENGTH", type := .int, accessFlags := 24, slot := 2, constantValue := 0 }, { name := "$assertionsDisabled", type := .boolean, accessFlags := 4120, slot := 3, constantValue := 0 }]
  methods := #[k17m0, k17m1, k17m2, k17m3]
  instanceTypes := #[]
  staticTypes := #[.int, .int, .int, .boolean]
  resolved := Array.replicate 635 none
  statics := none }

def pool18 : Array CpInfo := pool [(2, .class_ 4), (1, u "java/lang/Object"), (0, u "<init>"), (0, u "()V"), (17, .class_ 26), (1, u "jdk/internal/util/Preconditions"), (28, .class_ 56), (0, u "jdk/internal/util/Preconditions$4"), (57, .class_ 115), (0, u "jdk/internal/util/Preconditions$1"), (7, u "SIOOBE_FORMATTER"), (0, u "Ljava/util/function/BiFunction;"), (0, .class_ 126), (0, u "jdk/internal/util/Preconditions$2"), (3, u "AIOOBE_FORMATTER"), (0, .class_ 132), (0, u "jdk/internal/util/Preconditions$3"), (3, u "IOOBE_FORMATTER")] 57

def k18m0 : Method := { name := "<init>", desc := "()V", sig := { parameters := [], returnType := none }, accessFlags := 1, code := none }
/-- jdk/internal/util/Preconditions -/
def k18 : Class := { plain "jdk/internal/util/Preconditions" (some 0) with
  accessFlags := 33
  interfaces := #[]
  cf := some (fileOf pool18 24 #[.nestMembers #[55, 131, 125, 114]] #[{ accessFlags := 1, nameIndex := 5, descriptorIndex := 6, attributes := #[] }] 33 2 #[] #[{ accessFlags := 25, nameIndex := 123, descriptorIndex := 124, attributes := #[] }, { accessFlags := 25, nameIndex := 130, descriptorIndex := 124, attributes := #[] }, { accessFlags := 25, nameIndex := 136, descriptorIndex := 124, attributes := #[] }])
  fields := #[{ name := "SIOOBE_FORMATTER", type := (.object "java/util/function/BiFunction"), accessFlags := 25, slot := 0, constantValue := 0 }, { name := "AIOOBE_FORMATTER", type := (.object "java/util/function/BiFunction"), accessFlags := 25, slot := 1, constantValue := 0 }, { name := "IOOBE_FORMATTER", type := (.object "java/util/function/BiFunction"), accessFlags := 25, slot := 2, constantValue := 0 }]
  methods := #[k18m0]
  instanceTypes := #[]
  staticTypes := #[(.object "java/util/function/BiFunction"), (.object "java/util/function/BiFunction"), (.object "java/util/function/BiFunction")]
  resolved := Array.replicate 194 none
  statics := some 2 }

def pool19 : Array CpInfo := pool [(9, u "<init>"), (6, .class_ 18), (1, u "java/lang/Object"), (0, u "()V"), (1, .class_ 23), (1, u "jdk/internal/util/ArraysSupport"), (0, u "LOG2_ARRAY_LONG_INDEX_SCALE"), (0, u "I"), (2, u "U"), (0, u "Ljdk/internal/misc/Unsafe;"), (8, u "BIG_ENDIAN"), (0, u "Z"), (8, u "LOG2_BYTE_BIT_SIZE"), (4, u "LOG2_ARRAY_INT_INDEX_SCALE"), (54, u "JLA"), (0, u "Ljdk/internal/access/JavaLangAccess;"), (11, u "LOG2_ARRAY_BOOLEAN_INDEX_SCALE"), (9, u "LOG2_ARRAY_BYTE_INDEX_SCALE"), (5, u "LOG2_ARRAY_CHAR_INDEX_SCALE"), (5, u "LOG2_ARRAY_SHORT_INDEX_SCALE"), (18, u "LOG2_ARRAY_FLOAT_INDEX_SCALE"), (24, u "LOG2_ARRAY_DOUBLE_INDEX_SCALE"), (89, u "T_BOOLEAN"), (2, u "T_CHAR"), (1, u "T_FLOAT"), (1, u "T_DOUBLE"), (1, u "T_BYTE"), (1, u "T_SHORT"), (1, u "T_INT"), (1, u "T_LONG"), (1, u "SOFT_MAX_ARRAY_LENGTH")] 83

def k19m0 : Method := { name := "<init>", desc := "()V", sig := { parameters := [], returnType := none }, accessFlags := 2, code := none }
/-- jdk/internal/util/ArraysSupport -/
def k19 : Class := { plain "jdk/internal/util/ArraysSupport" (some 0) with
  accessFlags := 33
  interfaces := #[]
  cf := some (fileOf pool19 21 #[] #[{ accessFlags := 2, nameIndex := 9, descriptorIndex := 19, attributes := #[] }] 33 16 #[] #[{ accessFlags := 24, nameIndex := 28, descriptorIndex := 29, attributes := #[] }, { accessFlags := 26, nameIndex := 38, descriptorIndex := 39, attributes := #[] }, { accessFlags := 25, nameIndex := 121, descriptorIndex := 25, attributes := #[] }, { accessFlags := 25, nameIndex := 131, descriptorIndex := 25, attributes := #[] }, { accessFlags := 25, nameIndex := 137, descriptorIndex := 25, attributes := #[] }, { accessFlags := 25, nameIndex := 143, descriptorIndex := 25, attributes := #[] }, { accessFlags := 25, nameIndex := 53, descriptorIndex := 25, attributes := #[] }, { accessFlags := 25, nameIndex := 24, descriptorIndex := 25, attributes := #[] }, { accessFlags := 25, nameIndex := 162, descriptorIndex := 25, attributes := #[] }, { accessFlags := 25, nameIndex := 187, descriptorIndex := 25, attributes := #[] }, { accessFlags := 26, nameIndex := 48, descriptorIndex := 25, attributes := #[] }, { accessFlags := 25, nameIndex := 277, descriptorIndex := 25, attributes := #[] }, { accessFlags := 25, nameIndex := 280, descriptorIndex := 25, attributes := #[] }, { accessFlags := 25, nameIndex := 282, descriptorIndex := 25, attributes := #[] }, { accessFlags := 25, nameIndex := 284, descriptorIndex := 25, attributes := #[] }, { accessFlags := 25, nameIndex := 286, descriptorIndex := 25, attributes := #[] }, { accessFlags := 25, nameIndex := 288, descriptorIndex := 25, attributes := #[] }, { accessFlags := 25, nameIndex := 290, descriptorIndex := 25, attributes := #[] }, { accessFlags := 25, nameIndex := 292, descriptorIndex := 25, attributes := #[] }, { accessFlags := 26, nameIndex := 108, descriptorIndex := 109, attributes := #[] }, { accessFlags := 25, nameIndex := 294, descriptorIndex := 25, attributes := #[] }])
  fields := #[{ name := "U", type := (.object "jdk/internal/misc/Unsafe"), accessFlags := 24, slot := 0, constantValue := 0 }, { name := "BIG_ENDIAN", type := .boolean, accessFlags := 26, slot := 1, constantValue := 0 }, { name := "LOG2_ARRAY_BOOLEAN_INDEX_SCALE", type := .int, accessFlags := 25, slot := 2, constantValue := 0 }, { name := "LOG2_ARRAY_BYTE_INDEX_SCALE", type := .int, accessFlags := 25, slot := 3, constantValue := 0 }, { name := "LOG2_ARRAY_CHAR_INDEX_SCALE", type := .int, accessFlags := 25, slot := 4, constantValue := 0 }, { name := "LOG2_ARRAY_SHORT_INDEX_SCALE", type := .int, accessFlags := 25, slot := 5, constantValue := 0 }, { name := "LOG2_ARRAY_INT_INDEX_SCALE", type := .int, accessFlags := 25, slot := 6, constantValue := 0 }, { name := "LOG2_ARRAY_LONG_INDEX_SCALE", type := .int, accessFlags := 25, slot := 7, constantValue := 0 }, { name := "LOG2_ARRAY_FLOAT_INDEX_SCALE", type := .int, accessFlags := 25, slot := 8, constantValue := 0 }, { name := "LOG2_ARRAY_DOUBLE_INDEX_SCALE", type := .int, accessFlags := 25, slot := 9, constantValue := 0 }, { name := "LOG2_BYTE_BIT_SIZE", type := .int, accessFlags := 26, slot := 10, constantValue := 0 }, { name := "T_BOOLEAN", type := .int, accessFlags := 25, slot := 11, constantValue := 0 }, { name := "T_CHAR", type := .int, accessFlags := 25, slot := 12, constantValue := 0 }, { name := "T_FLOAT", type := .int, accessFlags := 25, slot := 13, constantValue := 0 }, { name := "T_DOUBLE", type := .int, accessFlags := 25, slot := 14, constantValue := 0 }, { name := "T_BYTE", type := .int, accessFlags := 25, slot := 15, constantValue := 0 }, { name := "T_SHORT", type := .int, accessFlags := 25, slot := 16, constantValue := 0 }, { name := "T_INT", type := .int, accessFlags := 25, slot := 17, constantValue := 0 }, { name := "T_LONG", type := .int, accessFlags := 25, slot := 18, constantValue := 0 }, { name := "JLA", type := (.object "jdk/internal/access/JavaLangAccess"), accessFlags := 26, slot := 19, constantValue := 0 }, { name := "SOFT_MAX_ARRAY_LENGTH", type := .int, accessFlags := 25, slot := 20, constantValue := 0 }]
  methods := #[k19m0]
  instanceTypes := #[]
  staticTypes := #[(.object "jdk/internal/misc/Unsafe"), .boolean, .int, .int, .int, .int, .int, .int, .int, .int, .int, .int, .int, .int, .int, .int, .int, .int, .int, (.object "jdk/internal/access/JavaLangAccess"), .int]
  resolved := Array.replicate 378 none
  statics := none }

def pool20 : Array CpInfo := pool [(1, u "java/lang/Cloneable"), (0, .class_ 1), (0, u "java/lang/Object"), (0, .class_ 3)] 3

/-- java/lang/Cloneable -/
def k20 : Class := { plain "java/lang/Cloneable" (some 0) with
  accessFlags := 1537
  interfaces := #[]
  cf := some (fileOf pool20 2 #[] #[] 1537 4 #[] #[])
  fields := #[]
  methods := #[]
  instanceTypes := #[]
  staticTypes := #[]
  resolved := Array.replicate 8 none
  statics := none }

/-- the primitive byte -/
def k21 : Class := { plain "byte" none with kind := .primitive 'B', accessFlags := 0x411 }
/-- [B -/
def k22 : Class := { plain "[B" (some 0) with kind := .array 21 .byte, interfaces := #[20, 2], accessFlags := 1041 }

/-- the primitive char -/
def k23 : Class := { plain "char" none with kind := .primitive 'C', accessFlags := 0x411 }
/-- [C -/
def k24 : Class := { plain "[C" (some 0) with kind := .array 23 .char, interfaces := #[20, 2], accessFlags := 1041 }

/-- the primitive int -/
def k25 : Class := { plain "int" none with kind := .primitive 'I', accessFlags := 0x411 }
/-- [I -/
def k26 : Class := { plain "[I" (some 0) with kind := .array 25 .int, interfaces := #[20, 2], accessFlags := 1041 }

def heap : Heap := #[{ cls := 7, slots := #[.long 0, .int 1, .null, .int 0, .null, .int 0, .int 0], vm := .statics 7 },
  { cls := 9, slots := #[.int 0, .int 0, .int 0, .int 0, .int 0, .int 0, .int 0, .int 0, .int 0, .int 0, .int 0, .int 0, .int 0, .int 0, .int 0, .int 0, .int 0, .int 0, .int 0, .int 0, .int 0, .int 0, .int 0, .int 0, .int 0, .int 0, .int 0, .int 0, .int 0, .int 0, .int 0, .int 0, .int 0, .int 0, .int 0, .int 0, .int 0, .int 0, .int 0, .ref 3, .int 0, .int 0, .null, .int 0, .null, .int 0, .int 0, .int 0, .int 0], vm := .statics 9 },
  { cls := 18, slots := #[.null, .null, .null], vm := .statics 18 },
  { cls := 22, slots := #[.int 4, .int 4, .int 4, .int 4, .int 4, .int 4, .int 4, .int 4, .int 4, .int 4, .int 4, .int 4, .int 4, .int 4, .int 4, .int 4, .int 4, .int 4, .int 4, .int 4, .int 4, .int 4, .int 4, .int 4, .int 4, .int 4, .int 4, .int 8, .int 4, .int 4, .int 4, .int 4, .int 4, .int 4, .int 4, .int 4, .int 4, .int 4, .int 4, .int 4, .int 4, .int 4, .int 4, .int 4, .int 4, .int 4, .int 4, .int 4, .int 4, .int 4, .int 4, .int 4, .int 4, .int 4, .int 4, .int 4, .int 4, .int 4, .int 4, .int 4, .int 4, .int 4, .int 4, .int 4, .int 4, .int 4, .int 4, .int 4, .int 4, .int 4, .int 4, .int 4, .int 4, .int 4, .int 4, .int 4, .int 4, .int 4, .int 4, .int 4, .int 4, .int 4, .int 4, .int 4, .int 4, .int 4, .int 4, .int 4, .int 4, .int 4, .int 4, .int 4, .int 4, .int 4, .int 4, .int 4, .int 4, .int 1, .int 0, .int 0, .int 0, .int 1, .int 0, .int 0, .int 0, .int 1, .int 0, .int 0, .int 0, .int 0, .int 0, .int 1, .int 0, .int 0, .int 0, .int 0, .int 0, .int 1, .int 0, .int 0, .int 0, .int 2, .int 0, .int 4, .int 4, .int 4, .int 4, .int 4], vm := .none }]
def classes : Array Class := #[k0, k1, k2, k3, k4, k5, k6, k7, k8, k9, k10, k11, k12, k13, k14, k15, k16, k17, k18, k19, k20, k21, k22, k23, k24, k25, k26]
def interned : List (Array UInt16 × Addr) := []
def slotsUsed : Nat := 187
def theMethod : MethodId := ⟨1, 1⟩
def args0 : Array Value := #[.int 5, .int 9, .int 3, .long 4, .int 7]
def aboutOver (below : List Frame) : State where
  vm := { classes := classes, interned := interned.toArray }
  heap := heap
  slotsUsed := slotsUsed
  threads := #[{ frames := .invoking theMethod args0 :: below }]
def below0 : List Frame := [.native { method := ⟨0, 0⟩, args := #[] }]
def about1 : State := aboutOver below0
def p0 : Program := .bare "" "" ""
def e0 : Env := launch0.env 0 0 0
theorem w_frames : about1.frames = Frame.invoking theMethod args0 :: below0 := rfl
set_option maxRecDepth 65536 in
theorem w_args : argsFit about1.vm theMethod args0 = true := by decide +kernel
set_option maxRecDepth 65536 in
theorem w_heap : heapFits about1 = true := by decide +kernel
set_option maxRecDepth 65536 in
theorem w_runnable : about1.curStatus? = some .runnable := by decide +kernel
set_option maxRecDepth 65536 in
theorem w_alone : about1.alone = true := by decide +kernel
set_option maxRecDepth 65536 in
theorem w_named : about1.methodNamed? x = some theMethod := by decide +kernel
set_option maxRecDepth 65536 in
theorem w_hears : about1.hears theMethod below0 = true := by decide +kernel
set_option maxRecDepth 65536 in
theorem w_ripe : about1.ripe theMethod args0 below0 = true := by decide +kernel
theorem w_running : about1.status = .running := rfl
set_option maxRecDepth 65536 in
theorem w_room : about1.hasRoom e0.platform room_1 = true :=
  launch0.hasRoom_least _ room_1 (by decide +kernel) (by decide +kernel) (by decide +kernel) (by decide +kernel) (by decide +kernel) (by decide +kernel)
theorem allAtoms_all (ts : List Jvm.Cond) (a : Array Jvm.Value) (st : Jvm.State) : (allAtoms ts).before a st = ts.all (fun c => c.before a st) := by
  induction ts with
  | nil => rfl
  | cons c t ih =>
    show (Jvm.Cond.and c (allAtoms t)).before a st = _
    rw [Jvm.Cond.before_and, ih, List.all_cons]
def words1 : List Jvm.Cond := Jvm.Cond.code x code maxLocals ret :: tables_1
/-- a 'code' word, met by the world's own term for the bytes: nothing is compared byte by byte -/
theorem code_word {y : MethodName} {bytes : ByteArray} {mx : Nat} {rt : Option FieldType} {a : Array Value} {s : State} {m : MethodId} {meth : Method} {c : Code} (h1 : s.methodNamed? y = some m) (h2 : s.vm.method? m = some meth) (h3 : meth.code = some c) (h4 : c.code = bytes)
    (h5 : (c.maxLocals == mx && c.exceptionTable.isEmpty && decide (c.maxStack ≤ mostOperands) && decide (meth.sig.returnType = rt) && !meth.locks && decide (parseMethodDescriptor y.desc = some meth.sig)) = true) : (Jvm.Cond.code y bytes mx rt).before a s = true := by
  simp only [Bool.and_eq_true, beq_iff_eq, Bool.not_eq_true', decide_eq_true_eq] at h5
  obtain ⟨⟨⟨⟨⟨g1, g2⟩, g3⟩, g4⟩, g5⟩, g6⟩ := h5
  simp [Cond.before, Cond.holds, Cond.value, h1, h2, h3, h4, g1, g2, g3, g4, g5, g6]
def isCode : Jvm.Cond → Bool
  | .code _ _ _ _ => true
  | _ => false
theorem all_split {L : List Jvm.Cond} {P : Jvm.Cond → Bool} (h1 : L.all (fun c => isCode c || P c) = true) (h2 : ∀ c ∈ L.filter isCode, P c = true) : L.all P = true := by
  refine List.all_eq_true.mpr fun c hc => ?_
  have h := List.all_eq_true.mp h1 c hc
  rcases Bool.eq_false_or_eq_true (isCode c) with hi | hi
  · exact h2 c (List.mem_filter.mpr ⟨hc, hi⟩)
  · simpa [hi] using h
set_option maxRecDepth 65536 in
theorem w_c0 : (Jvm.Cond.code x code maxLocals ret).before args0 about1 = true := code_word (m := ⟨1, 1⟩) (meth := k1m1) (c := k1c1) (by decide +kernel) rfl rfl rfl (by decide +kernel)
set_option maxRecDepth 65536 in
theorem w_c1 : (Jvm.Cond.code ({ cls := "com/example/stemshear/stemshear/RuleApplyPinLaw", name := "letter", desc := "(II)C" } : Jvm.MethodName) method_3_code (2 : Nat) (Option.some Jvm.ClassFile.FieldType.char)).before args0 about1 = true := code_word (m := ⟨1, 2⟩) (meth := k1m2) (c := k1c2) (by decide +kernel) rfl rfl rfl (by decide +kernel)
set_option maxRecDepth 65536 in
theorem w_c2 : (Jvm.Cond.code ({ cls := "com/example/stemshear/stemshear/RuleApplyPinLaw", name := "str", desc := "(ICCC)Ljava/lang/String;" } : Jvm.MethodName) method_4_code (4 : Nat) (Option.some (Jvm.ClassFile.FieldType.object "java/lang/String"))).before args0 about1 = true := code_word (m := ⟨1, 3⟩) (meth := k1m3) (c := k1c3) (by decide +kernel) rfl rfl rfl (by decide +kernel)
set_option maxRecDepth 65536 in
theorem w_c3 : (Jvm.Cond.code ({ cls := "java/lang/String", name := "<init>", desc := "([C)V" } : Jvm.MethodName) jdk_42_method_3_code (2 : Nat) (Option.none : Option Jvm.ClassFile.FieldType)).before args0 about1 = true := code_word (m := ⟨7, 1⟩) (meth := k7m1) (c := k7c1) (by decide +kernel) rfl rfl rfl (by decide +kernel)
set_option maxRecDepth 65536 in
theorem w_c4 : (Jvm.Cond.code ({ cls := "java/lang/String", name := "<init>", desc := "([CIILjava/lang/Void;)V" } : Jvm.MethodName) jdk_42_method_149_code (6 : Nat) (Option.none : Option Jvm.ClassFile.FieldType)).before args0 about1 = true := code_word (m := ⟨7, 7⟩) (meth := k7m7) (c := k7c7) (by decide +kernel) rfl rfl rfl (by decide +kernel)
set_option maxRecDepth 65536 in
theorem w_c5 : (Jvm.Cond.code ({ cls := "java/lang/Object", name := "<init>", desc := "()V" } : Jvm.MethodName) object_method_1_code (1 : Nat) (Option.none : Option Jvm.ClassFile.FieldType)).before args0 about1 = true := code_word (m := ⟨0, 0⟩) (meth := k0m0) (c := k0c0) (by decide +kernel) rfl rfl rfl (by decide +kernel)
set_option maxRecDepth 65536 in
theorem w_c6 : (Jvm.Cond.code ({ cls := "com/example/stemshear/stemshear/Rule", name := "<init>", desc := "(Ljava/lang/String;Ljava/lang/String;I)V" } : Jvm.MethodName) prog_36_method_1_code (4 : Nat) (Option.none : Option Jvm.ClassFile.FieldType)).before args0 about1 = true := code_word (m := ⟨8, 0⟩) (meth := k8m0) (c := k8c0) (by decide +kernel) rfl rfl rfl (by decide +kernel)
set_option maxRecDepth 65536 in
theorem w_c7 : (Jvm.Cond.code ({ cls := "com/example/stemshear/stemshear/Rule", name := "<init>", desc := "(Ljava/lang/String;Ljava/lang/String;IILcom/example/stemshear/stemshear/Rule;)V" } : Jvm.MethodName) prog_36_method_4_code (6 : Nat) (Option.none : Option Jvm.ClassFile.FieldType)).before args0 about1 = true := code_word (m := ⟨8, 1⟩) (meth := k8m1) (c := k8c1) (by decide +kernel) rfl rfl rfl (by decide +kernel)
set_option maxRecDepth 65536 in
theorem w_c8 : (Jvm.Cond.code ({ cls := "com/example/stemshear/stemshear/Condition", name := "isCondition", desc := "(I)Z" } : Jvm.MethodName) prog_10_method_8_code (1 : Nat) (Option.some Jvm.ClassFile.FieldType.boolean)).before args0 about1 = true := code_word (m := ⟨9, 2⟩) (meth := k9m2) (c := k9c2) (by decide +kernel) rfl rfl rfl (by decide +kernel)
set_option maxRecDepth 65536 in
theorem w_c9 : (Jvm.Cond.code ({ cls := "java/lang/String", name := "length", desc := "()I" } : Jvm.MethodName) jdk_42_method_54_code (1 : Nat) (Option.some Jvm.ClassFile.FieldType.int)).before args0 about1 = true := code_word (m := ⟨7, 3⟩) (meth := k7m3) (c := k7c3) (by decide +kernel) rfl rfl rfl (by decide +kernel)
set_option maxRecDepth 65536 in
theorem w_c10 : (Jvm.Cond.code ({ cls := "java/lang/String", name := "coder", desc := "()B" } : Jvm.MethodName) jdk_42_method_152_code (1 : Nat) (Option.some Jvm.ClassFile.FieldType.byte)).before args0 about1 = true := code_word (m := ⟨7, 10⟩) (meth := k7m10) (c := k7c10) (by decide +kernel) rfl rfl rfl (by decide +kernel)
set_option maxRecDepth 65536 in
theorem w_c11 : (Jvm.Cond.code ({ cls := "java/lang/String", name := "toCharArray", desc := "()[C" } : Jvm.MethodName) jdk_42_method_129_code (1 : Nat) (Option.some (Jvm.ClassFile.FieldType.array Jvm.ClassFile.FieldType.char))).before args0 about1 = true := code_word (m := ⟨7, 4⟩) (meth := k7m4) (c := k7c4) (by decide +kernel) rfl rfl rfl (by decide +kernel)
set_option maxRecDepth 65536 in
theorem w_c12 : (Jvm.Cond.code ({ cls := "java/lang/String", name := "isLatin1", desc := "()Z" } : Jvm.MethodName) jdk_42_method_154_code (1 : Nat) (Option.some Jvm.ClassFile.FieldType.boolean)).before args0 about1 = true := code_word (m := ⟨7, 11⟩) (meth := k7m11) (c := k7c11) (by decide +kernel) rfl rfl rfl (by decide +kernel)
set_option maxRecDepth 65536 in
theorem w_c13 : (Jvm.Cond.code ({ cls := "java/lang/StringLatin1", name := "toChars", desc := "([B)[C" } : Jvm.MethodName) jdk_43_method_9_code (2 : Nat) (Option.some (Jvm.ClassFile.FieldType.array Jvm.ClassFile.FieldType.char))).before args0 about1 = true := code_word (m := ⟨10, 2⟩) (meth := k10m2) (c := k10c2) (by decide +kernel) rfl rfl rfl (by decide +kernel)
set_option maxRecDepth 65536 in
theorem w_c14 : (Jvm.Cond.code ({ cls := "java/lang/StringLatin1", name := "inflate", desc := "([BI[CII)V" } : Jvm.MethodName) jdk_43_method_49_code (6 : Nat) (Option.none : Option Jvm.ClassFile.FieldType)).before args0 about1 = true := code_word (m := ⟨10, 4⟩) (meth := k10m4) (c := k10c4) (by decide +kernel) rfl rfl rfl (by decide +kernel)
set_option maxRecDepth 65536 in
theorem w_c15 : (Jvm.Cond.code ({ cls := "com/example/stemshear/stemshear/Rule", name := "vowelsFollowing", desc := "(CLjava/lang/String;)J" } : Jvm.MethodName) prog_36_method_5_code (5 : Nat) (Option.some Jvm.ClassFile.FieldType.long)).before args0 about1 = true := code_word (m := ⟨8, 2⟩) (meth := k8m2) (c := k8c2) (by decide +kernel) rfl rfl rfl (by decide +kernel)
set_option maxRecDepth 65536 in
theorem w_c16 : (Jvm.Cond.code ({ cls := "java/lang/StringBuilder", name := "<init>", desc := "()V" } : Jvm.MethodName) jdk_67_method_1_code (1 : Nat) (Option.none : Option Jvm.ClassFile.FieldType)).before args0 about1 = true := code_word (m := ⟨13, 0⟩) (meth := k13m0) (c := k13c0) (by decide +kernel) rfl rfl rfl (by decide +kernel)
set_option maxRecDepth 65536 in
theorem w_c17 : (Jvm.Cond.code ({ cls := "java/lang/AbstractStringBuilder", name := "<init>", desc := "(I)V" } : Jvm.MethodName) jdk_68_method_2_code (2 : Nat) (Option.none : Option Jvm.ClassFile.FieldType)).before args0 about1 = true := code_word (m := ⟨12, 1⟩) (meth := k12m1) (c := k12c1) (by decide +kernel) rfl rfl rfl (by decide +kernel)
set_option maxRecDepth 65536 in
theorem w_c18 : (Jvm.Cond.code ({ cls := "java/lang/StringBuilder", name := "append", desc := "(C)Ljava/lang/StringBuilder;" } : Jvm.MethodName) jdk_67_method_14_code (2 : Nat) (Option.some (Jvm.ClassFile.FieldType.object "java/lang/StringBuilder"))).before args0 about1 = true := code_word (m := ⟨13, 2⟩) (meth := k13m2) (c := k13c2) (by decide +kernel) rfl rfl rfl (by decide +kernel)
set_option maxRecDepth 65536 in
theorem w_c19 : (Jvm.Cond.code ({ cls := "java/lang/AbstractStringBuilder", name := "append", desc := "(C)Ljava/lang/AbstractStringBuilder;" } : Jvm.MethodName) jdk_68_method_31_code (2 : Nat) (Option.some (Jvm.ClassFile.FieldType.object "java/lang/AbstractStringBuilder"))).before args0 about1 = true := code_word (m := ⟨12, 5⟩) (meth := k12m5) (c := k12c5) (by decide +kernel) rfl rfl rfl (by decide +kernel)
set_option maxRecDepth 65536 in
theorem w_c20 : (Jvm.Cond.code ({ cls := "java/lang/AbstractStringBuilder", name := "ensureCapacityInternal", desc := "(I)V" } : Jvm.MethodName) jdk_68_method_9_code (3 : Nat) (Option.none : Option Jvm.ClassFile.FieldType)).before args0 about1 = true := code_word (m := ⟨12, 3⟩) (meth := k12m3) (c := k12c3) (by decide +kernel) rfl rfl rfl (by decide +kernel)
set_option maxRecDepth 65536 in
theorem w_c21 : (Jvm.Cond.code ({ cls := "java/lang/AbstractStringBuilder", name := "isLatin1", desc := "()Z" } : Jvm.MethodName) jdk_68_method_68_code (1 : Nat) (Option.some Jvm.ClassFile.FieldType.boolean)).before args0 about1 = true := code_word (m := ⟨12, 7⟩) (meth := k12m7) (c := k12c7) (by decide +kernel) rfl rfl rfl (by decide +kernel)
set_option maxRecDepth 65536 in
theorem w_c22 : (Jvm.Cond.code ({ cls := "java/lang/StringLatin1", name := "canEncode", desc := "(C)Z" } : Jvm.MethodName) jdk_43_method_3_code (1 : Nat) (Option.some Jvm.ClassFile.FieldType.boolean)).before args0 about1 = true := code_word (m := ⟨10, 1⟩) (meth := k10m1) (c := k10c1) (by decide +kernel) rfl rfl rfl (by decide +kernel)
set_option maxRecDepth 65536 in
theorem w_c23 : (Jvm.Cond.code ({ cls := "java/lang/StringBuilder", name := "append", desc := "(Ljava/lang/String;)Ljava/lang/StringBuilder;" } : Jvm.MethodName) jdk_67_method_7_code (2 : Nat) (Option.some (Jvm.ClassFile.FieldType.object "java/lang/StringBuilder"))).before args0 about1 = true := code_word (m := ⟨13, 1⟩) (meth := k13m1) (c := k13c1) (by decide +kernel) rfl rfl rfl (by decide +kernel)
set_option maxRecDepth 65536 in
theorem w_c24 : (Jvm.Cond.code ({ cls := "java/lang/AbstractStringBuilder", name := "append", desc := "(Ljava/lang/String;)Ljava/lang/AbstractStringBuilder;" } : Jvm.MethodName) jdk_68_method_22_code (3 : Nat) (Option.some (Jvm.ClassFile.FieldType.object "java/lang/AbstractStringBuilder"))).before args0 about1 = true := code_word (m := ⟨12, 4⟩) (meth := k12m4) (c := k12c4) (by decide +kernel) rfl rfl rfl (by decide +kernel)
set_option maxRecDepth 65536 in
theorem w_c25 : (Jvm.Cond.code ({ cls := "java/lang/AbstractStringBuilder", name := "putStringAt", desc := "(ILjava/lang/String;)V" } : Jvm.MethodName) jdk_68_method_73_code (3 : Nat) (Option.none : Option Jvm.ClassFile.FieldType)).before args0 about1 = true := code_word (m := ⟨12, 9⟩) (meth := k12m9) (c := k12c9) (by decide +kernel) rfl rfl rfl (by decide +kernel)
set_option maxRecDepth 65536 in
theorem w_c26 : (Jvm.Cond.code ({ cls := "java/lang/AbstractStringBuilder", name := "inflateIfNeededFor", desc := "(Ljava/lang/String;)V" } : Jvm.MethodName) jdk_68_method_71_code (2 : Nat) (Option.none : Option Jvm.ClassFile.FieldType)).before args0 about1 = true := code_word (m := ⟨12, 8⟩) (meth := k12m8) (c := k12c8) (by decide +kernel) rfl rfl rfl (by decide +kernel)
set_option maxRecDepth 65536 in
theorem w_c27 : (Jvm.Cond.code ({ cls := "java/lang/String", name := "getBytes", desc := "([BIB)V" } : Jvm.MethodName) jdk_42_method_147_code (4 : Nat) (Option.none : Option Jvm.ClassFile.FieldType)).before args0 about1 = true := code_word (m := ⟨7, 6⟩) (meth := k7m6) (c := k7c6) (by decide +kernel) rfl rfl rfl (by decide +kernel)
set_option maxRecDepth 65536 in
theorem w_c28 : (Jvm.Cond.code ({ cls := "java/lang/StringBuilder", name := "toString", desc := "()Ljava/lang/String;" } : Jvm.MethodName) jdk_67_method_42_code (1 : Nat) (Option.some (Jvm.ClassFile.FieldType.object "java/lang/String"))).before args0 about1 = true := code_word (m := ⟨13, 3⟩) (meth := k13m3) (c := k13c3) (by decide +kernel) rfl rfl rfl (by decide +kernel)
set_option maxRecDepth 65536 in
theorem w_c29 : (Jvm.Cond.code ({ cls := "java/lang/String", name := "<init>", desc := "(Ljava/lang/StringBuilder;)V" } : Jvm.MethodName) jdk_42_method_53_code (2 : Nat) (Option.none : Option Jvm.ClassFile.FieldType)).before args0 about1 = true := code_word (m := ⟨7, 2⟩) (meth := k7m2) (c := k7c2) (by decide +kernel) rfl rfl rfl (by decide +kernel)
set_option maxRecDepth 65536 in
theorem w_c30 : (Jvm.Cond.code ({ cls := "java/lang/String", name := "<init>", desc := "(Ljava/lang/AbstractStringBuilder;Ljava/lang/Void;)V" } : Jvm.MethodName) jdk_42_method_150_code (5 : Nat) (Option.none : Option Jvm.ClassFile.FieldType)).before args0 about1 = true := code_word (m := ⟨7, 8⟩) (meth := k7m8) (c := k7c8) (by decide +kernel) rfl rfl rfl (by decide +kernel)
set_option maxRecDepth 65536 in
theorem w_c31 : (Jvm.Cond.code ({ cls := "java/lang/AbstractStringBuilder", name := "getValue", desc := "()[B" } : Jvm.MethodName) jdk_68_method_64_code (1 : Nat) (Option.some (Jvm.ClassFile.FieldType.array Jvm.ClassFile.FieldType.byte))).before args0 about1 = true := code_word (m := ⟨12, 6⟩) (meth := k12m6) (c := k12c6) (by decide +kernel) rfl rfl rfl (by decide +kernel)
set_option maxRecDepth 65536 in
theorem w_c32 : (Jvm.Cond.code ({ cls := "java/lang/StringBuilder", name := "length", desc := "()I" } : Jvm.MethodName) jdk_67_method_93_code (1 : Nat) (Option.some Jvm.ClassFile.FieldType.int)).before args0 about1 = true := code_word (m := ⟨13, 4⟩) (meth := k13m4) (c := k13c4) (by decide +kernel) rfl rfl rfl (by decide +kernel)
set_option maxRecDepth 65536 in
theorem w_c33 : (Jvm.Cond.code ({ cls := "java/lang/AbstractStringBuilder", name := "length", desc := "()I" } : Jvm.MethodName) jdk_68_method_6_code (1 : Nat) (Option.some Jvm.ClassFile.FieldType.int)).before args0 about1 = true := code_word (m := ⟨12, 2⟩) (meth := k12m2) (c := k12c2) (by decide +kernel) rfl rfl rfl (by decide +kernel)
set_option maxRecDepth 65536 in
theorem w_c34 : (Jvm.Cond.code ({ cls := "java/util/Arrays", name := "copyOfRange", desc := "([BII)[B" } : Jvm.MethodName) jdk_65_method_132_code (3 : Nat) (Option.some (Jvm.ClassFile.FieldType.array Jvm.ClassFile.FieldType.byte))).before args0 about1 = true := code_word (m := ⟨15, 2⟩) (meth := k15m2) (c := k15c2) (by decide +kernel) rfl rfl rfl (by decide +kernel)
set_option maxRecDepth 65536 in
theorem w_c35 : (Jvm.Cond.code ({ cls := "java/util/Arrays", name := "copyOfRangeByte", desc := "([BII)[B" } : Jvm.MethodName) jdk_65_method_133_code (5 : Nat) (Option.some (Jvm.ClassFile.FieldType.array Jvm.ClassFile.FieldType.byte))).before args0 about1 = true := code_word (m := ⟨15, 3⟩) (meth := k15m3) (c := k15c3) (by decide +kernel) rfl rfl rfl (by decide +kernel)
set_option maxRecDepth 65536 in
theorem w_c36 : (Jvm.Cond.code ({ cls := "java/util/Arrays", name := "checkLength", desc := "(II)V" } : Jvm.MethodName) jdk_65_method_131_code (2 : Nat) (Option.none : Option Jvm.ClassFile.FieldType)).before args0 about1 = true := code_word (m := ⟨15, 1⟩) (meth := k15m1) (c := k15c1) (by decide +kernel) rfl rfl rfl (by decide +kernel)
set_option maxRecDepth 65536 in
theorem w_c37 : (Jvm.Cond.code ({ cls := "java/lang/Math", name := "min", desc := "(II)I" } : Jvm.MethodName) jdk_29_method_69_code (2 : Nat) (Option.some Jvm.ClassFile.FieldType.int)).before args0 about1 = true := code_word (m := ⟨16, 1⟩) (meth := k16m1) (c := k16c1) (by decide +kernel) rfl rfl rfl (by decide +kernel)
set_option maxRecDepth 65536 in
theorem w_c38 : (Jvm.Cond.code ({ cls := "com/example/stemshear/stemshear/Condition", name := "vowels", desc := "([CIIIZ)J" } : Jvm.MethodName) prog_10_method_23_code (14 : Nat) (Option.some Jvm.ClassFile.FieldType.long)).before args0 about1 = true := code_word (m := ⟨9, 3⟩) (meth := k9m3) (c := k9c3) (by decide +kernel) rfl rfl rfl (by decide +kernel)
set_option maxRecDepth 65536 in
theorem w_c39 : (Jvm.Cond.code ({ cls := "com/example/stemshear/stemshear/Condition", name := "kind", desc := "(C)I" } : Jvm.MethodName) prog_10_method_7_code (1 : Nat) (Option.some Jvm.ClassFile.FieldType.int)).before args0 about1 = true := code_word (m := ⟨9, 1⟩) (meth := k9m1) (c := k9c1) (by decide +kernel) rfl rfl rfl (by decide +kernel)
set_option maxRecDepth 65536 in
theorem w_c40 : (Jvm.Cond.code ({ cls := "com/example/stemshear/stemshear/Condition", name := "notInWords", desc := "(Z)I" } : Jvm.MethodName) prog_10_method_25_code (1 : Nat) (Option.some Jvm.ClassFile.FieldType.int)).before args0 about1 = true := code_word (m := ⟨9, 4⟩) (meth := k9m4) (c := k9c4) (by decide +kernel) rfl rfl rfl (by decide +kernel)
set_option maxRecDepth 65536 in
theorem w_c41 : (Jvm.Cond.code ({ cls := "com/example/stemshear/stemshear/RuleApplyPinLaw", name := "filled", desc := "(JI)[C" } : Jvm.MethodName) method_5_code (4 : Nat) (Option.some (Jvm.ClassFile.FieldType.array Jvm.ClassFile.FieldType.char))).before args0 about1 = true := code_word (m := ⟨1, 4⟩) (meth := k1m4) (c := k1c4) (by decide +kernel) rfl rfl rfl (by decide +kernel)
set_option maxRecDepth 65536 in
theorem w_c42 : (Jvm.Cond.code ({ cls := "com/example/stemshear/stemshear/RuleApplyPinLaw", name := "putSuffix", desc := "([CIICCC)V" } : Jvm.MethodName) method_6_code (6 : Nat) (Option.none : Option Jvm.ClassFile.FieldType)).before args0 about1 = true := code_word (m := ⟨1, 5⟩) (meth := k1m5) (c := k1c5) (by decide +kernel) rfl rfl rfl (by decide +kernel)
set_option maxRecDepth 65536 in
theorem w_c43 : (Jvm.Cond.code ({ cls := "com/example/stemshear/stemshear/Rule", name := "apply", desc := "([CII)I" } : Jvm.MethodName) prog_36_method_20_code (9 : Nat) (Option.some Jvm.ClassFile.FieldType.int)).before args0 about1 = true := code_word (m := ⟨8, 3⟩) (meth := k8m3) (c := k8c3) (by decide +kernel) rfl rfl rfl (by decide +kernel)
set_option maxRecDepth 65536 in
theorem w_c44 : (Jvm.Cond.code ({ cls := "com/example/stemshear/stemshear/RuleApplyPinLaw", name := "same", desc := "([C[CIIICCC)Z" } : Jvm.MethodName) method_7_code (10 : Nat) (Option.some Jvm.ClassFile.FieldType.boolean)).before args0 about1 = true := code_word (m := ⟨1, 6⟩) (meth := k1m6) (c := k1c6) (by decide +kernel) rfl rfl rfl (by decide +kernel)
set_option maxRecDepth 65536 in
theorem w_c45 : (Jvm.Cond.code ({ cls := "java/lang/StringUTF16", name := "compress", desc := "([CII)[B" } : Jvm.MethodName) jdk_52_method_16_code (6 : Nat) (Option.some (Jvm.ClassFile.FieldType.array Jvm.ClassFile.FieldType.byte))).before args0 about1 = true := code_word (m := ⟨17, 2⟩) (meth := k17m2) (c := k17c2) (by decide +kernel) rfl rfl rfl (by decide +kernel)
set_option maxRecDepth 65536 in
theorem w_c46 : (Jvm.Cond.code ({ cls := "java/lang/StringUTF16", name := "compress", desc := "([CI[BII)I" } : Jvm.MethodName) jdk_52_method_21_code (7 : Nat) (Option.some Jvm.ClassFile.FieldType.int)).before args0 about1 = true := code_word (m := ⟨17, 3⟩) (meth := k17m3) (c := k17c3) (by decide +kernel) rfl rfl rfl (by decide +kernel)
set_option maxRecDepth 65536 in
theorem w_c47 : (Jvm.Cond.code ({ cls := "java/lang/StringUTF16", name := "coderFromArrayLen", desc := "([BI)B" } : Jvm.MethodName) jdk_52_method_15_code (2 : Nat) (Option.some Jvm.ClassFile.FieldType.byte)).before args0 about1 = true := code_word (m := ⟨17, 1⟩) (meth := k17m1) (c := k17c1) (by decide +kernel) rfl rfl rfl (by decide +kernel)
set_option maxRecDepth 65536 in
theorem w_c48 : (Jvm.Cond.code ({ cls := "java/lang/String", name := "valueOf", desc := "(C)Ljava/lang/String;" } : Jvm.MethodName) jdk_42_method_139_code (1 : Nat) (Option.some (Jvm.ClassFile.FieldType.object "java/lang/String"))).before args0 about1 = true := code_word (m := ⟨7, 5⟩) (meth := k7m5) (c := k7c5) (by decide +kernel) rfl rfl rfl (by decide +kernel)
set_option maxRecDepth 65536 in
theorem w_c49 : (Jvm.Cond.code ({ cls := "java/lang/StringLatin1", name := "toBytes", desc := "(C)[B" } : Jvm.MethodName) jdk_43_method_46_code (1 : Nat) (Option.some (Jvm.ClassFile.FieldType.array Jvm.ClassFile.FieldType.byte))).before args0 about1 = true := code_word (m := ⟨10, 3⟩) (meth := k10m3) (c := k10c3) (by decide +kernel) rfl rfl rfl (by decide +kernel)
set_option maxRecDepth 65536 in
theorem w_c50 : (Jvm.Cond.code ({ cls := "java/lang/String", name := "<init>", desc := "([BB)V" } : Jvm.MethodName) jdk_42_method_151_code (3 : Nat) (Option.none : Option Jvm.ClassFile.FieldType)).before args0 about1 = true := code_word (m := ⟨7, 9⟩) (meth := k7m9) (c := k7c9) (by decide +kernel) rfl rfl rfl (by decide +kernel)
def codes1 : List Jvm.Cond := [Jvm.Cond.code x code maxLocals ret, Jvm.Cond.code ({ cls := "com/example/stemshear/stemshear/RuleApplyPinLaw", name := "letter", desc := "(II)C" } : Jvm.MethodName) method_3_code (2 : Nat) (Option.some Jvm.ClassFile.FieldType.char), Jvm.Cond.code ({ cls := "com/example/stemshear/stemshear/RuleApplyPinLaw", name := "str", desc := "(ICCC)Ljava/lang/String;" } : Jvm.MethodName) method_4_code (4 : Nat) (Option.some (Jvm.ClassFile.FieldType.object "java/lang/String")), Jvm.Cond.code ({ cls := "java/lang/String", name := "<init>", desc := "([C)V" } : Jvm.MethodName) jdk_42_method_3_code (2 : Nat) (Option.none : Option Jvm.ClassFile.FieldType), Jvm.Cond.code ({ cls := "java/lang/String", name := "<init>", desc := "([CIILjava/lang/Void;)V" } : Jvm.MethodName) jdk_42_method_149_code (6 : Nat) (Option.none : Option Jvm.ClassFile.FieldType), Jvm.Cond.code ({ cls := "java/lang/Object", name := "<init>", desc := "()V" } : Jvm.MethodName) object_method_1_code (1 : Nat) (Option.none : Option Jvm.ClassFile.FieldType), Jvm.Cond.code ({ cls := "com/example/stemshear/stemshear/Rule", name := "<init>", desc := "(Ljava/lang/String;Ljava/lang/String;I)V" } : Jvm.MethodName) prog_36_method_1_code (4 : Nat) (Option.none : Option Jvm.ClassFile.FieldType), Jvm.Cond.code ({ cls := "com/example/stemshear/stemshear/Rule", name := "<init>", desc := "(Ljava/lang/String;Ljava/lang/String;IILcom/example/stemshear/stemshear/Rule;)V" } : Jvm.MethodName) prog_36_method_4_code (6 : Nat) (Option.none : Option Jvm.ClassFile.FieldType), Jvm.Cond.code ({ cls := "com/example/stemshear/stemshear/Condition", name := "isCondition", desc := "(I)Z" } : Jvm.MethodName) prog_10_method_8_code (1 : Nat) (Option.some Jvm.ClassFile.FieldType.boolean), Jvm.Cond.code ({ cls := "java/lang/String", name := "length", desc := "()I" } : Jvm.MethodName) jdk_42_method_54_code (1 : Nat) (Option.some Jvm.ClassFile.FieldType.int), Jvm.Cond.code ({ cls := "java/lang/String", name := "coder", desc := "()B" } : Jvm.MethodName) jdk_42_method_152_code (1 : Nat) (Option.some Jvm.ClassFile.FieldType.byte), Jvm.Cond.code ({ cls := "java/lang/String", name := "toCharArray", desc := "()[C" } : Jvm.MethodName) jdk_42_method_129_code (1 : Nat) (Option.some (Jvm.ClassFile.FieldType.array Jvm.ClassFile.FieldType.char)), Jvm.Cond.code ({ cls := "java/lang/String", name := "isLatin1", desc := "()Z" } : Jvm.MethodName) jdk_42_method_154_code (1 : Nat) (Option.some Jvm.ClassFile.FieldType.boolean), Jvm.Cond.code ({ cls := "java/lang/StringLatin1", name := "toChars", desc := "([B)[C" } : Jvm.MethodName) jdk_43_method_9_code (2 : Nat) (Option.some (Jvm.ClassFile.FieldType.array Jvm.ClassFile.FieldType.char)), Jvm.Cond.code ({ cls := "java/lang/StringLatin1", name := "inflate", desc := "([BI[CII)V" } : Jvm.MethodName) jdk_43_method_49_code (6 : Nat) (Option.none : Option Jvm.ClassFile.FieldType), Jvm.Cond.code ({ cls := "com/example/stemshear/stemshear/Rule", name := "vowelsFollowing", desc := "(CLjava/lang/String;)J" } : Jvm.MethodName) prog_36_method_5_code (5 : Nat) (Option.some Jvm.ClassFile.FieldType.long), Jvm.Cond.code ({ cls := "java/lang/StringBuilder", name := "<init>", desc := "()V" } : Jvm.MethodName) jdk_67_method_1_code (1 : Nat) (Option.none : Option Jvm.ClassFile.FieldType), Jvm.Cond.code ({ cls := "java/lang/AbstractStringBuilder", name := "<init>", desc := "(I)V" } : Jvm.MethodName) jdk_68_method_2_code (2 : Nat) (Option.none : Option Jvm.ClassFile.FieldType), Jvm.Cond.code ({ cls := "java/lang/StringBuilder", name := "append", desc := "(C)Ljava/lang/StringBuilder;" } : Jvm.MethodName) jdk_67_method_14_code (2 : Nat) (Option.some (Jvm.ClassFile.FieldType.object "java/lang/StringBuilder")), Jvm.Cond.code ({ cls := "java/lang/AbstractStringBuilder", name := "append", desc := "(C)Ljava/lang/AbstractStringBuilder;" } : Jvm.MethodName) jdk_68_method_31_code (2 : Nat) (Option.some (Jvm.ClassFile.FieldType.object "java/lang/AbstractStringBuilder")), Jvm.Cond.code ({ cls := "java/lang/AbstractStringBuilder", name := "ensureCapacityInternal", desc := "(I)V" } : Jvm.MethodName) jdk_68_method_9_code (3 : Nat) (Option.none : Option Jvm.ClassFile.FieldType), Jvm.Cond.code ({ cls := "java/lang/AbstractStringBuilder", name := "isLatin1", desc := "()Z" } : Jvm.MethodName) jdk_68_method_68_code (1 : Nat) (Option.some Jvm.ClassFile.FieldType.boolean), Jvm.Cond.code ({ cls := "java/lang/StringLatin1", name := "canEncode", desc := "(C)Z" } : Jvm.MethodName) jdk_43_method_3_code (1 : Nat) (Option.some Jvm.ClassFile.FieldType.boolean), Jvm.Cond.code ({ cls := "java/lang/StringBuilder", name := "append", desc := "(Ljava/lang/String;)Ljava/lang/StringBuilder;" } : Jvm.MethodName) jdk_67_method_7_code (2 : Nat) (Option.some (Jvm.ClassFile.FieldType.object "java/lang/StringBuilder")), Jvm.Cond.code ({ cls := "java/lang/AbstractStringBuilder", name := "append", desc := "(Ljava/lang/String;)Ljava/lang/AbstractStringBuilder;" } : Jvm.MethodName) jdk_68_method_22_code (3 : Nat) (Option.some (Jvm.ClassFile.FieldType.object "java/lang/AbstractStringBuilder")), Jvm.Cond.code ({ cls := "java/lang/AbstractStringBuilder", name := "putStringAt", desc := "(ILjava/lang/String;)V" } : Jvm.MethodName) jdk_68_method_73_code (3 : Nat) (Option.none : Option Jvm.ClassFile.FieldType), Jvm.Cond.code ({ cls := "java/lang/AbstractStringBuilder", name := "inflateIfNeededFor", desc := "(Ljava/lang/String;)V" } : Jvm.MethodName) jdk_68_method_71_code (2 : Nat) (Option.none : Option Jvm.ClassFile.FieldType), Jvm.Cond.code ({ cls := "java/lang/String", name := "getBytes", desc := "([BIB)V" } : Jvm.MethodName) jdk_42_method_147_code (4 : Nat) (Option.none : Option Jvm.ClassFile.FieldType), Jvm.Cond.code ({ cls := "java/lang/StringBuilder", name := "toString", desc := "()Ljava/lang/String;" } : Jvm.MethodName) jdk_67_method_42_code (1 : Nat) (Option.some (Jvm.ClassFile.FieldType.object "java/lang/String")), Jvm.Cond.code ({ cls := "java/lang/String", name := "<init>", desc := "(Ljava/lang/StringBuilder;)V" } : Jvm.MethodName) jdk_42_method_53_code (2 : Nat) (Option.none : Option Jvm.ClassFile.FieldType), Jvm.Cond.code ({ cls := "java/lang/String", name := "<init>", desc := "(Ljava/lang/AbstractStringBuilder;Ljava/lang/Void;)V" } : Jvm.MethodName) jdk_42_method_150_code (5 : Nat) (Option.none : Option Jvm.ClassFile.FieldType), Jvm.Cond.code ({ cls := "java/lang/AbstractStringBuilder", name := "getValue", desc := "()[B" } : Jvm.MethodName) jdk_68_method_64_code (1 : Nat) (Option.some (Jvm.ClassFile.FieldType.array Jvm.ClassFile.FieldType.byte)), Jvm.Cond.code ({ cls := "java/lang/StringBuilder", name := "length", desc := "()I" } : Jvm.MethodName) jdk_67_method_93_code (1 : Nat) (Option.some Jvm.ClassFile.FieldType.int), Jvm.Cond.code ({ cls := "java/lang/AbstractStringBuilder", name := "length", desc := "()I" } : Jvm.MethodName) jdk_68_method_6_code (1 : Nat) (Option.some Jvm.ClassFile.FieldType.int), Jvm.Cond.code ({ cls := "java/util/Arrays", name := "copyOfRange", desc := "([BII)[B" } : Jvm.MethodName) jdk_65_method_132_code (3 : Nat) (Option.some (Jvm.ClassFile.FieldType.array Jvm.ClassFile.FieldType.byte)), Jvm.Cond.code ({ cls := "java/util/Arrays", name := "copyOfRangeByte", desc := "([BII)[B" } : Jvm.MethodName) jdk_65_method_133_code (5 : Nat) (Option.some (Jvm.ClassFile.FieldType.array Jvm.ClassFile.FieldType.byte)), Jvm.Cond.code ({ cls := "java/util/Arrays", name := "checkLength", desc := "(II)V" } : Jvm.MethodName) jdk_65_method_131_code (2 : Nat) (Option.none : Option Jvm.ClassFile.FieldType), Jvm.Cond.code ({ cls := "java/lang/Math", name := "min", desc := "(II)I" } : Jvm.MethodName) jdk_29_method_69_code (2 : Nat) (Option.some Jvm.ClassFile.FieldType.int), Jvm.Cond.code ({ cls := "com/example/stemshear/stemshear/Condition", name := "vowels", desc := "([CIIIZ)J" } : Jvm.MethodName) prog_10_method_23_code (14 : Nat) (Option.some Jvm.ClassFile.FieldType.long), Jvm.Cond.code ({ cls := "com/example/stemshear/stemshear/Condition", name := "kind", desc := "(C)I" } : Jvm.MethodName) prog_10_method_7_code (1 : Nat) (Option.some Jvm.ClassFile.FieldType.int), Jvm.Cond.code ({ cls := "com/example/stemshear/stemshear/Condition", name := "notInWords", desc := "(Z)I" } : Jvm.MethodName) prog_10_method_25_code (1 : Nat) (Option.some Jvm.ClassFile.FieldType.int), Jvm.Cond.code ({ cls := "com/example/stemshear/stemshear/RuleApplyPinLaw", name := "filled", desc := "(JI)[C" } : Jvm.MethodName) method_5_code (4 : Nat) (Option.some (Jvm.ClassFile.FieldType.array Jvm.ClassFile.FieldType.char)), Jvm.Cond.code ({ cls := "com/example/stemshear/stemshear/RuleApplyPinLaw", name := "putSuffix", desc := "([CIICCC)V" } : Jvm.MethodName) method_6_code (6 : Nat) (Option.none : Option Jvm.ClassFile.FieldType), Jvm.Cond.code ({ cls := "com/example/stemshear/stemshear/Rule", name := "apply", desc := "([CII)I" } : Jvm.MethodName) prog_36_method_20_code (9 : Nat) (Option.some Jvm.ClassFile.FieldType.int), Jvm.Cond.code ({ cls := "com/example/stemshear/stemshear/RuleApplyPinLaw", name := "same", desc := "([C[CIIICCC)Z" } : Jvm.MethodName) method_7_code (10 : Nat) (Option.some Jvm.ClassFile.FieldType.boolean), Jvm.Cond.code ({ cls := "java/lang/StringUTF16", name := "compress", desc := "([CII)[B" } : Jvm.MethodName) jdk_52_method_16_code (6 : Nat) (Option.some (Jvm.ClassFile.FieldType.array Jvm.ClassFile.FieldType.byte)), Jvm.Cond.code ({ cls := "java/lang/StringUTF16", name := "compress", desc := "([CI[BII)I" } : Jvm.MethodName) jdk_52_method_21_code (7 : Nat) (Option.some Jvm.ClassFile.FieldType.int), Jvm.Cond.code ({ cls := "java/lang/StringUTF16", name := "coderFromArrayLen", desc := "([BI)B" } : Jvm.MethodName) jdk_52_method_15_code (2 : Nat) (Option.some Jvm.ClassFile.FieldType.byte), Jvm.Cond.code ({ cls := "java/lang/String", name := "valueOf", desc := "(C)Ljava/lang/String;" } : Jvm.MethodName) jdk_42_method_139_code (1 : Nat) (Option.some (Jvm.ClassFile.FieldType.object "java/lang/String")), Jvm.Cond.code ({ cls := "java/lang/StringLatin1", name := "toBytes", desc := "(C)[B" } : Jvm.MethodName) jdk_43_method_46_code (1 : Nat) (Option.some (Jvm.ClassFile.FieldType.array Jvm.ClassFile.FieldType.byte)), Jvm.Cond.code ({ cls := "java/lang/String", name := "<init>", desc := "([BB)V" } : Jvm.MethodName) jdk_42_method_151_code (3 : Nat) (Option.none : Option Jvm.ClassFile.FieldType)]
set_option maxRecDepth 65536 in
theorem codes_eq : words1.filter isCode = codes1 := rfl
theorem w_codes : ∀ c ∈ words1.filter isCode, c.before args0 about1 = true := by
  rw [codes_eq]
  intro c hc
  simp only [codes1, List.mem_cons, List.not_mem_nil, or_false] at hc
  rcases hc with rfl | rfl | rfl | rfl | rfl | rfl | rfl | rfl | rfl | rfl | rfl | rfl | rfl | rfl | rfl | rfl | rfl | rfl | rfl | rfl | rfl | rfl | rfl | rfl | rfl | rfl | rfl | rfl | rfl | rfl | rfl | rfl | rfl | rfl | rfl | rfl | rfl | rfl | rfl | rfl | rfl | rfl | rfl | rfl | rfl | rfl | rfl | rfl | rfl | rfl | rfl
  · exact w_c0
  · exact w_c1
  · exact w_c2
  · exact w_c3
  · exact w_c4
  · exact w_c5
  · exact w_c6
  · exact w_c7
  · exact w_c8
  · exact w_c9
  · exact w_c10
  · exact w_c11
  · exact w_c12
  · exact w_c13
  · exact w_c14
  · exact w_c15
  · exact w_c16
  · exact w_c17
  · exact w_c18
  · exact w_c19
  · exact w_c20
  · exact w_c21
  · exact w_c22
  · exact w_c23
  · exact w_c24
  · exact w_c25
  · exact w_c26
  · exact w_c27
  · exact w_c28
  · exact w_c29
  · exact w_c30
  · exact w_c31
  · exact w_c32
  · exact w_c33
  · exact w_c34
  · exact w_c35
  · exact w_c36
  · exact w_c37
  · exact w_c38
  · exact w_c39
  · exact w_c40
  · exact w_c41
  · exact w_c42
  · exact w_c43
  · exact w_c44
  · exact w_c45
  · exact w_c46
  · exact w_c47
  · exact w_c48
  · exact w_c49
  · exact w_c50
set_option maxRecDepth 65536 in
theorem w_t1 : (words1.take 24).all (fun c => isCode c || c.before args0 about1) = true := by decide +kernel
set_option maxRecDepth 65536 in
theorem w_t2 : ((words1.drop 24).take 24).all (fun c => isCode c || c.before args0 about1) = true := by decide +kernel
set_option maxRecDepth 65536 in
theorem w_t3 : (((words1.drop 24).drop 24).take 24).all (fun c => isCode c || c.before args0 about1) = true := by decide +kernel
set_option maxRecDepth 65536 in
theorem w_t4 : ((((words1.drop 24).drop 24).drop 24).take 24).all (fun c => isCode c || c.before args0 about1) = true := by decide +kernel
set_option maxRecDepth 65536 in
theorem w_t5 : (((((words1.drop 24).drop 24).drop 24).drop 24).take 24).all (fun c => isCode c || c.before args0 about1) = true := by decide +kernel
set_option maxRecDepth 65536 in
theorem w_t6 : ((((((words1.drop 24).drop 24).drop 24).drop 24).drop 24).take 24).all (fun c => isCode c || c.before args0 about1) = true := by decide +kernel
set_option maxRecDepth 65536 in
theorem w_t7 : (((((((words1.drop 24).drop 24).drop 24).drop 24).drop 24).drop 24).take 24).all (fun c => isCode c || c.before args0 about1) = true := by decide +kernel
set_option maxRecDepth 65536 in
theorem w_t8 : ((((((((words1.drop 24).drop 24).drop 24).drop 24).drop 24).drop 24).drop 24).take 24).all (fun c => isCode c || c.before args0 about1) = true := by decide +kernel
set_option maxRecDepth 65536 in
theorem w_t9 : (((((((((words1.drop 24).drop 24).drop 24).drop 24).drop 24).drop 24).drop 24).drop 24).take 24).all (fun c => isCode c || c.before args0 about1) = true := by decide +kernel
set_option maxRecDepth 65536 in
theorem w_t10 : ((((((((((words1.drop 24).drop 24).drop 24).drop 24).drop 24).drop 24).drop 24).drop 24).drop 24).take 24).all (fun c => isCode c || c.before args0 about1) = true := by decide +kernel
set_option maxRecDepth 65536 in
theorem w_t11 : ((((((((((words1.drop 24).drop 24).drop 24).drop 24).drop 24).drop 24).drop 24).drop 24).drop 24).drop 24).all (fun c => isCode c || c.before args0 about1) = true := by decide +kernel
theorem w_tables : (allAtoms (Jvm.Cond.code x code maxLocals ret :: tables_1)).before args0 about1 = true := by
  rw [allAtoms_all]
  show words1.all (fun c => c.before args0 about1) = true
  refine all_split ?_ w_codes
  rw [← List.take_append_drop 24 words1, List.all_append, w_t1, ← List.take_append_drop 24 (words1.drop 24), List.all_append, w_t2, ← List.take_append_drop 24 ((words1.drop 24).drop 24), List.all_append, w_t3, ← List.take_append_drop 24 (((words1.drop 24).drop 24).drop 24), List.all_append, w_t4, ← List.take_append_drop 24 ((((words1.drop 24).drop 24).drop 24).drop 24), List.all_append, w_t5, ← List.take_append_drop 24 (((((words1.drop 24).drop 24).drop 24).drop 24).drop 24), List.all_append, w_t6, ← List.take_append_drop 24 ((((((words1.drop 24).drop 24).drop 24).drop 24).drop 24).drop 24), List.all_append, w_t7, ← List.take_append_drop 24 (((((((words1.drop 24).drop 24).drop 24).drop 24).drop 24).drop 24).drop 24), List.all_append, w_t8, ← List.take_append_drop 24 ((((((((words1.drop 24).drop 24).drop 24).drop 24).drop 24).drop 24).drop 24).drop 24), List.all_append, w_t9, ← List.take_append_drop 24 (((((((((words1.drop 24).drop 24).drop 24).drop 24).drop 24).drop 24).drop 24).drop 24).drop 24), List.all_append, w_t10, w_t11]
  rfl
set_option maxRecDepth 65536 in
theorem w_rest : rest_1_c.before args0 about1 = true := by decide +kernel
set_option maxRecDepth 65536 in
theorem w_case : (Jvm.Cond.and given_1 narrow_1).before args0 about1 = true := by decide +kernel
set_option maxRecDepth 65536 in
theorem w_consts : constsHeld consts_1 about1 := Jvm.Lit.constsHeldB_iff.mp (by decide +kernel)
theorem w_applies : (headSpec (Jvm.Cond.code x code maxLocals ret :: tables_1) room_1).applies x e0.platform about1 = true :=
  (Spec.applies_iff w_frames).mpr ⟨w_running, w_runnable, w_alone, w_named, w_hears, w_ripe, w_room, w_tables⟩
theorem atStart : AtStart classFile x code maxLocals ret World_1 tables_1 room_1 Calls_1 rest_1 Pre_1 launch0 p0 e0 about1 theMethod args0 below0 :=
  ⟨lists_1, trivial, launch0.admits_env _ _ _, launch0.least_env, fairChoices_fair.cas, fairChoices_fair.clock, w_frames, w_args, w_heap, w_applies, ⟨w_consts, trivial⟩, w_rest, w_case⟩
end start1
theorem witness_1 : WitnessClaimed_1 := ⟨start1.p0, start1.e0, start1.about1, start1.theMethod, start1.args0, start1.below0, start1.atStart⟩
end Jvm.Pilot.@@N@@
